import JvmDerived
import JvmDerived.Pilot.@@N@@Statement
import JvmDerived.Pilot.@@N@@Code
set_option linter.unusedVariables false
set_option linter.unusedSimpArgs false
namespace Jvm.Pilot.@@N@@
open Jvm Jvm.ClassFile Sem Op Lib Jvm.Free Jvm.Stand Jvm.LawKit Jvm.RoadKit Bundle Jvm.Pilot.@@N@@.Jvm.D
/-- the run from S ends as G says -/
def own_Fin (p : Program) (e : Env) (below : List Frame) (G : Outcome → State → Prop) (S : State) : Prop :=
  ∃ t o, Steps p.tables e below S t ∧ t.status = .running ∧ Ended t below o ∧ G o t
theorem own_go {p : Program} {e : Env} {below : List Frame} {G : Outcome → State → Prop} {S S' : State} (h : Steps p.tables e below S S') (k : own_Fin p e below G S') : own_Fin p e below G S := by
  obtain ⟨t, o, h1, h2, h3, h4⟩ := k
  exact ⟨t, o, h.trans h1, h2, h3, h4⟩
theorem own_by {p : Program} {e : Env} {below : List Frame} {G : Outcome → State → Prop} {S S' : State} (h : ∀ t, Steps p.tables e below S' t → Steps p.tables e below S t) (k : own_Fin p e below G S') : own_Fin p e below G S := by
  obtain ⟨t, o, h1, h2, h3, h4⟩ := k
  exact ⟨t, o, h t h1, h2, h3, h4⟩
theorem own_done {p : Program} {e : Env} {below : List Frame} {G : Outcome → State → Prop} {S t : State} {o : Outcome} (h1 : Steps p.tables e below S t) (h2 : t.status = .running) (h3 : Ended t below o) (h4 : G o t) : own_Fin p e below G S := ⟨t, o, h1, h2, h3, h4⟩
def own_get (rs : List Int32) (j : Int32) : Int32 := rs.getD j.toNatClampNeg 0
theorem own_getD (rs : List Int32) (j : Int32) : (rs.map Value.int).getD j.toNatClampNeg (.int (0 : Int32)) = .int (own_get rs j) := by
  unfold own_get
  rw [List.getD_eq_getElem?_getD, List.getD_eq_getElem?_getD, List.getElem?_map]
  cases rs[j.toNatClampNeg]? <;> rfl
theorem own_retI {p : Program} {l : Launch} {e : Env} {R : Room} {s : State} {m : MethodId} {args : Array Value} {below : List Frame} {meth : Method} {c : Code} {T : State} {locs : List Loc} {cells slots : Nat} (X : Stand p l e R s m args below meth c T locs cells slots) (hx : p.tables.exec = Jvm.exec) {pc : Nat} {Ls : Array Slot} {z : Int32} {rest : List Value} (hret : meth.sig.returnType = some .int) (hd : decode c.code pc = .ok (.ireturn, 1)) {fs : List Frame}
    (hl : ∀ (f : JFrame) (acts : List Action), f.method = m → f.locked = none → f.entered = [] → (doReturn e (T.setTop f) acts (some (.int z))).1 = T.setFrames fs) : Steps p.tables e below (T.setTop (mkF m pc Ls (.int z :: rest))) (T.setFrames fs) :=
  retOut X hx hret rfl (Or.inl ⟨rfl, Or.inl rfl, z, rfl⟩) hd hl
section OwnLit
open Jvm.Free.SB Jvm.Free.SBG
variable {p : Program} {l : Launch} {e : Env} {R : Room} {s : State} {m : MethodId} {args : Array Value} {below : List Frame} {meth : Method} {c : Code} {T : State} {locs : List Loc} {cells slots : Nat} {Z : State} {a0 : Array Value} {h : Heap} {vm0 : Vm} {own text : String} {index : Nat} {Ts : List String}
/-- what an ordinary compact String of known text is, in the family's facts, and that her bytes lie in a byte[] by name -/
theorem own_sl {U : State} {a : Addr} {units : Array UInt16} {lo hi : Nat} {vs : List Value} {z : Int32} (hal : Z.vm.Alike U.vm) (hlat : units.all (· < 256) = true) (S : SlIn lo hi U a units)
    (ev : units.toList.map (fun u => Value.int (Jvm.Lit.byteI u)) = vs) (hz : ¬ z < 0) (hl : z.toNatClampNeg = vs.length) :
    ∃ (b : Addr) (k : ClassId), Exa Z U.heap a "java/lang/String" ∧ Fld Z U.heap a "java/lang/String" "coder" "B" (.int 0) ∧ Fld Z U.heap a "java/lang/String" "value" "[B" (.ref b) ∧ Arv Z U.heap b k .byte z vs (.int 0) ∧ Exa Z U.heap b "[B" := by
  obtain ⟨q, cS, rfl, ⟨⟨s1, s2, s3, ⟨cv, kv, iv, s4, s4'⟩, ⟨cc, kc, ic, s5, s5'⟩, s6, s7, s8, s9, s10, s11, s12, s13, s14, s15, s16⟩, hfS, hcS⟩, ⟨kS, k1, k2, k3⟩, hB, hbyt, -⟩ := S
  obtain ⟨kv', z4⟩ := ff_back hal s4
  obtain ⟨kc', z5⟩ := ff_back hal s5
  have fS : Z.vm.findClass "java/lang/String" = some q.sC.cls := by rw [← hal.findClass, hcS]; exact hfS
  have fB : Z.vm.findClass "[B" = some q.SA.cls := by rw [← hal.findClass]; exact hB
  obtain ⟨kz, c1, -⟩ := Vm.findClass_spec fS
  obtain ⟨kz', c2, c3⟩ := hal.2.2 _ _ c1
  have c4 : kz' = kS := Option.some.inj (c2.symm.trans (hcS ▸ k1))
  have arr : Z.isArrayOf q.SA .byte := State.isArrayOf_alike (T := Z) hal.symm s11
  obtain ⟨-, kb, b1, comp, b2⟩ := id arr
  have hsl : q.SA.slots = units.map fun u => Value.int (Jvm.Lit.byteI u) := by rw [hbyt, SBG.stringBytes_lat hlat]; rfl
  have hsz : q.SA.slots.size = z.toNatClampNeg := by rw [hsl, Array.size_map, hl, ← ev, List.length_map, Array.length_toList]
  have has : Has q.SA vs (.int 0) := fun j hj => by
    rw [hsl, Array.size_map] at hj
    rw [hsl, ← ev]; simp [hj]
  refine ⟨q.sd, q.SA.cls, ⟨q.sC, kz, s1, fS, c1, s3, fun _ => by rw [k3, ← c4, c3]⟩, ⟨q.sC, cc, kc', ic, q.fSC, s1, z5, s7, s2, s3, by rw [← hal.assignable]; exact s5', s9⟩, ⟨q.sC, cv, kv', iv, q.fSV, s1, z4, s6, s2, s3, by rw [← hal.assignable]; exact s4', s8⟩, ⟨q.SA, ⟨s10, arr, s12⟩, rfl, hsz, hz, has, fun j hj => ?_⟩, ⟨q.SA, kb, s10, fB, b1, ?_, fun w => by rw [b2] at w; cases w⟩⟩
  · have e1 := s16 j hj
    rwa [SBG.getD_of (has j hj)] at e1
  · cases hv : q.SA.vm <;> first | rfl | exact absurd hv (arr.1 _)
theorem own_ldcE (X : Stand p l e R (s.setVm vm0) m args below meth c T locs cells slots) (hx : p.tables.exec = Jvm.exec) (hZ : Z.Warmed39 vm0) (hown : vm0.findClass own = some m.cls) (w : (Jvm.Cond.stringLink own index text).before a0 Z = true) (wS : ∀ a ∈ Bundle.stringAtoms, a.before a0 Z = true)
    (eT : T.heap = h) {k0 : Nat} (hS : s.Since vm0 k0) (hk : k0 ≤ h.size) (N : Fr s.heap.size locs) (hkeep : ∀ (b : Addr) (cl : Cell), Z.heap[b]? = some cl → s.heap[b]? = some cl) (I : IB Z vm0 Ts) (hnot : text ∉ Ts) (hh : Jvm.Lit.constHeld Z own index) (hcw : Jvm.Lit.compactW.before a0 Z = true)
    {vs : List Value} {z : Int32} (ht : (∀ c ∈ text.toList, c.toNat < 256) ∧ text.toList.map (fun c => Value.int (Jvm.Lit.byteI c.toNat.toUInt16)) = vs) (hz : ¬ z < 0) (hl : z.toNatClampNeg = vs.length)
    {g : JFrame} (hg : g.method = m) (hd : decode c.code g.pc = .ok (.ldc index, 2)) {n : Nat} (hn : 4 * text.toList.length ≤ n) (hbig : n ≤ 536870912) (hc : cells + 2 ≤ R.cells) (hl' : slots + (n + 4) ≤ R.slots) :
    ∃ (a : Addr) (T' : State) (h' : Heap) (k1 : Nat) (b : Addr) (k : ClassId), Stand p l e R (s.setVm T'.vm) m args below meth c T' locs (cells + 2) (slots + (n + 4)) ∧ T'.heap = h' ∧ Ext h h' ∧ s.Since T'.vm k1 ∧ k1 ≤ h'.size ∧ Z.Warmed39 (s.setVm T'.vm).vm ∧ (s.setVm T'.vm).vm.findClass own = some m.cls ∧
      Exa Z h' a "java/lang/String" ∧ Fld Z h' a "java/lang/String" "coder" "B" (.int 0) ∧ Fld Z h' a "java/lang/String" "value" "[B" (.ref b) ∧ Arv Z h' b k .byte z vs (.int 0) ∧ Exa Z h' b "[B" ∧ IB Z T'.vm (text :: Ts) ∧
      ∀ target, Steps p.tables e below (T'.setTop { g with pc := g.pc + 2, stack := .ref a :: g.stack }) target → Steps p.tables e below (T.setTop g) target := by
  have mvw : ∀ d ∈ Bundle.stringAtoms, d.before args (s.setVm vm0) = true := fun d hd => by
    have q := wS d hd
    simp only [Bundle.stringAtoms, List.mem_cons, List.not_mem_nil, or_false] at hd
    rcases hd with rfl | rfl | rfl | rfl | rfl | rfl | rfl
    · exact mv (s := s.setVm vm0) hZ q
    · exact mv (s := s.setVm vm0) hZ q
    · exact mvA (s := s.setVm vm0) hZ q
    · exact mv (s := s.setVm vm0) hZ q
    · exact mv (s := s.setVm vm0) hZ q
    · exact mv (s := s.setVm vm0) hZ q
    · exact mv (s := s.setVm vm0) hZ q
  have held : ConstHeldL (s.setVm vm0) own index := heldCarry hZ w I hnot hkeep (heldStart hh w ht.1 hcw (wS _ (by simp [Bundle.stringAtoms])) (wS _ (by simp [Bundle.stringAtoms, Bundle.sN])))
  obtain ⟨a, T', X', hS', -, hb, -, hint, ⟨units, htext, hin⟩, st⟩ := X.ldcColdF (oldF X N) hx (own := own) hown (mvS hZ w) mvw held (fun units hu => Jvm.ClassFile.lat_of_text hu ht.1) hg hd hn hbig hc hl'
  subst eT
  have E := ext_of hb
  have hW : Z.Warmed39 T'.vm := State.Warmed39.trans (t := s.setVm vm0) hZ hS'.1
  have eu : units.toList.map (fun u => Value.int (Jvm.Lit.byteI u)) = vs := by rw [← ht.2, Jvm.ClassFile.units_of_text htext ht.1, List.map_map]; rfl
  obtain ⟨b, k, f1, f2, f3, f4, f5⟩ := own_sl hW.alike (Jvm.ClassFile.lat_of_text htext ht.1) hin eu hz hl
  refine ⟨a, T', _, _, b, k, X', rfl, E, hS.trans hS' (Nat.le_trans hk E.1), Nat.le_refl _, hW, ?_, f1, f2, f3, f4, f5, I.step (by rw [← show T.vm.interned = vm0.interned from X.warmed.interned_eq]; exact hint), st⟩
  show T'.vm.findClass own = some m.cls
  rw [hS'.1.alike.findClass]; exact hown
end OwnLit
theorem d3_0 : decode jdk_22_method_1_code 0 = .ok (.aload_n 0, 1) := by decide +kernel
theorem d3_1 : decode jdk_22_method_1_code 1 = .ok (.invokespecial 1, 3) := by decide +kernel
theorem d3_4 : decode jdk_22_method_1_code 4 = .ok (.return_, 1) := by decide +kernel
theorem pn_java_util_AbstractCollection : plainName "java/util/AbstractCollection" = true := by first | (simp [plainName, overriddenIn]; done) | decide +kernel
theorem ef_ac (m : MethodId) (x0 : Addr) : entryFrame m #[(.ref x0)] 1 = mkF m 0 #[.val (.ref x0)] [] := by first | (simp [entryFrame, mkF, argsToLocals, Value.category]; done) | rfl
def Qac (Z : State) (a1 : Addr) (h0 : Heap) (n0 : Nat) (v : Option Value) (h : Heap) (L : List Loc) : Prop := v = none ∧ Fr n0 L ∧ h = h0
abbrev Gac (Z : State) (a1 : Addr) (h0 : Heap) (n0 : Nat) (s : State) : Outcome → State → Prop := fun o U' => ∃ v L, o = .returned v ∧ Qac Z a1 h0 n0 v U'.heap L ∧ FrameEnd s o U' L ({ frames := 1, cells := 0, slots := 0, locals := 12 } : Room).cells ({ frames := 1, cells := 0, slots := 0, locals := 12 } : Room).slots
set_option maxRecDepth 65536 in
set_option maxHeartbeats 40000000 in
theorem rmac (l : Launch) (Z : State) (a0 : Array Value) (hw : ∀ d ∈ tables_1, d.before a0 Z = true) (ws : List Jvm.Cond) (a1 : Addr) (h0 : Heap) (n0 : Nat) (Z0 : n0 ≤ h0.size)  :
    MetFree l (⟨"java/util/AbstractCollection", "<init>", "()V"⟩ : MethodName) (head1 (Jvm.Cond.code (⟨"java/util/AbstractCollection", "<init>", "()V"⟩ : MethodName) jdk_22_method_1_code 1 none :: ws) ({ frames := 1, cells := 0, slots := 0, locals := 12 } : Room)) (fun a U => a = #[(.ref a1)] ∧ Z.Warmed39 U.vm ∧ U.heap = h0) (fun _ _ _ _ _ => True) (fun _ U o U' => ∃ v L, o = .returned v ∧ Qac Z a1 h0 n0 v U'.heap L ∧ FrameEnd U o U' L ({ frames := 1, cells := 0, slots := 0, locals := 12 } : Room).cells ({ frames := 1, cells := 0, slots := 0, locals := 12 } : Room).slots) := by
  refine MetFree.of_bodySF (plainFor_of_name pn_java_util_AbstractCollection) hisR ?_
  intro p e s m args below meth c s₁ Bd hml0 hP hK
  obtain ⟨rfl, hZ, hh⟩ := hP
  have hx := Bd.exec
  have hby := Bd.bytes
  have hml : c.maxLocals = 1 := hml0
  have hown : s.vm.findClass "java/util/AbstractCollection" = some m.cls := findClass_of_methodNamed Bd.named
  have hnm := (name_of_methodNamed Bd.named Bd.method).1
  have X0 : Stand p l e ({ frames := 1, cells := 0, slots := 0, locals := 12 } : Room) s m #[(.ref a1)] below meth c s₁ [] 0 0 := Stand.of_body Bd
  have e0 : s₁.heap = h0 := by rw [← hh, Bd.state]; rfl
  have es0 : s.heap = h0 := hh
  have N0 := Fr.nil n0
  show own_Fin p e below (Gac Z a1 h0 n0 s) (s₁.setTop (entryFrame m #[(.ref a1)] 1))
  rw [ef_ac m a1]
  refine own_go (XS.aloadN X0.here hx rfl (hb hby d3_0) rfl rfl (Steps.refl _)) ?_
  show own_Fin _ _ _ _ (s₁.setTop (mkF m 1 #[rv a1] [(.ref a1)]))
  obtain ⟨T1, X1, e1, st1⟩ := initO X0 hx hZ hown (hw _ (List.mem_of_getElem? (i := 18) rfl)) (hw _ (List.mem_of_getElem? (i := 19) rfl)) (hw _ (List.mem_of_getElem? (i := 20) rfl)) e0 (g := (mkF m 1 #[rv a1] [(.ref a1)])) rfl (by rw [hml]; rfl) rfl (hb hby d3_1) (by decide) (W := 0) (by show 2 * 0 + _ ≤ _; exact Nat.le_of_eq rfl) (by decide)
  refine own_by st1 ?_
  show own_Fin _ _ _ _ (T1.setTop (mkF m 4 #[rv a1] []))
  obtain ⟨fs2, hr2, hrun2, hended2, hW2, hsame2⟩ := X1.leave (v := none) (fun _ => rfl)
  refine own_done (X1.returnOut hx Bd.returns (hb hby d3_4) hr2) hrun2 hended2 ⟨_, _, rfl, ?_, ⟨_, rfl⟩, hW2, hsame2.mono (by decide) (by decide)⟩
  show Qac Z a1 h0 n0 _ T1.heap _
  rw [e1]
  exact ⟨rfl, N0, rfl⟩
theorem d2_0 : decode jdk_39_method_1_code 0 = .ok (.aload_n 0, 1) := by decide +kernel
theorem d2_1 : decode jdk_39_method_1_code 1 = .ok (.invokespecial 1, 3) := by decide +kernel
theorem d2_4 : decode jdk_39_method_1_code 4 = .ok (.aload_n 0, 1) := by decide +kernel
theorem d2_5 : decode jdk_39_method_1_code 5 = .ok (.iconst 0, 1) := by decide +kernel
theorem d2_6 : decode jdk_39_method_1_code 6 = .ok (.putfield 7, 3) := by decide +kernel
theorem d2_9 : decode jdk_39_method_1_code 9 = .ok (.return_, 1) := by decide +kernel
theorem pn_java_util_AbstractList : plainName "java/util/AbstractList" = true := by first | (simp [plainName, overriddenIn]; done) | decide +kernel
theorem ef_ab (m : MethodId) (x0 : Addr) : entryFrame m #[(.ref x0)] 1 = mkF m 0 #[.val (.ref x0)] [] := by first | (simp [entryFrame, mkF, argsToLocals, Value.category]; done) | rfl
def Qab (Z : State) (a1 : Addr) (h0 : Heap) (n0 : Nat) (v : Option Value) (h : Heap) (L : List Loc) : Prop := v = none ∧ Fr n0 L ∧ Keep h0 h [a1] ∧ Exa Z h a1 "java/util/ArrayList" ∧ Fld Z h a1 "java/util/AbstractList" "modCount" "I" (.int (0 : Int32)) ∧ Fld Z h a1 "java/util/ArrayList" "elementData" "[Ljava/lang/Object;" .null ∧ Fld Z h a1 "java/util/ArrayList" "size" "I" (.int (0 : Int32))
abbrev Gab (Z : State) (a1 : Addr) (h0 : Heap) (n0 : Nat) (s : State) : Outcome → State → Prop := fun o U' => ∃ v L, o = .returned v ∧ Qab Z a1 h0 n0 v U'.heap L ∧ FrameEnd s o U' L ({ frames := 2, cells := 0, slots := 0, locals := 24 } : Room).cells ({ frames := 2, cells := 0, slots := 0, locals := 24 } : Room).slots
theorem pd__28__29_V : parseMethodDescriptor "()V" = some ⟨[], none⟩ := by decide +kernel
set_option maxRecDepth 65536 in
set_option maxHeartbeats 40000000 in
theorem rmab (l : Launch) (Z : State) (a0 : Array Value) (hw : ∀ d ∈ tables_1, d.before a0 Z = true) (ws : List Jvm.Cond) (a1 : Addr) (h0 : Heap) (n0 : Nat) (Z0 : n0 ≤ h0.size) (E_a1 : Exa Z h0 a1 "java/util/ArrayList") (F_modCount_a1 : Fld Z h0 a1 "java/util/AbstractList" "modCount" "I" (.int (0 : Int32))) (F_elementData_a1 : Fld Z h0 a1 "java/util/ArrayList" "elementData" "[Ljava/lang/Object;" .null) (F_size_a1 : Fld Z h0 a1 "java/util/ArrayList" "size" "I" (.int (0 : Int32))) (g_a1 : n0 ≤ a1) :
    MetFree l (⟨"java/util/AbstractList", "<init>", "()V"⟩ : MethodName) (head1 (Jvm.Cond.code (⟨"java/util/AbstractList", "<init>", "()V"⟩ : MethodName) jdk_39_method_1_code 1 none :: ws) ({ frames := 2, cells := 0, slots := 0, locals := 24 } : Room)) (fun a U => a = #[(.ref a1)] ∧ Z.Warmed39 U.vm ∧ U.heap = h0) (fun _ _ _ _ _ => True) (fun _ U o U' => ∃ v L, o = .returned v ∧ Qab Z a1 h0 n0 v U'.heap L ∧ FrameEnd U o U' L ({ frames := 2, cells := 0, slots := 0, locals := 24 } : Room).cells ({ frames := 2, cells := 0, slots := 0, locals := 24 } : Room).slots) := by
  refine MetFree.of_bodySF (plainFor_of_name pn_java_util_AbstractList) hisR ?_
  intro p e s m args below meth c s₁ Bd hml0 hP hK
  obtain ⟨rfl, hZ, hh⟩ := hP
  have hx := Bd.exec
  have hby := Bd.bytes
  have hml : c.maxLocals = 1 := hml0
  have hown : s.vm.findClass "java/util/AbstractList" = some m.cls := findClass_of_methodNamed Bd.named
  have hnm := (name_of_methodNamed Bd.named Bd.method).1
  have X0 : Stand p l e ({ frames := 2, cells := 0, slots := 0, locals := 24 } : Room) s m #[(.ref a1)] below meth c s₁ [] 0 0 := Stand.of_body Bd
  have e0 : s₁.heap = h0 := by rw [← hh, Bd.state]; rfl
  have es0 : s.heap = h0 := hh
  have N0 := Fr.nil n0
  show own_Fin p e below (Gab Z a1 h0 n0 s) (s₁.setTop (entryFrame m #[(.ref a1)] 1))
  rw [ef_ab m a1]
  have Kz := Keep.refl h0 [a1]
  refine own_go (XS.aloadN X0.here hx rfl (hb hby d2_0) rfl rfl (Steps.refl _)) ?_
  show own_Fin _ _ _ _ (s₁.setTop (mkF m 1 #[rv a1] [(.ref a1)]))
  obtain ⟨_, _, ⟨T3, L3, k3, n3⟩, -, X3, ⟨Lc3, hQ3, l3, y3, z3⟩, st3⟩ := X0.specialBack hx (y := (⟨"java/util/AbstractCollection", "<init>", "()V"⟩ : MethodName)) rfl hown (mvT hZ (hw _ (List.mem_of_getElem? (i := 12) rfl))) (mvT hZ (hw _ (List.mem_of_getElem? (i := 13) rfl))) (mvT hZ (hw _ (List.mem_of_getElem? (i := 17) rfl))) (by decide) (backOf (W := 0) (rmac l Z a0 hw [] a1 h0 n0 Z0) hZ (hw _ (List.mem_of_getElem? (i := 17) rfl)) (hw _ (List.mem_of_getElem? (i := 16) rfl)) (by decide) (by decide)) (g := (mkF m 1 #[rv a1] [(.ref a1)])) rfl (by rw [hml]; rfl) (Steps.refl _) (a := a1) (argsL := []) (rest := []) (lenOf pd__28__29_V rfl) rfl (by show 2 * 0 + _ ≤ _; exact Nat.le_of_eq rfl) (hb hby d2_1) (fun _ _ => ⟨rfl, e0, (by decide : 0 + 0 ≤ _), (by decide : 0 + 0 ≤ _)⟩)
  dsimp only [Pt.U, Pt.locs, Pt.cells, Pt.slots] at X3 l3 y3 z3 st3 hQ3
  subst l3 y3 z3
  obtain ⟨rfl, Nq3, e3⟩ := hQ3
  refine own_go st3 ?_
  have N3 := Fr.app N0 Nq3
  show own_Fin _ _ _ _ (T3.setTop (mkF m 4 #[rv a1] []))
  refine own_go (XS.aloadN X3.here hx rfl (hb hby d2_4) rfl rfl (Steps.refl _)) ?_
  show own_Fin _ _ _ _ (T3.setTop (mkF m 5 #[rv a1] [(.ref a1)]))
  refine own_go (XS.iconst X3.here hx rfl (hb hby d2_5) (Steps.refl _)) ?_
  show own_Fin _ _ _ _ (T3.setTop (mkF m 6 #[rv a1] [(.int (0 : Int32)), (.ref a1)]))
  obtain ⟨T4, h4, X4, e4, W4, st4⟩ := putF X3 hx hZ hown (host := "") (Or.inl (hw _ (List.mem_of_getElem? (i := 21) rfl))) Via.refl e3 F_modCount_a1 E_a1 (Or.inl (hw _ (List.mem_of_getElem? (i := 22) rfl))) (hw _ (List.mem_of_getElem? (i := 1) rfl)) (ty := .int) (by decide) rfl rfl (g := (mkF m 6 #[rv a1] [(.int (0 : Int32)), (.ref a1)])) rfl rfl (hb hby d2_6)
  refine own_by st4 ?_
  have F_modCount_a1_4 := F_modCount_a1.same W4
  have E_a1_4 := E_a1.wr W4
  have F_elementData_a1_4 := F_elementData_a1.other W4 (Or.inr (slot_ne (Or.inl (hw _ (List.mem_of_getElem? (i := 25) rfl))) (Or.inl (hw _ (List.mem_of_getElem? (i := 22) rfl))) (by decide) (t := (.array (.object "java/lang/Object"))) (t' := .int) (by decide) (by decide)))
  have F_size_a1_4 := F_size_a1.other W4 (Or.inr (slot_ne (Or.inl (hw _ (List.mem_of_getElem? (i := 43) rfl))) (Or.inl (hw _ (List.mem_of_getElem? (i := 22) rfl))) (by decide) (t := .int) (t' := .int) (by decide) (by decide)))
  have N4 := Fr.snoc X4 N3 g_a1
  have Z4 : n0 ≤ h4.size := Nat.le_trans Z0 (Keep.of_wr W4).1
  have K4 := Kz.wr W4 (Or.inl (List.mem_of_getElem? (i := 0) rfl))
  show own_Fin _ _ _ _ (T4.setTop (mkF m 9 #[rv a1] []))
  obtain ⟨fs5, hr5, hrun5, hended5, hW5, hsame5⟩ := X4.leave (v := none) (fun _ => rfl)
  refine own_done (X4.returnOut hx Bd.returns (hb hby d2_9) hr5) hrun5 hended5 ⟨_, _, rfl, ?_, ⟨_, rfl⟩, hW5, hsame5.mono (by decide) (by decide)⟩
  show Qab Z a1 h0 n0 _ T4.heap _
  rw [e4]
  exact ⟨rfl, N4, K4, E_a1_4, F_modCount_a1_4, F_elementData_a1_4, F_size_a1_4⟩
theorem d1_0 : decode jdk_38_method_2_code 0 = .ok (.aload_n 0, 1) := by decide +kernel
theorem d1_1 : decode jdk_38_method_2_code 1 = .ok (.invokespecial 1, 3) := by decide +kernel
theorem d1_4 : decode jdk_38_method_2_code 4 = .ok (.aload_n 0, 1) := by decide +kernel
theorem d1_5 : decode jdk_38_method_2_code 5 = .ok (.getstatic 39, 3) := by decide +kernel
theorem d1_8 : decode jdk_38_method_2_code 8 = .ok (.putfield 9, 3) := by decide +kernel
theorem d1_11 : decode jdk_38_method_2_code 11 = .ok (.return_, 1) := by decide +kernel
theorem pn_java_util_ArrayList : plainName "java/util/ArrayList" = true := by first | (simp [plainName, overriddenIn]; done) | decide +kernel
theorem ef_ali (m : MethodId) (x0 : Addr) : entryFrame m #[(.ref x0)] 1 = mkF m 0 #[.val (.ref x0)] [] := by first | (simp [entryFrame, mkF, argsToLocals, Value.category]; done) | rfl
def Qali (Z : State) (a1 : Addr) (dd : Addr) (h0 : Heap) (n0 : Nat) (v : Option Value) (h : Heap) (L : List Loc) : Prop := v = none ∧ Fr n0 L ∧ Keep h0 h [a1] ∧ Exa Z h a1 "java/util/ArrayList" ∧ Fld Z h a1 "java/util/AbstractList" "modCount" "I" (.int (0 : Int32)) ∧ Fld Z h a1 "java/util/ArrayList" "elementData" "[Ljava/lang/Object;" (.ref dd) ∧ Fld Z h a1 "java/util/ArrayList" "size" "I" (.int (0 : Int32))
abbrev Gali (Z : State) (a1 : Addr) (dd : Addr) (h0 : Heap) (n0 : Nat) (s : State) : Outcome → State → Prop := fun o U' => ∃ v L, o = .returned v ∧ Qali Z a1 dd h0 n0 v U'.heap L ∧ FrameEnd s o U' L ({ frames := 3, cells := 0, slots := 0, locals := 36 } : Room).cells ({ frames := 3, cells := 0, slots := 0, locals := 36 } : Room).slots
set_option maxRecDepth 65536 in
set_option maxHeartbeats 40000000 in
theorem rmali (l : Launch) (Z : State) (a0 : Array Value) (hw : ∀ d ∈ tables_1, d.before a0 Z = true) (ws : List Jvm.Cond) (a1 : Addr) (dd : Addr) (h0 : Heap) (n0 : Nat) (Z0 : n0 ≤ h0.size) (E_a1 : Exa Z h0 a1 "java/util/ArrayList") (F_modCount_a1 : Fld Z h0 a1 "java/util/AbstractList" "modCount" "I" (.int (0 : Int32))) (F_elementData_a1 : Fld Z h0 a1 "java/util/ArrayList" "elementData" "[Ljava/lang/Object;" .null) (F_size_a1 : Fld Z h0 a1 "java/util/ArrayList" "size" "I" (.int (0 : Int32))) (g_a1 : n0 ≤ a1) (O0 : Old Z n0 h0) (S_DEFAULTCAPACITY_EMPTY_ELEMENTDATA : Sta Z Z.heap "java/util/ArrayList" "DEFAULTCAPACITY_EMPTY_ELEMENTDATA" "[Ljava/lang/Object;" (.ref dd)) :
    MetFree l (⟨"java/util/ArrayList", "<init>", "()V"⟩ : MethodName) (head1 (Jvm.Cond.code (⟨"java/util/ArrayList", "<init>", "()V"⟩ : MethodName) jdk_38_method_2_code 1 none :: ws) ({ frames := 3, cells := 0, slots := 0, locals := 36 } : Room)) (fun a U => a = #[(.ref a1)] ∧ Z.Warmed39 U.vm ∧ U.heap = h0) (fun _ _ _ _ _ => True) (fun _ U o U' => ∃ v L, o = .returned v ∧ Qali Z a1 dd h0 n0 v U'.heap L ∧ FrameEnd U o U' L ({ frames := 3, cells := 0, slots := 0, locals := 36 } : Room).cells ({ frames := 3, cells := 0, slots := 0, locals := 36 } : Room).slots) := by
  refine MetFree.of_bodySF (plainFor_of_name pn_java_util_ArrayList) hisR ?_
  intro p e s m args below meth c s₁ Bd hml0 hP hK
  obtain ⟨rfl, hZ, hh⟩ := hP
  have hx := Bd.exec
  have hby := Bd.bytes
  have hml : c.maxLocals = 1 := hml0
  have hown : s.vm.findClass "java/util/ArrayList" = some m.cls := findClass_of_methodNamed Bd.named
  have hnm := (name_of_methodNamed Bd.named Bd.method).1
  have X0 : Stand p l e ({ frames := 3, cells := 0, slots := 0, locals := 36 } : Room) s m #[(.ref a1)] below meth c s₁ [] 0 0 := Stand.of_body Bd
  have e0 : s₁.heap = h0 := by rw [← hh, Bd.state]; rfl
  have es0 : s.heap = h0 := hh
  have N0 := Fr.nil n0
  show own_Fin p e below (Gali Z a1 dd h0 n0 s) (s₁.setTop (entryFrame m #[(.ref a1)] 1))
  rw [ef_ali m a1]
  have Kz := Keep.refl h0 [a1]
  refine own_go (XS.aloadN X0.here hx rfl (hb hby d1_0) rfl rfl (Steps.refl _)) ?_
  show own_Fin _ _ _ _ (s₁.setTop (mkF m 1 #[rv a1] [(.ref a1)]))
  obtain ⟨_, _, ⟨T6, L6, k6, n6⟩, -, X6, ⟨Lc6, hQ6, l6, y6, z6⟩, st6⟩ := X0.specialBack hx (y := (⟨"java/util/AbstractList", "<init>", "()V"⟩ : MethodName)) rfl hown (mvT hZ (hw _ (List.mem_of_getElem? (i := 6) rfl))) (mvT hZ (hw _ (List.mem_of_getElem? (i := 7) rfl))) (mvT hZ (hw _ (List.mem_of_getElem? (i := 11) rfl))) (by decide) (backOf (W := 0) (rmab l Z a0 hw [] a1 h0 n0 Z0 E_a1 F_modCount_a1 F_elementData_a1 F_size_a1 g_a1) hZ (hw _ (List.mem_of_getElem? (i := 11) rfl)) (hw _ (List.mem_of_getElem? (i := 10) rfl)) (by decide) (by decide)) (g := (mkF m 1 #[rv a1] [(.ref a1)])) rfl (by rw [hml]; rfl) (Steps.refl _) (a := a1) (argsL := []) (rest := []) (lenOf pd__28__29_V rfl) rfl (by show 2 * 0 + _ ≤ _; exact Nat.le_of_eq rfl) (hb hby d1_1) (fun _ _ => ⟨rfl, e0, (by decide : 0 + 0 ≤ _), (by decide : 0 + 0 ≤ _)⟩)
  dsimp only [Pt.U, Pt.locs, Pt.cells, Pt.slots] at X6 l6 y6 z6 st6 hQ6
  subst l6 y6 z6
  refine own_go st6 ?_
  obtain ⟨rfl, Nq6, K6, r6_0, r6_1, r6_2, r6_3⟩ := hQ6
  have Od6 := O0.keep K6 (allS g_a1 all0)
  have E_a1_6 := E_a1.keep K6
  have Z6 : n0 ≤ T6.heap.size := Nat.le_trans Z0 K6.1
  have Kt6 := Kz.trans K6 (allS (P := fun x => x ∈ _ ∨ _ ≤ x) (Or.inl (List.mem_of_getElem? (i := 0) rfl)) all0)
  have N6 := Fr.app N0 Nq6
  show own_Fin _ _ _ _ (T6.setTop (mkF m 4 #[rv a1] []))
  refine own_go (XS.aloadN X6.here hx rfl (hb hby d1_4) rfl rfl (Steps.refl _)) ?_
  show own_Fin _ _ _ _ (T6.setTop (mkF m 5 #[rv a1] [(.ref a1)]))
  obtain ⟨T7, X7, e7, st7⟩ := getS2 X6 hx hZ hown (host := "") (Or.inl (hw _ (List.mem_of_getElem? (i := 23) rfl))) Via.refl rfl (S_DEFAULTCAPACITY_EMPTY_ELEMENTDATA.ext Od6.2) (g := (mkF m 5 #[rv a1] [(.ref a1)])) rfl (hb hby d1_5)
  refine own_by st7 ?_
  show own_Fin _ _ _ _ (T7.setTop (mkF m 8 #[rv a1] [(.ref dd), (.ref a1)]))
  obtain ⟨T8, h8, X8, e8, W8, st8⟩ := putF X7 hx hZ hown (host := "") (Or.inl (hw _ (List.mem_of_getElem? (i := 24) rfl))) Via.refl e7 r6_2 r6_0 (Or.inl (hw _ (List.mem_of_getElem? (i := 25) rfl))) (hw _ (List.mem_of_getElem? (i := 1) rfl)) (ty := (.array (.object "java/lang/Object"))) (by decide) rfl rfl (g := (mkF m 8 #[rv a1] [(.ref dd), (.ref a1)])) rfl rfl (hb hby d1_8)
  refine own_by st8 ?_
  have F_elementData_a1_8 := r6_2.same W8
  have Od8 := Od6.wr W8 g_a1
  have r6_0_8 := r6_0.wr W8
  have r6_1_8 := r6_1.other W8 (Or.inr (slot_ne (Or.inl (hw _ (List.mem_of_getElem? (i := 22) rfl))) (Or.inl (hw _ (List.mem_of_getElem? (i := 25) rfl))) (by decide) (t := .int) (t' := (.array (.object "java/lang/Object"))) (by decide) (by decide)))
  have r6_3_8 := r6_3.other W8 (Or.inr (slot_ne (Or.inl (hw _ (List.mem_of_getElem? (i := 43) rfl))) (Or.inl (hw _ (List.mem_of_getElem? (i := 25) rfl))) (by decide) (t := .int) (t' := (.array (.object "java/lang/Object"))) (by decide) (by decide)))
  have N8 := Fr.snoc X8 N6 g_a1
  have Z8 : n0 ≤ h8.size := Nat.le_trans Z6 (Keep.of_wr W8).1
  have K8 := Kt6.wr W8 (Or.inl (List.mem_of_getElem? (i := 0) rfl))
  show own_Fin _ _ _ _ (T8.setTop (mkF m 11 #[rv a1] []))
  obtain ⟨fs9, hr9, hrun9, hended9, hW9, hsame9⟩ := X8.leave (v := none) (fun _ => rfl)
  refine own_done (X8.returnOut hx Bd.returns (hb hby d1_11) hr9) hrun9 hended9 ⟨_, _, rfl, ?_, ⟨_, rfl⟩, hW9, hsame9.mono (by decide) (by decide)⟩
  show Qali Z a1 dd h0 n0 _ T8.heap _
  rw [e8]
  exact ⟨rfl, N8, K8, r6_0_8, r6_1_8, F_elementData_a1_8, r6_3_8⟩
theorem d16_0 : decode jdk_29_method_65_code 0 = .ok (.iload_n 0, 1) := by decide +kernel
theorem d16_1 : decode jdk_29_method_65_code 1 = .ok (.iload_n 1, 1) := by decide +kernel
theorem d16_2 : decode jdk_29_method_65_code 2 = .ok (.if_icmp .lt 7, 3) := by decide +kernel
theorem d16_5 : decode jdk_29_method_65_code 5 = .ok (.iload_n 0, 1) := by decide +kernel
theorem d16_6 : decode jdk_29_method_65_code 6 = .ok (.goto 4, 3) := by decide +kernel
theorem d16_9 : decode jdk_29_method_65_code 9 = .ok (.iload_n 1, 1) := by decide +kernel
theorem d16_10 : decode jdk_29_method_65_code 10 = .ok (.ireturn, 1) := by decide +kernel
theorem ef_max (m : MethodId) (x0 : Int32) (x1 : Int32) : entryFrame m #[(.int x0), (.int x1)] 2 = mkF m 0 #[.val (.int x0), .val (.int x1)] [] := by first | (simp [entryFrame, mkF, argsToLocals, Value.category]; done) | rfl
def Qmax (Z : State)  (h0 : Heap) (n0 : Nat) (v : Option Value) (h : Heap) (L : List Loc) : Prop := v = some (.int (10 : Int32)) ∧ Fr n0 L ∧ h = h0
abbrev Gmax (Z : State)  (h0 : Heap) (n0 : Nat) (s : State) : Outcome → State → Prop := fun o U' => ∃ v L, o = .returned v ∧ Qmax Z  h0 n0 v U'.heap L ∧ FrameEnd s o U' L ({ frames := 0, cells := 0, slots := 0, locals := 0 } : Room).cells ({ frames := 0, cells := 0, slots := 0, locals := 0 } : Room).slots
set_option maxRecDepth 65536 in
set_option maxHeartbeats 40000000 in
theorem rmmax (l : Launch) (Z : State) (a0 : Array Value) (hw : ∀ d ∈ tables_1, d.before a0 Z = true) (ws : List Jvm.Cond)  (h0 : Heap) (n0 : Nat) (Z0 : n0 ≤ h0.size)  :
    MetFree l (⟨"java/lang/Math", "max", "(II)I"⟩ : MethodName) (head1 (Jvm.Cond.code (⟨"java/lang/Math", "max", "(II)I"⟩ : MethodName) jdk_29_method_65_code 2 (some .int) :: ws) ({ frames := 0, cells := 0, slots := 0, locals := 0 } : Room)) (fun a U => a = #[(.int (10 : Int32)), (.int (1 : Int32))] ∧ Z.Warmed39 U.vm ∧ U.heap = h0) (fun _ _ _ _ _ => True) (fun _ U o U' => ∃ v L, o = .returned v ∧ Qmax Z  h0 n0 v U'.heap L ∧ FrameEnd U o U' L ({ frames := 0, cells := 0, slots := 0, locals := 0 } : Room).cells ({ frames := 0, cells := 0, slots := 0, locals := 0 } : Room).slots) := by
  refine MetFree.of_bodySF (Jvm.Free.JP.mathPlain rfl (by decide +kernel)) hisR ?_
  intro p e s m args below meth c s₁ Bd hml0 hP hK
  obtain ⟨rfl, hZ, hh⟩ := hP
  have hx := Bd.exec
  have hby := Bd.bytes
  have hml : c.maxLocals = 2 := hml0
  have hown : s.vm.findClass "java/lang/Math" = some m.cls := findClass_of_methodNamed Bd.named
  have hnm := (name_of_methodNamed Bd.named Bd.method).1
  have X0 : Stand p l e ({ frames := 0, cells := 0, slots := 0, locals := 0 } : Room) s m #[(.int (10 : Int32)), (.int (1 : Int32))] below meth c s₁ [] 0 0 := Stand.of_body Bd
  have e0 : s₁.heap = h0 := by rw [← hh, Bd.state]; rfl
  have es0 : s.heap = h0 := hh
  have N0 := Fr.nil n0
  show own_Fin p e below (Gmax Z  h0 n0 s) (s₁.setTop (entryFrame m #[(.int (10 : Int32)), (.int (1 : Int32))] 2))
  rw [ef_max m (10 : Int32) (1 : Int32)]
  refine own_go (XS.iloadN X0.here hx rfl (hb hby d16_0) rfl (Steps.refl _)) ?_
  show own_Fin _ _ _ _ (s₁.setTop (mkF m 1 #[iv (10 : Int32), iv (1 : Int32)] [(.int (10 : Int32))]))
  refine own_go (XS.iloadN X0.here hx rfl (hb hby d16_1) rfl (Steps.refl _)) ?_
  show own_Fin _ _ _ _ (s₁.setTop (mkF m 2 #[iv (10 : Int32), iv (1 : Int32)] [(.int (1 : Int32)), (.int (10 : Int32))]))
  refine own_go (XS.icmpNo X0.here hx rfl (hb hby d16_2) rfl (flt (by decide : ¬ ((10 : Int32) < (1 : Int32)))).1 (Steps.refl _)) ?_
  show own_Fin _ _ _ _ (s₁.setTop (mkF m 5 #[iv (10 : Int32), iv (1 : Int32)] []))
  refine own_go (XS.iloadN X0.here hx rfl (hb hby d16_5) rfl (Steps.refl _)) ?_
  show own_Fin _ _ _ _ (s₁.setTop (mkF m 6 #[iv (10 : Int32), iv (1 : Int32)] [(.int (10 : Int32))]))
  refine own_go (XS.goto X0.here hx rfl (pc0 := 6) (pc' := 10) rfl (hb hby d16_6) (by decide) (by decide) (Steps.refl _)) ?_
  show own_Fin _ _ _ _ (s₁.setTop (mkF m 10 #[iv (10 : Int32), iv (1 : Int32)] [(.int (10 : Int32))]))
  obtain ⟨fs10, hr10, hrun10, hended10, hW10, hsame10⟩ := X0.leave (v := some (.int (10 : Int32))) (fun h => by rw [Bd.returns] at h; cases h)
  refine own_done (own_retI X0 hx Bd.returns (hb hby d16_10) hr10) hrun10 hended10 ⟨_, _, rfl, ?_, ⟨_, rfl⟩, hW10, hsame10.mono (by decide) (by decide)⟩
  show Qmax Z  h0 n0 _ s₁.heap _
  rw [e0]
  exact ⟨rfl, N0, rfl⟩
theorem d15_0 : decode jdk_38_method_6_code 0 = .ok (.aload_n 0, 1) := by decide +kernel
theorem d15_1 : decode jdk_38_method_6_code 1 = .ok (.getfield 9, 3) := by decide +kernel
theorem d15_4 : decode jdk_38_method_6_code 4 = .ok (.arraylength, 1) := by decide +kernel
theorem d15_5 : decode jdk_38_method_6_code 5 = .ok (.istore_n 2, 1) := by decide +kernel
theorem d15_6 : decode jdk_38_method_6_code 6 = .ok (.iload_n 2, 1) := by decide +kernel
theorem d15_7 : decode jdk_38_method_6_code 7 = .ok (.ifCond .gt 13, 3) := by decide +kernel
theorem d15_10 : decode jdk_38_method_6_code 10 = .ok (.aload_n 0, 1) := by decide +kernel
theorem d15_11 : decode jdk_38_method_6_code 11 = .ok (.getfield 9, 3) := by decide +kernel
theorem d15_14 : decode jdk_38_method_6_code 14 = .ok (.getstatic 39, 3) := by decide +kernel
theorem d15_17 : decode jdk_38_method_6_code 17 = .ok (.if_acmp .eq 28, 3) := by decide +kernel
theorem d15_20 : decode jdk_38_method_6_code 20 = .ok (.iload_n 2, 1) := by decide +kernel
theorem d15_21 : decode jdk_38_method_6_code 21 = .ok (.iload_n 1, 1) := by decide +kernel
theorem d15_22 : decode jdk_38_method_6_code 22 = .ok (.iload_n 2, 1) := by decide +kernel
theorem d15_23 : decode jdk_38_method_6_code 23 = .ok (.isub, 1) := by decide +kernel
theorem d15_24 : decode jdk_38_method_6_code 24 = .ok (.iload_n 2, 1) := by decide +kernel
theorem d15_25 : decode jdk_38_method_6_code 25 = .ok (.iconst 1, 1) := by decide +kernel
theorem d15_26 : decode jdk_38_method_6_code 26 = .ok (.ishr, 1) := by decide +kernel
theorem d15_27 : decode jdk_38_method_6_code 27 = .ok (.invokestatic 73, 3) := by decide +kernel
theorem d15_30 : decode jdk_38_method_6_code 30 = .ok (.istore_n 3, 1) := by decide +kernel
theorem d15_31 : decode jdk_38_method_6_code 31 = .ok (.aload_n 0, 1) := by decide +kernel
theorem d15_32 : decode jdk_38_method_6_code 32 = .ok (.aload_n 0, 1) := by decide +kernel
theorem d15_33 : decode jdk_38_method_6_code 33 = .ok (.getfield 9, 3) := by decide +kernel
theorem d15_36 : decode jdk_38_method_6_code 36 = .ok (.iload_n 3, 1) := by decide +kernel
theorem d15_37 : decode jdk_38_method_6_code 37 = .ok (.invokestatic 66, 3) := by decide +kernel
theorem d15_40 : decode jdk_38_method_6_code 40 = .ok (.dup_x1, 1) := by decide +kernel
theorem d15_41 : decode jdk_38_method_6_code 41 = .ok (.putfield 9, 3) := by decide +kernel
theorem d15_44 : decode jdk_38_method_6_code 44 = .ok (.areturn, 1) := by decide +kernel
theorem d15_45 : decode jdk_38_method_6_code 45 = .ok (.aload_n 0, 1) := by decide +kernel
theorem d15_46 : decode jdk_38_method_6_code 46 = .ok (.bipush 10, 2) := by decide +kernel
theorem d15_48 : decode jdk_38_method_6_code 48 = .ok (.iload_n 1, 1) := by decide +kernel
theorem d15_49 : decode jdk_38_method_6_code 49 = .ok (.invokestatic 79, 3) := by decide +kernel
theorem d15_52 : decode jdk_38_method_6_code 52 = .ok (.anewarray 7, 3) := by decide +kernel
theorem d15_55 : decode jdk_38_method_6_code 55 = .ok (.dup_x1, 1) := by decide +kernel
theorem d15_56 : decode jdk_38_method_6_code 56 = .ok (.putfield 9, 3) := by decide +kernel
theorem d15_59 : decode jdk_38_method_6_code 59 = .ok (.areturn, 1) := by decide +kernel
theorem ef_growI (m : MethodId) (x0 : Addr) (x1 : Int32) : entryFrame m #[(.ref x0), (.int x1)] 4 = mkF m 0 #[.val (.ref x0), .val (.int x1), .unset, .unset] [] := by first | (simp [entryFrame, mkF, argsToLocals, Value.category]; done) | rfl
def QgrowI (Z : State) (a1 : Addr) (dd : Addr) (kd : ClassId) (mc : Int32) (h0 : Heap) (n0 : Nat) (v : Option Value) (h : Heap) (L : List Loc) : Prop := ∃ (b : Addr) (kb : ClassId), v = some (.ref b) ∧ Fr n0 L ∧ Keep h0 h [a1] ∧ n0 ≤ b ∧ h0.size ≤ b ∧ Exa Z h a1 "java/util/ArrayList" ∧ Fld Z h a1 "java/util/AbstractList" "modCount" "I" (.int mc) ∧ Fld Z h a1 "java/util/ArrayList" "elementData" "[Ljava/lang/Object;" (.ref b) ∧ Fld Z h a1 "java/util/ArrayList" "size" "I" (.int (0 : Int32)) ∧ Arv Z h b kb (.object "java/lang/Object") (10 : Int32) [.null, .null, .null, .null, .null, .null, .null, .null, .null, .null] .null ∧ Exa Z h b "[Ljava/lang/Object;" ∧ Ovr Z kb "java/lang/Object"
abbrev GgrowI (Z : State) (a1 : Addr) (dd : Addr) (kd : ClassId) (mc : Int32) (h0 : Heap) (n0 : Nat) (s : State) : Outcome → State → Prop := fun o U' => ∃ v L, o = .returned v ∧ QgrowI Z a1 dd kd mc h0 n0 v U'.heap L ∧ FrameEnd s o U' L ({ frames := 1, cells := 1, slots := 10, locals := 16 } : Room).cells ({ frames := 1, cells := 1, slots := 10, locals := 16 } : Room).slots
theorem pd__28_II_29_I : parseMethodDescriptor "(II)I" = some ⟨[.int, .int], some .int⟩ := by decide +kernel
set_option maxRecDepth 65536 in
set_option maxHeartbeats 40000000 in
theorem rmgrowI (l : Launch) (Z : State) (a0 : Array Value) (hw : ∀ d ∈ tables_1, d.before a0 Z = true) (ws : List Jvm.Cond) (a1 : Addr) (dd : Addr) (kd : ClassId) (mc : Int32) (h0 : Heap) (n0 : Nat) (Z0 : n0 ≤ h0.size) (E_a1 : Exa Z h0 a1 "java/util/ArrayList") (F_modCount_a1 : Fld Z h0 a1 "java/util/AbstractList" "modCount" "I" (.int mc)) (F_elementData_a1 : Fld Z h0 a1 "java/util/ArrayList" "elementData" "[Ljava/lang/Object;" (.ref dd)) (F_size_a1 : Fld Z h0 a1 "java/util/ArrayList" "size" "I" (.int (0 : Int32))) (V_dd : Arv Z h0 dd kd (.object "java/lang/Object") (0 : Int32) [] .null) (S_DEFAULTCAPACITY_EMPTY_ELEMENTDATA : Sta Z Z.heap "java/util/ArrayList" "DEFAULTCAPACITY_EMPTY_ELEMENTDATA" "[Ljava/lang/Object;" (.ref dd)) (O0 : Old Z n0 h0) (g_a1 : n0 ≤ a1) :
    MetFree l (⟨"java/util/ArrayList", "grow", "(I)[Ljava/lang/Object;"⟩ : MethodName) (head1 (Jvm.Cond.code (⟨"java/util/ArrayList", "grow", "(I)[Ljava/lang/Object;"⟩ : MethodName) jdk_38_method_6_code 4 (some (.array (.object "java/lang/Object"))) :: ws) ({ frames := 1, cells := 1, slots := 10, locals := 16 } : Room)) (fun a U => a = #[(.ref a1), (.int (1 : Int32))] ∧ Z.Warmed39 U.vm ∧ U.heap = h0) (fun _ _ _ _ _ => True) (fun _ U o U' => ∃ v L, o = .returned v ∧ QgrowI Z a1 dd kd mc h0 n0 v U'.heap L ∧ FrameEnd U o U' L ({ frames := 1, cells := 1, slots := 10, locals := 16 } : Room).cells ({ frames := 1, cells := 1, slots := 10, locals := 16 } : Room).slots) := by
  refine MetFree.of_bodySF (plainFor_of_name pn_java_util_ArrayList) hisR ?_
  intro p e s m args below meth c s₁ Bd hml0 hP hK
  obtain ⟨rfl, hZ, hh⟩ := hP
  have hx := Bd.exec
  have hby := Bd.bytes
  have hml : c.maxLocals = 4 := hml0
  have hown : s.vm.findClass "java/util/ArrayList" = some m.cls := findClass_of_methodNamed Bd.named
  have hnm := (name_of_methodNamed Bd.named Bd.method).1
  have X0 : Stand p l e ({ frames := 1, cells := 1, slots := 10, locals := 16 } : Room) s m #[(.ref a1), (.int (1 : Int32))] below meth c s₁ [] 0 0 := Stand.of_body Bd
  have e0 : s₁.heap = h0 := by rw [← hh, Bd.state]; rfl
  have es0 : s.heap = h0 := hh
  have N0 := Fr.nil n0
  show own_Fin p e below (GgrowI Z a1 dd kd mc h0 n0 s) (s₁.setTop (entryFrame m #[(.ref a1), (.int (1 : Int32))] 4))
  rw [ef_growI m a1 (1 : Int32)]
  have Kz := Keep.refl h0 [a1]
  refine own_go (XS.aloadN X0.here hx rfl (hb hby d15_0) rfl rfl (Steps.refl _)) ?_
  show own_Fin _ _ _ _ (s₁.setTop (mkF m 1 #[rv a1, iv (1 : Int32), .unset, .unset] [(.ref a1)]))
  obtain ⟨T11, X11, e11, st11⟩ := getF X0 hx hZ hown (host := "") (Or.inl (hw _ (List.mem_of_getElem? (i := 24) rfl))) Via.refl e0 F_elementData_a1 (g := (mkF m 1 #[rv a1, iv (1 : Int32), .unset, .unset] [(.ref a1)])) rfl rfl (hb hby d15_1)
  refine own_by st11 ?_
  show own_Fin _ _ _ _ (T11.setTop (mkF m 4 #[rv a1, iv (1 : Int32), .unset, .unset] [(.ref dd)]))
  obtain ⟨cl12, Ar12, qa12, Sa12, Na12, Ha12, Ga12⟩ := id V_dd
  refine own_by (X11.arraylength hx (by rw [e11]; exact Ar12.1) (State.isArrayOf_alike hZ.alike Ar12.2.1) (g := (mkF m 4 #[rv a1, iv (1 : Int32), .unset, .unset] [(.ref dd)])) rfl rfl (hb hby d15_4)) ?_
  rw [len_of Sa12 Na12]
  show own_Fin _ _ _ _ (T11.setTop (mkF m 5 #[rv a1, iv (1 : Int32), .unset, .unset] [(.int (0 : Int32))]))
  refine own_go (XS.istoreN X11.here hx rfl (hb hby d15_5) rfl rfl (Steps.refl _)) ?_
  show own_Fin _ _ _ _ (T11.setTop (mkF m 6 #[rv a1, iv (1 : Int32), iv (0 : Int32), .unset] []))
  refine own_go (XS.iloadN X11.here hx rfl (hb hby d15_6) rfl (Steps.refl _)) ?_
  show own_Fin _ _ _ _ (T11.setTop (mkF m 7 #[rv a1, iv (1 : Int32), iv (0 : Int32), .unset] [(.int (0 : Int32))]))
  refine own_go (XS.ifNo X11.here hx rfl (hb hby d15_7) rfl ((if0 _ _).trans (flt (by decide : ¬ ((0 : Int32) < (0 : Int32)))).2.2.1) (Steps.refl _)) ?_
  show own_Fin _ _ _ _ (T11.setTop (mkF m 10 #[rv a1, iv (1 : Int32), iv (0 : Int32), .unset] []))
  refine own_go (XS.aloadN X11.here hx rfl (hb hby d15_10) rfl rfl (Steps.refl _)) ?_
  show own_Fin _ _ _ _ (T11.setTop (mkF m 11 #[rv a1, iv (1 : Int32), iv (0 : Int32), .unset] [(.ref a1)]))
  obtain ⟨T13, X13, e13, st13⟩ := getF X11 hx hZ hown (host := "") (Or.inl (hw _ (List.mem_of_getElem? (i := 24) rfl))) Via.refl e11 F_elementData_a1 (g := (mkF m 11 #[rv a1, iv (1 : Int32), iv (0 : Int32), .unset] [(.ref a1)])) rfl rfl (hb hby d15_11)
  refine own_by st13 ?_
  show own_Fin _ _ _ _ (T13.setTop (mkF m 14 #[rv a1, iv (1 : Int32), iv (0 : Int32), .unset] [(.ref dd)]))
  obtain ⟨T14, X14, e14, st14⟩ := getS2 X13 hx hZ hown (host := "") (Or.inl (hw _ (List.mem_of_getElem? (i := 23) rfl))) Via.refl e13 (S_DEFAULTCAPACITY_EMPTY_ELEMENTDATA.ext O0.2) (g := (mkF m 14 #[rv a1, iv (1 : Int32), iv (0 : Int32), .unset] [(.ref dd)])) rfl (hb hby d15_14)
  refine own_by st14 ?_
  show own_Fin _ _ _ _ (T14.setTop (mkF m 17 #[rv a1, iv (1 : Int32), iv (0 : Int32), .unset] [(.ref dd), (.ref dd)]))
  refine own_go (Jvm.RoadKit.acmp (g := (mkF m 17 #[rv a1, iv (1 : Int32), iv (0 : Int32), .unset] [(.ref dd), (.ref dd)])) X14 hx rfl rfl rfl (pc0 := 17) (pc' := 45) (same := true) rfl (hb hby d15_17) rfl (decide_eq_true rfl) (by decide) (by decide) (Steps.refl _)) ?_
  show own_Fin _ _ _ _ (T14.setTop (mkF m 45 #[rv a1, iv (1 : Int32), iv (0 : Int32), .unset] []))
  refine own_go (XS.aloadN X14.here hx rfl (hb hby d15_45) rfl rfl (Steps.refl _)) ?_
  show own_Fin _ _ _ _ (T14.setTop (mkF m 46 #[rv a1, iv (1 : Int32), iv (0 : Int32), .unset] [(.ref a1)]))
  refine own_go (XS.bipush X14.here hx rfl (hb hby d15_46) (Steps.refl _)) ?_
  show own_Fin _ _ _ _ (T14.setTop (mkF m 48 #[rv a1, iv (1 : Int32), iv (0 : Int32), .unset] [(.int (10 : Int32)), (.ref a1)]))
  refine own_go (XS.iloadN X14.here hx rfl (hb hby d15_48) rfl (Steps.refl _)) ?_
  show own_Fin _ _ _ _ (T14.setTop (mkF m 49 #[rv a1, iv (1 : Int32), iv (0 : Int32), .unset] [(.int (1 : Int32)), (.int (10 : Int32)), (.ref a1)]))
  obtain ⟨_, _, ⟨T15, L15, k15, n15⟩, -, X15, ⟨Lc15, hQ15, l15, y15, z15⟩, st15⟩ := Jvm.LawKit.callS X14 hx (y := (⟨"java/lang/Math", "max", "(II)I"⟩ : MethodName)) hown (mvT hZ (hw _ (List.mem_of_getElem? (i := 107) rfl))) (mvT hZ (hw _ (List.mem_of_getElem? (i := 108) rfl))) (mvT hZ (hw _ (List.mem_of_getElem? (i := 109) rfl))) (mvT hZ (hw _ (List.mem_of_getElem? (i := 110) rfl))) (by decide) (backOf (W := 1) (rmmax l Z a0 hw []  h0 n0 Z0) hZ (hw _ (List.mem_of_getElem? (i := 110) rfl)) (hw _ (List.mem_of_getElem? (i := 109) rfl)) (by decide) (by decide)) (g := (mkF m 49 #[rv a1, iv (1 : Int32), iv (0 : Int32), .unset] [(.int (1 : Int32)), (.int (10 : Int32)), (.ref a1)])) rfl (by rw [hml]; rfl) (argsL := [(.int (10 : Int32)), (.int (1 : Int32))]) (rest := [(.ref a1)]) (lenOf pd__28_II_29_I rfl) rfl (by show 2 * 0 + _ ≤ _; exact Nat.le_of_eq rfl) (hb hby d15_49) (fun _ _ => ⟨rfl, e14, (by decide : 0 + 0 ≤ _), (by decide : 0 + 0 ≤ _)⟩)
  dsimp only [Pt.U, Pt.locs, Pt.cells, Pt.slots] at X15 l15 y15 z15 st15 hQ15
  subst l15 y15 z15
  obtain ⟨rfl, Nq15, e15⟩ := hQ15
  refine own_by st15 ?_
  have N15 := Fr.app N0 Nq15
  show own_Fin _ _ _ _ (T15.setTop (mkF m 52 #[rv a1, iv (1 : Int32), iv (0 : Int32), .unset] [(.int (10 : Int32)), (.ref a1)]))
  obtain ⟨T16, h16, k16, X16, e16, E16, A16, B16, O16, st16⟩ := newRE X15 hx hZ hown (hw _ (List.mem_of_getElem? (i := 111) rfl)) (hw _ (List.mem_of_getElem? (i := 112) rfl)) e15 (g := (mkF m 52 #[rv a1, iv (1 : Int32), iv (0 : Int32), .unset] [(.int (10 : Int32)), (.ref a1)])) rfl (hb hby d15_52) rfl (by decide) (cap := 10) (by decide) (by decide) (by decide) (by decide) (ad := "[Ljava/lang/Object;") (by decide)
  obtain ⟨b16, g16⟩ : ∃ z, z = h0.size := ⟨_, rfl⟩
  rw [← g16] at A16 B16 st16
  refine own_by st16 ?_
  have ne_a1_b16 : a1 ≠ b16 := Nat.ne_of_lt (Nat.lt_of_lt_of_eq E_a1.lt g16.symm)
  have ne_dd_b16 : dd ≠ b16 := Nat.ne_of_lt (Nat.lt_of_lt_of_eq V_dd.lt g16.symm)
  have Od16 := O0.ext E16
  have E_a1_16 := E_a1.ext E16
  have F_modCount_a1_16 := F_modCount_a1.ext E16
  have F_elementData_a1_16 := F_elementData_a1.ext E16
  have F_size_a1_16 := F_size_a1.ext E16
  have V_dd_16 := V_dd.ext E16
  have g_b16 : n0 ≤ b16 := Nat.le_trans Z0 (Nat.le_of_eq g16.symm)
  have sz_b16 : h0.size ≤ b16 := Nat.le_trans Kz.1 (Nat.le_of_eq g16.symm)
  have K16 := Kz.ext E16
  have Z16 : n0 ≤ h16.size := Nat.le_trans Z0 E16.1
  have V_b16 : Arv Z h16 b16 k16 (.object "java/lang/Object") (10 : Int32) [.null, .null, .null, .null, .null, .null, .null, .null, .null, .null] .null := (Arv.new A16 (by decide)).pad (pad_rep [] .null 10)
  have E_b16 := B16
  show own_Fin _ _ _ _ (T16.setTop (mkF m 55 #[rv a1, iv (1 : Int32), iv (0 : Int32), .unset] [(.ref b16), (.ref a1)]))
  refine own_go (XS.dupX1 X16.here hx rfl (hb hby d15_55) rfl rfl rfl (Steps.refl _)) ?_
  show own_Fin _ _ _ _ (T16.setTop (mkF m 56 #[rv a1, iv (1 : Int32), iv (0 : Int32), .unset] [(.ref b16), (.ref a1), (.ref b16)]))
  obtain ⟨T17, h17, X17, e17, W17, st17⟩ := putF X16 hx hZ hown (host := "") (Or.inl (hw _ (List.mem_of_getElem? (i := 24) rfl))) Via.refl e16 F_elementData_a1_16 E_a1_16 (Or.inl (hw _ (List.mem_of_getElem? (i := 25) rfl))) (hw _ (List.mem_of_getElem? (i := 1) rfl)) (ty := (.array (.object "java/lang/Object"))) (by decide) rfl rfl (g := (mkF m 56 #[rv a1, iv (1 : Int32), iv (0 : Int32), .unset] [(.ref b16), (.ref a1), (.ref b16)])) rfl rfl (hb hby d15_56)
  refine own_by st17 ?_
  have F_elementData_a1_17 := F_elementData_a1_16.same W17
  have Od17 := Od16.wr W17 g_a1
  have E_a1_17 := E_a1_16.wr W17
  have F_modCount_a1_17 := F_modCount_a1_16.other W17 (Or.inr (slot_ne (Or.inl (hw _ (List.mem_of_getElem? (i := 22) rfl))) (Or.inl (hw _ (List.mem_of_getElem? (i := 25) rfl))) (by decide) (t := .int) (t' := (.array (.object "java/lang/Object"))) (by decide) (by decide)))
  have F_size_a1_17 := F_size_a1_16.other W17 (Or.inr (slot_ne (Or.inl (hw _ (List.mem_of_getElem? (i := 43) rfl))) (Or.inl (hw _ (List.mem_of_getElem? (i := 25) rfl))) (by decide) (t := .int) (t' := (.array (.object "java/lang/Object"))) (by decide) (by decide)))
  have V_dd_17 := V_dd_16.other W17 (Ne.symm (Exa.neArv E_a1_16 V_dd_16 (hw _ (List.mem_of_getElem? (i := 1) rfl))))
  have V_b16_17 := V_b16.other W17 (Ne.symm ne_a1_b16)
  have E_b16_17 := E_b16.wr W17
  have N17 := Fr.snoc X17 N15 g_a1
  have Z17 : n0 ≤ h17.size := Nat.le_trans Z16 (Keep.of_wr W17).1
  have K17 := K16.wr W17 (Or.inl (List.mem_of_getElem? (i := 0) rfl))
  show own_Fin _ _ _ _ (T17.setTop (mkF m 59 #[rv a1, iv (1 : Int32), iv (0 : Int32), .unset] [(.ref b16)]))
  obtain ⟨fs18, hr18, hrun18, hended18, hW18, hsame18⟩ := X17.leave (v := some (.ref b16)) (fun h => by rw [Bd.returns] at h; cases h)
  refine own_done (retOut X17 hx Bd.returns rfl (Or.inr (Or.inr (Or.inr (Or.inr ⟨rfl, rfl, rfl⟩)))) (hb hby d15_59) hr18) hrun18 hended18 ⟨_, _, rfl, ?_, ⟨_, rfl⟩, hW18, hsame18.mono (by decide) (by decide)⟩
  show QgrowI Z a1 dd kd mc h0 n0 _ T17.heap _
  rw [e17]
  exact ⟨b16, k16, rfl, N17, K17, g_b16, sz_b16, E_a1_17, F_modCount_a1_17, F_elementData_a1_17, F_size_a1_17, V_b16_17, E_b16_17, O16⟩
theorem d14_0 : decode jdk_38_method_7_code 0 = .ok (.aload_n 0, 1) := by decide +kernel
theorem d14_1 : decode jdk_38_method_7_code 1 = .ok (.aload_n 0, 1) := by decide +kernel
theorem d14_2 : decode jdk_38_method_7_code 2 = .ok (.getfield 48, 3) := by decide +kernel
theorem d14_5 : decode jdk_38_method_7_code 5 = .ok (.iconst 1, 1) := by decide +kernel
theorem d14_6 : decode jdk_38_method_7_code 6 = .ok (.iadd, 1) := by decide +kernel
theorem d14_7 : decode jdk_38_method_7_code 7 = .ok (.invokevirtual 69, 3) := by decide +kernel
theorem d14_10 : decode jdk_38_method_7_code 10 = .ok (.areturn, 1) := by decide +kernel
theorem ef_grow (m : MethodId) (x0 : Addr) : entryFrame m #[(.ref x0)] 1 = mkF m 0 #[.val (.ref x0)] [] := by first | (simp [entryFrame, mkF, argsToLocals, Value.category]; done) | rfl
def Qgrow (Z : State) (a1 : Addr) (dd : Addr) (kd : ClassId) (mc : Int32) (h0 : Heap) (n0 : Nat) (v : Option Value) (h : Heap) (L : List Loc) : Prop := ∃ (b : Addr) (kb : ClassId), v = some (.ref b) ∧ Fr n0 L ∧ Keep h0 h [a1] ∧ n0 ≤ b ∧ h0.size ≤ b ∧ Exa Z h a1 "java/util/ArrayList" ∧ Fld Z h a1 "java/util/AbstractList" "modCount" "I" (.int mc) ∧ Fld Z h a1 "java/util/ArrayList" "elementData" "[Ljava/lang/Object;" (.ref b) ∧ Fld Z h a1 "java/util/ArrayList" "size" "I" (.int (0 : Int32)) ∧ Arv Z h b kb (.object "java/lang/Object") (10 : Int32) [.null, .null, .null, .null, .null, .null, .null, .null, .null, .null] .null ∧ Exa Z h b "[Ljava/lang/Object;" ∧ Ovr Z kb "java/lang/Object"
abbrev Ggrow (Z : State) (a1 : Addr) (dd : Addr) (kd : ClassId) (mc : Int32) (h0 : Heap) (n0 : Nat) (s : State) : Outcome → State → Prop := fun o U' => ∃ v L, o = .returned v ∧ Qgrow Z a1 dd kd mc h0 n0 v U'.heap L ∧ FrameEnd s o U' L ({ frames := 2, cells := 1, slots := 10, locals := 32 } : Room).cells ({ frames := 2, cells := 1, slots := 10, locals := 32 } : Room).slots
theorem pd__28_I_29__5b_Ljava_2f_lang_2f_Object_3b_ : parseMethodDescriptor "(I)[Ljava/lang/Object;" = some ⟨[.int], some (.array (.object "java/lang/Object"))⟩ := by decide +kernel
set_option maxRecDepth 65536 in
set_option maxHeartbeats 40000000 in
theorem rmgrow (l : Launch) (Z : State) (a0 : Array Value) (hw : ∀ d ∈ tables_1, d.before a0 Z = true) (ws : List Jvm.Cond) (a1 : Addr) (dd : Addr) (kd : ClassId) (mc : Int32) (h0 : Heap) (n0 : Nat) (Z0 : n0 ≤ h0.size) (E_a1 : Exa Z h0 a1 "java/util/ArrayList") (F_modCount_a1 : Fld Z h0 a1 "java/util/AbstractList" "modCount" "I" (.int mc)) (F_elementData_a1 : Fld Z h0 a1 "java/util/ArrayList" "elementData" "[Ljava/lang/Object;" (.ref dd)) (F_size_a1 : Fld Z h0 a1 "java/util/ArrayList" "size" "I" (.int (0 : Int32))) (V_dd : Arv Z h0 dd kd (.object "java/lang/Object") (0 : Int32) [] .null) (S_DEFAULTCAPACITY_EMPTY_ELEMENTDATA : Sta Z Z.heap "java/util/ArrayList" "DEFAULTCAPACITY_EMPTY_ELEMENTDATA" "[Ljava/lang/Object;" (.ref dd)) (O0 : Old Z n0 h0) (g_a1 : n0 ≤ a1) :
    MetFree l (⟨"java/util/ArrayList", "grow", "()[Ljava/lang/Object;"⟩ : MethodName) (head1 (Jvm.Cond.code (⟨"java/util/ArrayList", "grow", "()[Ljava/lang/Object;"⟩ : MethodName) jdk_38_method_7_code 1 (some (.array (.object "java/lang/Object"))) :: ws) ({ frames := 2, cells := 1, slots := 10, locals := 32 } : Room)) (fun a U => a = #[(.ref a1)] ∧ Z.Warmed39 U.vm ∧ U.heap = h0) (fun _ _ _ _ _ => True) (fun _ U o U' => ∃ v L, o = .returned v ∧ Qgrow Z a1 dd kd mc h0 n0 v U'.heap L ∧ FrameEnd U o U' L ({ frames := 2, cells := 1, slots := 10, locals := 32 } : Room).cells ({ frames := 2, cells := 1, slots := 10, locals := 32 } : Room).slots) := by
  refine MetFree.of_bodySF (plainFor_of_name pn_java_util_ArrayList) hisR ?_
  intro p e s m args below meth c s₁ Bd hml0 hP hK
  obtain ⟨rfl, hZ, hh⟩ := hP
  have hx := Bd.exec
  have hby := Bd.bytes
  have hml : c.maxLocals = 1 := hml0
  have hown : s.vm.findClass "java/util/ArrayList" = some m.cls := findClass_of_methodNamed Bd.named
  have hnm := (name_of_methodNamed Bd.named Bd.method).1
  have X0 : Stand p l e ({ frames := 2, cells := 1, slots := 10, locals := 32 } : Room) s m #[(.ref a1)] below meth c s₁ [] 0 0 := Stand.of_body Bd
  have e0 : s₁.heap = h0 := by rw [← hh, Bd.state]; rfl
  have es0 : s.heap = h0 := hh
  have N0 := Fr.nil n0
  show own_Fin p e below (Ggrow Z a1 dd kd mc h0 n0 s) (s₁.setTop (entryFrame m #[(.ref a1)] 1))
  rw [ef_grow m a1]
  have Kz := Keep.refl h0 [a1]
  refine own_go (XS.aloadN X0.here hx rfl (hb hby d14_0) rfl rfl (Steps.refl _)) ?_
  show own_Fin _ _ _ _ (s₁.setTop (mkF m 1 #[rv a1] [(.ref a1)]))
  refine own_go (XS.aloadN X0.here hx rfl (hb hby d14_1) rfl rfl (Steps.refl _)) ?_
  show own_Fin _ _ _ _ (s₁.setTop (mkF m 2 #[rv a1] [(.ref a1), (.ref a1)]))
  obtain ⟨T19, X19, e19, st19⟩ := getF X0 hx hZ hown (host := "") (Or.inl (hw _ (List.mem_of_getElem? (i := 42) rfl))) Via.refl e0 F_size_a1 (g := (mkF m 2 #[rv a1] [(.ref a1), (.ref a1)])) rfl rfl (hb hby d14_2)
  refine own_by st19 ?_
  show own_Fin _ _ _ _ (T19.setTop (mkF m 5 #[rv a1] [(.int (0 : Int32)), (.ref a1)]))
  refine own_go (XS.iconst X19.here hx rfl (hb hby d14_5) (Steps.refl _)) ?_
  show own_Fin _ _ _ _ (T19.setTop (mkF m 6 #[rv a1] [(.int (1 : Int32)), (.int (0 : Int32)), (.ref a1)]))
  refine own_go (XS.iadd X19.here hx rfl (hb hby d14_6) rfl (Steps.refl _)) ?_
  show own_Fin _ _ _ _ (T19.setTop (mkF m 7 #[rv a1] [(.int (1 : Int32)), (.ref a1)]))
  obtain ⟨cq20, q20, q20'⟩ := E_a1.cell
  obtain ⟨_, _, ⟨T20, L20, k20, n20⟩, -, X20, ⟨Lc20, hQ20, l20, y20, z20⟩, st20⟩ := X19.privateBack hx (y := (⟨"java/util/ArrayList", "grow", "(I)[Ljava/lang/Object;"⟩ : MethodName)) hown (mvT hZ (hw _ (List.mem_of_getElem? (i := 102) rfl))) (mvT hZ (hw _ (List.mem_of_getElem? (i := 103) rfl))) (mvT hZ (hw _ (List.mem_of_getElem? (i := 105) rfl))) (Cond.privateMethod_at (mvP hZ (hw _ (List.mem_of_getElem? (i := 104) rfl)) (args := #[]))) (mvT hZ (hw _ (List.mem_of_getElem? (i := 106) rfl))) (by decide) (backOf (W := 0) (rmgrowI l Z a0 hw [] a1 dd kd mc h0 n0 Z0 E_a1 F_modCount_a1 F_elementData_a1 F_size_a1 V_dd S_DEFAULTCAPACITY_EMPTY_ELEMENTDATA O0 g_a1) hZ (hw _ (List.mem_of_getElem? (i := 106) rfl)) (hw _ (List.mem_of_getElem? (i := 2) rfl)) (by decide) (by decide)) (g := (mkF m 7 #[rv a1] [(.int (1 : Int32)), (.ref a1)])) rfl (by rw [hml]; rfl) (Steps.refl _) (a := a1) (by rw [e19]; exact q20) q20' (argsL := [(.int (1 : Int32))]) (rest := []) (lenOf pd__28_I_29__5b_Ljava_2f_lang_2f_Object_3b_ rfl) rfl (by show 2 * 0 + _ ≤ _; exact Nat.le_of_eq rfl) (hb hby d14_7) (fun _ _ => ⟨rfl, e19, (by decide : 0 + 1 ≤ _), (by decide : 0 + 10 ≤ _)⟩)
  dsimp only [Pt.U, Pt.locs, Pt.cells, Pt.slots] at X20 l20 y20 z20 st20 hQ20
  subst l20 y20 z20
  refine own_go st20 ?_
  obtain ⟨b_20, kb_20, rfl, Nq20, K20, g_b_20, sb_b_20, r20_0, r20_1, r20_2, r20_3, r20_4, r20_5, r20_6⟩ := hQ20
  have ne_a1_b_20 : a1 ≠ b_20 := Nat.ne_of_lt (Nat.lt_of_lt_of_le E_a1.lt sb_b_20)
  have ne_dd_b_20 : dd ≠ b_20 := Nat.ne_of_lt (Nat.lt_of_lt_of_le V_dd.lt sb_b_20)
  have sz_b_20 : h0.size ≤ b_20 := Nat.le_trans Kz.1 sb_b_20
  have Od20 := O0.keep K20 (allS g_a1 all0)
  have E_a1_20 := E_a1.keep K20
  have V_dd_20 := V_dd.keep K20 (ninS (Ne.symm (Exa.neArv E_a1 V_dd (hw _ (List.mem_of_getElem? (i := 1) rfl)))) nin0)
  have Z20 : n0 ≤ T20.heap.size := Nat.le_trans Z0 K20.1
  have Kt20 := Kz.trans K20 (allS (P := fun x => x ∈ _ ∨ _ ≤ x) (Or.inl (List.mem_of_getElem? (i := 0) rfl)) all0)
  have N20 := Fr.app N0 Nq20
  show own_Fin _ _ _ _ (T20.setTop (mkF m 10 #[rv a1] [(.ref b_20)]))
  obtain ⟨fs21, hr21, hrun21, hended21, hW21, hsame21⟩ := X20.leave (v := some (.ref b_20)) (fun h => by rw [Bd.returns] at h; cases h)
  refine own_done (retOut X20 hx Bd.returns rfl (Or.inr (Or.inr (Or.inr (Or.inr ⟨rfl, rfl, rfl⟩)))) (hb hby d14_10) hr21) hrun21 hended21 ⟨_, _, rfl, ?_, ⟨_, rfl⟩, hW21, hsame21.mono (by decide) (by decide)⟩
  show Qgrow Z a1 dd kd mc h0 n0 _ T20.heap _
  exact ⟨b_20, kb_20, rfl, N20, Kt20, g_b_20, sz_b_20, r20_0, r20_1, r20_2, r20_3, r20_4, r20_5, r20_6⟩
theorem d13_0 : decode jdk_38_method_24_code 0 = .ok (.iload_n 3, 1) := by decide +kernel
theorem d13_1 : decode jdk_38_method_24_code 1 = .ok (.aload_n 2, 1) := by decide +kernel
theorem d13_2 : decode jdk_38_method_24_code 2 = .ok (.arraylength, 1) := by decide +kernel
theorem d13_3 : decode jdk_38_method_24_code 3 = .ok (.if_icmp .ne 8, 3) := by decide +kernel
theorem d13_6 : decode jdk_38_method_24_code 6 = .ok (.aload_n 0, 1) := by decide +kernel
theorem d13_7 : decode jdk_38_method_24_code 7 = .ok (.invokevirtual 129, 3) := by decide +kernel
theorem d13_10 : decode jdk_38_method_24_code 10 = .ok (.astore_n 2, 1) := by decide +kernel
theorem d13_11 : decode jdk_38_method_24_code 11 = .ok (.aload_n 2, 1) := by decide +kernel
theorem d13_12 : decode jdk_38_method_24_code 12 = .ok (.iload_n 3, 1) := by decide +kernel
theorem d13_13 : decode jdk_38_method_24_code 13 = .ok (.aload_n 1, 1) := by decide +kernel
theorem d13_14 : decode jdk_38_method_24_code 14 = .ok (.aastore, 1) := by decide +kernel
theorem d13_15 : decode jdk_38_method_24_code 15 = .ok (.aload_n 0, 1) := by decide +kernel
theorem d13_16 : decode jdk_38_method_24_code 16 = .ok (.iload_n 3, 1) := by decide +kernel
theorem d13_17 : decode jdk_38_method_24_code 17 = .ok (.iconst 1, 1) := by decide +kernel
theorem d13_18 : decode jdk_38_method_24_code 18 = .ok (.iadd, 1) := by decide +kernel
theorem d13_19 : decode jdk_38_method_24_code 19 = .ok (.putfield 48, 3) := by decide +kernel
theorem d13_22 : decode jdk_38_method_24_code 22 = .ok (.return_, 1) := by decide +kernel
theorem ef_ad3_0 (m : MethodId) (x0 : Addr) (x1 : Addr) (x2 : Addr) (x3 : Int32) : entryFrame m #[(.ref x0), (.ref x1), (.ref x2), (.int x3)] 4 = mkF m 0 #[.val (.ref x0), .val (.ref x1), .val (.ref x2), .val (.int x3)] [] := by first | (simp [entryFrame, mkF, argsToLocals, Value.category]; done) | rfl
def Qad3_0 (Z : State) (a1 : Addr) (dd : Addr) (kd : ClassId) (mc : Int32) (a2 : Addr) (h0 : Heap) (n0 : Nat) (v : Option Value) (h : Heap) (L : List Loc) : Prop := ∃ (b : Addr) (kb : ClassId), v = none ∧ Fr n0 L ∧ Keep h0 h [a1] ∧ n0 ≤ b ∧ h0.size ≤ b ∧ Exa Z h a1 "java/util/ArrayList" ∧ Fld Z h a1 "java/util/AbstractList" "modCount" "I" (.int mc) ∧ Fld Z h a1 "java/util/ArrayList" "elementData" "[Ljava/lang/Object;" (.ref b) ∧ Fld Z h a1 "java/util/ArrayList" "size" "I" (.int (1 : Int32)) ∧ Arv Z h b kb (.object "java/lang/Object") (10 : Int32) [(.ref a2), .null, .null, .null, .null, .null, .null, .null, .null, .null] .null ∧ Exa Z h b "[Ljava/lang/Object;" ∧ Ovr Z kb "java/lang/Object"
abbrev Gad3_0 (Z : State) (a1 : Addr) (dd : Addr) (kd : ClassId) (mc : Int32) (a2 : Addr) (h0 : Heap) (n0 : Nat) (s : State) : Outcome → State → Prop := fun o U' => ∃ v L, o = .returned v ∧ Qad3_0 Z a1 dd kd mc a2 h0 n0 v U'.heap L ∧ FrameEnd s o U' L ({ frames := 3, cells := 1, slots := 10, locals := 46 } : Room).cells ({ frames := 3, cells := 1, slots := 10, locals := 46 } : Room).slots
theorem pd__28__29__5b_Ljava_2f_lang_2f_Object_3b_ : parseMethodDescriptor "()[Ljava/lang/Object;" = some ⟨[], some (.array (.object "java/lang/Object"))⟩ := by decide +kernel
set_option maxRecDepth 65536 in
set_option maxHeartbeats 40000000 in
theorem rmad3_0 (l : Launch) (Z : State) (a0 : Array Value) (hw : ∀ d ∈ tables_1, d.before a0 Z = true) (ws : List Jvm.Cond) (a1 : Addr) (dd : Addr) (kd : ClassId) (mc : Int32) (a2 : Addr) (h0 : Heap) (n0 : Nat) (Z0 : n0 ≤ h0.size) (E_a1 : Exa Z h0 a1 "java/util/ArrayList") (F_modCount_a1 : Fld Z h0 a1 "java/util/AbstractList" "modCount" "I" (.int mc)) (F_elementData_a1 : Fld Z h0 a1 "java/util/ArrayList" "elementData" "[Ljava/lang/Object;" (.ref dd)) (F_size_a1 : Fld Z h0 a1 "java/util/ArrayList" "size" "I" (.int (0 : Int32))) (V_dd : Arv Z h0 dd kd (.object "java/lang/Object") (0 : Int32) [] .null) (S_DEFAULTCAPACITY_EMPTY_ELEMENTDATA : Sta Z Z.heap "java/util/ArrayList" "DEFAULTCAPACITY_EMPTY_ELEMENTDATA" "[Ljava/lang/Object;" (.ref dd)) (O0 : Old Z n0 h0) (g_a1 : n0 ≤ a1) (E_a2 : Exa Z h0 a2 "java/lang/String") :
    MetFree l (⟨"java/util/ArrayList", "add", "(Ljava/lang/Object;[Ljava/lang/Object;I)V"⟩ : MethodName) (head1 (Jvm.Cond.code (⟨"java/util/ArrayList", "add", "(Ljava/lang/Object;[Ljava/lang/Object;I)V"⟩ : MethodName) jdk_38_method_24_code 4 none :: ws) ({ frames := 3, cells := 1, slots := 10, locals := 46 } : Room)) (fun a U => a = #[(.ref a1), (.ref a2), (.ref dd), (.int (0 : Int32))] ∧ Z.Warmed39 U.vm ∧ U.heap = h0) (fun _ _ _ _ _ => True) (fun _ U o U' => ∃ v L, o = .returned v ∧ Qad3_0 Z a1 dd kd mc a2 h0 n0 v U'.heap L ∧ FrameEnd U o U' L ({ frames := 3, cells := 1, slots := 10, locals := 46 } : Room).cells ({ frames := 3, cells := 1, slots := 10, locals := 46 } : Room).slots) := by
  refine MetFree.of_bodySF (plainFor_of_name pn_java_util_ArrayList) hisR ?_
  intro p e s m args below meth c s₁ Bd hml0 hP hK
  obtain ⟨rfl, hZ, hh⟩ := hP
  have hx := Bd.exec
  have hby := Bd.bytes
  have hml : c.maxLocals = 4 := hml0
  have hown : s.vm.findClass "java/util/ArrayList" = some m.cls := findClass_of_methodNamed Bd.named
  have hnm := (name_of_methodNamed Bd.named Bd.method).1
  have X0 : Stand p l e ({ frames := 3, cells := 1, slots := 10, locals := 46 } : Room) s m #[(.ref a1), (.ref a2), (.ref dd), (.int (0 : Int32))] below meth c s₁ [] 0 0 := Stand.of_body Bd
  have e0 : s₁.heap = h0 := by rw [← hh, Bd.state]; rfl
  have es0 : s.heap = h0 := hh
  have N0 := Fr.nil n0
  show own_Fin p e below (Gad3_0 Z a1 dd kd mc a2 h0 n0 s) (s₁.setTop (entryFrame m #[(.ref a1), (.ref a2), (.ref dd), (.int (0 : Int32))] 4))
  rw [ef_ad3_0 m a1 a2 dd (0 : Int32)]
  have Kz := Keep.refl h0 [a1]
  refine own_go (XS.iloadN X0.here hx rfl (hb hby d13_0) rfl (Steps.refl _)) ?_
  show own_Fin _ _ _ _ (s₁.setTop (mkF m 1 #[rv a1, rv a2, rv dd, iv (0 : Int32)] [(.int (0 : Int32))]))
  refine own_go (XS.aloadN X0.here hx rfl (hb hby d13_1) rfl rfl (Steps.refl _)) ?_
  show own_Fin _ _ _ _ (s₁.setTop (mkF m 2 #[rv a1, rv a2, rv dd, iv (0 : Int32)] [(.ref dd), (.int (0 : Int32))]))
  obtain ⟨cl22, Ar22, qa22, Sa22, Na22, Ha22, Ga22⟩ := id V_dd
  refine own_by (X0.arraylength hx (by rw [e0]; exact Ar22.1) (State.isArrayOf_alike hZ.alike Ar22.2.1) (g := (mkF m 2 #[rv a1, rv a2, rv dd, iv (0 : Int32)] [(.ref dd), (.int (0 : Int32))])) rfl rfl (hb hby d13_2)) ?_
  rw [len_of Sa22 Na22]
  show own_Fin _ _ _ _ (s₁.setTop (mkF m 3 #[rv a1, rv a2, rv dd, iv (0 : Int32)] [(.int (0 : Int32)), (.int (0 : Int32))]))
  refine own_go (XS.icmpNo X0.here hx rfl (hb hby d13_3) rfl (teq (by decide : (0 : Int32) = (0 : Int32))).2 (Steps.refl _)) ?_
  show own_Fin _ _ _ _ (s₁.setTop (mkF m 6 #[rv a1, rv a2, rv dd, iv (0 : Int32)] []))
  refine own_go (XS.aloadN X0.here hx rfl (hb hby d13_6) rfl rfl (Steps.refl _)) ?_
  show own_Fin _ _ _ _ (s₁.setTop (mkF m 7 #[rv a1, rv a2, rv dd, iv (0 : Int32)] [(.ref a1)]))
  obtain ⟨cq23, q23, q23'⟩ := E_a1.cell
  obtain ⟨_, _, ⟨T23, L23, k23, n23⟩, -, X23, ⟨Lc23, hQ23, l23, y23, z23⟩, st23⟩ := X0.privateBack hx (y := (⟨"java/util/ArrayList", "grow", "()[Ljava/lang/Object;"⟩ : MethodName)) hown (mvT hZ (hw _ (List.mem_of_getElem? (i := 97) rfl))) (mvT hZ (hw _ (List.mem_of_getElem? (i := 98) rfl))) (mvT hZ (hw _ (List.mem_of_getElem? (i := 100) rfl))) (Cond.privateMethod_at (mvP hZ (hw _ (List.mem_of_getElem? (i := 99) rfl)) (args := #[]))) (mvT hZ (hw _ (List.mem_of_getElem? (i := 101) rfl))) (by decide) (backOf (W := 0) (rmgrow l Z a0 hw [] a1 dd kd mc h0 n0 Z0 E_a1 F_modCount_a1 F_elementData_a1 F_size_a1 V_dd S_DEFAULTCAPACITY_EMPTY_ELEMENTDATA O0 g_a1) hZ (hw _ (List.mem_of_getElem? (i := 101) rfl)) (hw _ (List.mem_of_getElem? (i := 2) rfl)) (by decide) (by decide)) (g := (mkF m 7 #[rv a1, rv a2, rv dd, iv (0 : Int32)] [(.ref a1)])) rfl (by rw [hml]; rfl) (Steps.refl _) (a := a1) (by rw [e0]; exact q23) q23' (argsL := []) (rest := []) (lenOf pd__28__29__5b_Ljava_2f_lang_2f_Object_3b_ rfl) rfl (by show 2 * 0 + _ ≤ _; exact Nat.le_of_eq rfl) (hb hby d13_7) (fun _ _ => ⟨rfl, e0, (by decide : 0 + 1 ≤ _), (by decide : 0 + 10 ≤ _)⟩)
  dsimp only [Pt.U, Pt.locs, Pt.cells, Pt.slots] at X23 l23 y23 z23 st23 hQ23
  subst l23 y23 z23
  refine own_go st23 ?_
  obtain ⟨b_23, kb_23, rfl, Nq23, K23, g_b_23, sb_b_23, r23_0, r23_1, r23_2, r23_3, r23_4, r23_5, r23_6⟩ := hQ23
  have ne_a1_b_23 : a1 ≠ b_23 := Nat.ne_of_lt (Nat.lt_of_lt_of_le E_a1.lt sb_b_23)
  have ne_dd_b_23 : dd ≠ b_23 := Nat.ne_of_lt (Nat.lt_of_lt_of_le V_dd.lt sb_b_23)
  have ne_a2_b_23 : a2 ≠ b_23 := Nat.ne_of_lt (Nat.lt_of_lt_of_le E_a2.lt sb_b_23)
  have sz_b_23 : h0.size ≤ b_23 := Nat.le_trans Kz.1 sb_b_23
  have Od23 := O0.keep K23 (allS g_a1 all0)
  have E_a1_23 := E_a1.keep K23
  have V_dd_23 := V_dd.keep K23 (ninS (Ne.symm (Exa.neArv E_a1 V_dd (hw _ (List.mem_of_getElem? (i := 1) rfl)))) nin0)
  have E_a2_23 := E_a2.keep K23
  have Z23 : n0 ≤ T23.heap.size := Nat.le_trans Z0 K23.1
  have Kt23 := Kz.trans K23 (allS (P := fun x => x ∈ _ ∨ _ ≤ x) (Or.inl (List.mem_of_getElem? (i := 0) rfl)) all0)
  have N23 := Fr.app N0 Nq23
  show own_Fin _ _ _ _ (T23.setTop (mkF m 10 #[rv a1, rv a2, rv dd, iv (0 : Int32)] [(.ref b_23)]))
  refine own_go (XS.astoreN X23.here hx rfl (hb hby d13_10) rfl rfl rfl (Steps.refl _)) ?_
  show own_Fin _ _ _ _ (T23.setTop (mkF m 11 #[rv a1, rv a2, rv b_23, iv (0 : Int32)] []))
  refine own_go (XS.aloadN X23.here hx rfl (hb hby d13_11) rfl rfl (Steps.refl _)) ?_
  show own_Fin _ _ _ _ (T23.setTop (mkF m 12 #[rv a1, rv a2, rv b_23, iv (0 : Int32)] [(.ref b_23)]))
  refine own_go (XS.iloadN X23.here hx rfl (hb hby d13_12) rfl (Steps.refl _)) ?_
  show own_Fin _ _ _ _ (T23.setTop (mkF m 13 #[rv a1, rv a2, rv b_23, iv (0 : Int32)] [(.int (0 : Int32)), (.ref b_23)]))
  refine own_go (XS.aloadN X23.here hx rfl (hb hby d13_13) rfl rfl (Steps.refl _)) ?_
  show own_Fin _ _ _ _ (T23.setTop (mkF m 14 #[rv a1, rv a2, rv b_23, iv (0 : Int32)] [(.ref a2), (.int (0 : Int32)), (.ref b_23)]))
  obtain ⟨cl24, Ar24, qa24, Sa24, Na24, Ha24, Ga24⟩ := id r23_4
  have hin24 : ¬ ((0 : Int32) < 0 ∨ cl24.slots.size ≤ ((0 : Int32)).toNatClampNeg) := inb_of Sa24 ⟨by decide, by decide⟩
  obtain ⟨T25, h25, X25, e25, W25, st25⟩ := stR X23 hx hZ rfl Ar24 (j := (0 : Int32)) hin24 rfl (Sto.ofV Ar24 qa24 r23_6 (Ins.of_exa E_a2_23 (hw _ (List.mem_of_getElem? (i := 113) rfl)))) (g := (mkF m 14 #[rv a1, rv a2, rv b_23, iv (0 : Int32)] [(.ref a2), (.int (0 : Int32)), (.ref b_23)])) rfl rfl (hb hby d13_14)
  refine own_by st25 ?_
  have V_b_23_25 : Arv Z h25 b_23 kb_23 (.object "java/lang/Object") (10 : Int32) [(.ref a2), .null, .null, .null, .null, .null, .null, .null, .null, .null] .null := Arv.set Ar24 qa24 Sa24 Na24 Ha24 Ga24 rfl W25 0 rfl (Nat.le_of_ble_eq_true rfl)
  have Od25 := Od23.wr W25 g_b_23
  have r23_0_25 := r23_0.wr W25
  have V_dd_25 := V_dd_23.other W25 ne_dd_b_23
  have E_a2_25 := E_a2_23.wr W25
  have r23_1_25 := r23_1.other W25 (Or.inl ne_a1_b_23)
  have r23_2_25 := r23_2.other W25 (Or.inl ne_a1_b_23)
  have r23_3_25 := r23_3.other W25 (Or.inl ne_a1_b_23)
  have r23_5_25 := r23_5.wr W25
  have N25 := Fr.snoc X25 N23 g_b_23
  have Z25 : n0 ≤ h25.size := Nat.le_trans Z23 (Keep.of_wr W25).1
  have K25 := Kt23.wr W25 (Or.inr sz_b_23)
  show own_Fin _ _ _ _ (T25.setTop (mkF m 15 #[rv a1, rv a2, rv b_23, iv (0 : Int32)] []))
  refine own_go (XS.aloadN X25.here hx rfl (hb hby d13_15) rfl rfl (Steps.refl _)) ?_
  show own_Fin _ _ _ _ (T25.setTop (mkF m 16 #[rv a1, rv a2, rv b_23, iv (0 : Int32)] [(.ref a1)]))
  refine own_go (XS.iloadN X25.here hx rfl (hb hby d13_16) rfl (Steps.refl _)) ?_
  show own_Fin _ _ _ _ (T25.setTop (mkF m 17 #[rv a1, rv a2, rv b_23, iv (0 : Int32)] [(.int (0 : Int32)), (.ref a1)]))
  refine own_go (XS.iconst X25.here hx rfl (hb hby d13_17) (Steps.refl _)) ?_
  show own_Fin _ _ _ _ (T25.setTop (mkF m 18 #[rv a1, rv a2, rv b_23, iv (0 : Int32)] [(.int (1 : Int32)), (.int (0 : Int32)), (.ref a1)]))
  refine own_go (XS.iadd X25.here hx rfl (hb hby d13_18) rfl (Steps.refl _)) ?_
  show own_Fin _ _ _ _ (T25.setTop (mkF m 19 #[rv a1, rv a2, rv b_23, iv (0 : Int32)] [(.int (1 : Int32)), (.ref a1)]))
  obtain ⟨T26, h26, X26, e26, W26, st26⟩ := putF X25 hx hZ hown (host := "") (Or.inl (hw _ (List.mem_of_getElem? (i := 42) rfl))) Via.refl e25 r23_3_25 r23_0_25 (Or.inl (hw _ (List.mem_of_getElem? (i := 43) rfl))) (hw _ (List.mem_of_getElem? (i := 1) rfl)) (ty := .int) (by decide) rfl rfl (g := (mkF m 19 #[rv a1, rv a2, rv b_23, iv (0 : Int32)] [(.int (1 : Int32)), (.ref a1)])) rfl rfl (hb hby d13_19)
  refine own_by st26 ?_
  have F_size_a1_26 := r23_3_25.same W26
  have Od26 := Od25.wr W26 g_a1
  have r23_0_26 := r23_0_25.wr W26
  have V_dd_26 := V_dd_25.other W26 (Ne.symm (Exa.neArv r23_0_25 V_dd_25 (hw _ (List.mem_of_getElem? (i := 1) rfl))))
  have E_a2_26 := E_a2_25.wr W26
  have r23_1_26 := r23_1_25.other W26 (Or.inr (slot_ne (Or.inl (hw _ (List.mem_of_getElem? (i := 22) rfl))) (Or.inl (hw _ (List.mem_of_getElem? (i := 43) rfl))) (by decide) (t := .int) (t' := .int) (by decide) (by decide)))
  have r23_2_26 := r23_2_25.other W26 (Or.inr (slot_ne (Or.inl (hw _ (List.mem_of_getElem? (i := 25) rfl))) (Or.inl (hw _ (List.mem_of_getElem? (i := 43) rfl))) (by decide) (t := (.array (.object "java/lang/Object"))) (t' := .int) (by decide) (by decide)))
  have V_b_23_26 := V_b_23_25.other W26 (Ne.symm ne_a1_b_23)
  have r23_5_26 := r23_5_25.wr W26
  have N26 := Fr.snoc X26 N25 g_a1
  have Z26 : n0 ≤ h26.size := Nat.le_trans Z25 (Keep.of_wr W26).1
  have K26 := K25.wr W26 (Or.inl (List.mem_of_getElem? (i := 0) rfl))
  show own_Fin _ _ _ _ (T26.setTop (mkF m 22 #[rv a1, rv a2, rv b_23, iv (0 : Int32)] []))
  obtain ⟨fs27, hr27, hrun27, hended27, hW27, hsame27⟩ := X26.leave (v := none) (fun _ => rfl)
  refine own_done (X26.returnOut hx Bd.returns (hb hby d13_22) hr27) hrun27 hended27 ⟨_, _, rfl, ?_, ⟨_, rfl⟩, hW27, hsame27.mono (by decide) (by decide)⟩
  show Qad3_0 Z a1 dd kd mc a2 h0 n0 _ T26.heap _
  rw [e26]
  exact ⟨b_23, kb_23, rfl, N26, K26, g_b_23, sz_b_23, r23_0_26, r23_1_26, r23_2_26, F_size_a1_26, V_b_23_26, r23_5_26, r23_6⟩
theorem d12_0 : decode jdk_38_method_25_code 0 = .ok (.aload_n 0, 1) := by decide +kernel
theorem d12_1 : decode jdk_38_method_25_code 1 = .ok (.dup, 1) := by decide +kernel
theorem d12_2 : decode jdk_38_method_25_code 2 = .ok (.getfield 63, 3) := by decide +kernel
theorem d12_5 : decode jdk_38_method_25_code 5 = .ok (.iconst 1, 1) := by decide +kernel
theorem d12_6 : decode jdk_38_method_25_code 6 = .ok (.iadd, 1) := by decide +kernel
theorem d12_7 : decode jdk_38_method_25_code 7 = .ok (.putfield 63, 3) := by decide +kernel
theorem d12_10 : decode jdk_38_method_25_code 10 = .ok (.aload_n 0, 1) := by decide +kernel
theorem d12_11 : decode jdk_38_method_25_code 11 = .ok (.aload_n 1, 1) := by decide +kernel
theorem d12_12 : decode jdk_38_method_25_code 12 = .ok (.aload_n 0, 1) := by decide +kernel
theorem d12_13 : decode jdk_38_method_25_code 13 = .ok (.getfield 9, 3) := by decide +kernel
theorem d12_16 : decode jdk_38_method_25_code 16 = .ok (.aload_n 0, 1) := by decide +kernel
theorem d12_17 : decode jdk_38_method_25_code 17 = .ok (.getfield 48, 3) := by decide +kernel
theorem d12_20 : decode jdk_38_method_25_code 20 = .ok (.invokevirtual 131, 3) := by decide +kernel
theorem d12_23 : decode jdk_38_method_25_code 23 = .ok (.iconst 1, 1) := by decide +kernel
theorem d12_24 : decode jdk_38_method_25_code 24 = .ok (.ireturn, 1) := by decide +kernel
theorem ef_add_0 (m : MethodId) (x0 : Addr) (x1 : Addr) : entryFrame m #[(.ref x0), (.ref x1)] 2 = mkF m 0 #[.val (.ref x0), .val (.ref x1)] [] := by first | (simp [entryFrame, mkF, argsToLocals, Value.category]; done) | rfl
def Qadd_0 (Z : State) (a1 : Addr) (dd : Addr) (kd : ClassId) (mc : Int32) (a2 : Addr) (h0 : Heap) (n0 : Nat) (v : Option Value) (h : Heap) (L : List Loc) : Prop := ∃ (b : Addr) (kb : ClassId), v = some (.int (1 : Int32)) ∧ Fr n0 L ∧ Keep h0 h [a1] ∧ n0 ≤ b ∧ h0.size ≤ b ∧ Exa Z h a1 "java/util/ArrayList" ∧ Fld Z h a1 "java/util/AbstractList" "modCount" "I" (.int (mc + (1 : Int32))) ∧ Fld Z h a1 "java/util/ArrayList" "elementData" "[Ljava/lang/Object;" (.ref b) ∧ Fld Z h a1 "java/util/ArrayList" "size" "I" (.int (1 : Int32)) ∧ Arv Z h b kb (.object "java/lang/Object") (10 : Int32) [(.ref a2), .null, .null, .null, .null, .null, .null, .null, .null, .null] .null ∧ Exa Z h b "[Ljava/lang/Object;" ∧ Ovr Z kb "java/lang/Object"
abbrev Gadd_0 (Z : State) (a1 : Addr) (dd : Addr) (kd : ClassId) (mc : Int32) (a2 : Addr) (h0 : Heap) (n0 : Nat) (s : State) : Outcome → State → Prop := fun o U' => ∃ v L, o = .returned v ∧ Qadd_0 Z a1 dd kd mc a2 h0 n0 v U'.heap L ∧ FrameEnd s o U' L ({ frames := 4, cells := 1, slots := 10, locals := 64 } : Room).cells ({ frames := 4, cells := 1, slots := 10, locals := 64 } : Room).slots
theorem pd__28_Ljava_2f_lang_2f_Object_3b__5b_Ljava_2f_lang_2f_Object_3b_I_29_V : parseMethodDescriptor "(Ljava/lang/Object;[Ljava/lang/Object;I)V" = some ⟨[(.object "java/lang/Object"), (.array (.object "java/lang/Object")), .int], none⟩ := by decide +kernel
set_option maxRecDepth 65536 in
set_option maxHeartbeats 40000000 in
theorem rmadd_0 (l : Launch) (Z : State) (a0 : Array Value) (hw : ∀ d ∈ tables_1, d.before a0 Z = true) (ws : List Jvm.Cond) (a1 : Addr) (dd : Addr) (kd : ClassId) (mc : Int32) (a2 : Addr) (h0 : Heap) (n0 : Nat) (Z0 : n0 ≤ h0.size) (E_a1 : Exa Z h0 a1 "java/util/ArrayList") (F_modCount_a1 : Fld Z h0 a1 "java/util/AbstractList" "modCount" "I" (.int mc)) (F_elementData_a1 : Fld Z h0 a1 "java/util/ArrayList" "elementData" "[Ljava/lang/Object;" (.ref dd)) (F_size_a1 : Fld Z h0 a1 "java/util/ArrayList" "size" "I" (.int (0 : Int32))) (V_dd : Arv Z h0 dd kd (.object "java/lang/Object") (0 : Int32) [] .null) (S_DEFAULTCAPACITY_EMPTY_ELEMENTDATA : Sta Z Z.heap "java/util/ArrayList" "DEFAULTCAPACITY_EMPTY_ELEMENTDATA" "[Ljava/lang/Object;" (.ref dd)) (O0 : Old Z n0 h0) (g_a1 : n0 ≤ a1) (E_a2 : Exa Z h0 a2 "java/lang/String") :
    MetFree l (⟨"java/util/ArrayList", "add", "(Ljava/lang/Object;)Z"⟩ : MethodName) (head1 (Jvm.Cond.code (⟨"java/util/ArrayList", "add", "(Ljava/lang/Object;)Z"⟩ : MethodName) jdk_38_method_25_code 2 (some .boolean) :: ws) ({ frames := 4, cells := 1, slots := 10, locals := 64 } : Room)) (fun a U => a = #[(.ref a1), (.ref a2)] ∧ Z.Warmed39 U.vm ∧ U.heap = h0) (fun _ _ _ _ _ => True) (fun _ U o U' => ∃ v L, o = .returned v ∧ Qadd_0 Z a1 dd kd mc a2 h0 n0 v U'.heap L ∧ FrameEnd U o U' L ({ frames := 4, cells := 1, slots := 10, locals := 64 } : Room).cells ({ frames := 4, cells := 1, slots := 10, locals := 64 } : Room).slots) := by
  refine MetFree.of_bodySF (plainFor_of_name pn_java_util_ArrayList) hisR ?_
  intro p e s m args below meth c s₁ Bd hml0 hP hK
  obtain ⟨rfl, hZ, hh⟩ := hP
  have hx := Bd.exec
  have hby := Bd.bytes
  have hml : c.maxLocals = 2 := hml0
  have hown : s.vm.findClass "java/util/ArrayList" = some m.cls := findClass_of_methodNamed Bd.named
  have hnm := (name_of_methodNamed Bd.named Bd.method).1
  have X0 : Stand p l e ({ frames := 4, cells := 1, slots := 10, locals := 64 } : Room) s m #[(.ref a1), (.ref a2)] below meth c s₁ [] 0 0 := Stand.of_body Bd
  have e0 : s₁.heap = h0 := by rw [← hh, Bd.state]; rfl
  have es0 : s.heap = h0 := hh
  have N0 := Fr.nil n0
  show own_Fin p e below (Gadd_0 Z a1 dd kd mc a2 h0 n0 s) (s₁.setTop (entryFrame m #[(.ref a1), (.ref a2)] 2))
  rw [ef_add_0 m a1 a2]
  have Kz := Keep.refl h0 [a1]
  refine own_go (XS.aloadN X0.here hx rfl (hb hby d12_0) rfl rfl (Steps.refl _)) ?_
  show own_Fin _ _ _ _ (s₁.setTop (mkF m 1 #[rv a1, rv a2] [(.ref a1)]))
  refine own_go (XS.dup X0.here hx rfl (hb hby d12_1) rfl rfl (Steps.refl _)) ?_
  show own_Fin _ _ _ _ (s₁.setTop (mkF m 2 #[rv a1, rv a2] [(.ref a1), (.ref a1)]))
  obtain ⟨T28, X28, e28, st28⟩ := getF X0 hx hZ hown (host := "") (Or.inl (hw _ (List.mem_of_getElem? (i := 90) rfl))) (Via.of (hw _ (List.mem_of_getElem? (i := 91) rfl))) e0 F_modCount_a1 (g := (mkF m 2 #[rv a1, rv a2] [(.ref a1), (.ref a1)])) rfl rfl (hb hby d12_2)
  refine own_by st28 ?_
  show own_Fin _ _ _ _ (T28.setTop (mkF m 5 #[rv a1, rv a2] [(.int mc), (.ref a1)]))
  refine own_go (XS.iconst X28.here hx rfl (hb hby d12_5) (Steps.refl _)) ?_
  show own_Fin _ _ _ _ (T28.setTop (mkF m 6 #[rv a1, rv a2] [(.int (1 : Int32)), (.int mc), (.ref a1)]))
  refine own_go (XS.iadd X28.here hx rfl (hb hby d12_6) rfl (Steps.refl _)) ?_
  show own_Fin _ _ _ _ (T28.setTop (mkF m 7 #[rv a1, rv a2] [(.int (mc + (1 : Int32))), (.ref a1)]))
  obtain ⟨T29, h29, X29, e29, W29, st29⟩ := putF X28 hx hZ hown (host := "") (Or.inl (hw _ (List.mem_of_getElem? (i := 90) rfl))) (Via.of (hw _ (List.mem_of_getElem? (i := 91) rfl))) e28 F_modCount_a1 E_a1 (Or.inl (hw _ (List.mem_of_getElem? (i := 22) rfl))) (hw _ (List.mem_of_getElem? (i := 1) rfl)) (ty := .int) (by decide) rfl rfl (g := (mkF m 7 #[rv a1, rv a2] [(.int (mc + (1 : Int32))), (.ref a1)])) rfl rfl (hb hby d12_7)
  refine own_by st29 ?_
  have F_modCount_a1_29 := F_modCount_a1.same W29
  have Od29 := O0.wr W29 g_a1
  have E_a1_29 := E_a1.wr W29
  have F_elementData_a1_29 := F_elementData_a1.other W29 (Or.inr (slot_ne (Or.inl (hw _ (List.mem_of_getElem? (i := 25) rfl))) (Or.inl (hw _ (List.mem_of_getElem? (i := 22) rfl))) (by decide) (t := (.array (.object "java/lang/Object"))) (t' := .int) (by decide) (by decide)))
  have F_size_a1_29 := F_size_a1.other W29 (Or.inr (slot_ne (Or.inl (hw _ (List.mem_of_getElem? (i := 43) rfl))) (Or.inl (hw _ (List.mem_of_getElem? (i := 22) rfl))) (by decide) (t := .int) (t' := .int) (by decide) (by decide)))
  have V_dd_29 := V_dd.other W29 (Ne.symm (Exa.neArv E_a1 V_dd (hw _ (List.mem_of_getElem? (i := 1) rfl))))
  have E_a2_29 := E_a2.wr W29
  have N29 := Fr.snoc X29 N0 g_a1
  have Z29 : n0 ≤ h29.size := Nat.le_trans Z0 (Keep.of_wr W29).1
  have K29 := Kz.wr W29 (Or.inl (List.mem_of_getElem? (i := 0) rfl))
  show own_Fin _ _ _ _ (T29.setTop (mkF m 10 #[rv a1, rv a2] []))
  refine own_go (XS.aloadN X29.here hx rfl (hb hby d12_10) rfl rfl (Steps.refl _)) ?_
  show own_Fin _ _ _ _ (T29.setTop (mkF m 11 #[rv a1, rv a2] [(.ref a1)]))
  refine own_go (XS.aloadN X29.here hx rfl (hb hby d12_11) rfl rfl (Steps.refl _)) ?_
  show own_Fin _ _ _ _ (T29.setTop (mkF m 12 #[rv a1, rv a2] [(.ref a2), (.ref a1)]))
  refine own_go (XS.aloadN X29.here hx rfl (hb hby d12_12) rfl rfl (Steps.refl _)) ?_
  show own_Fin _ _ _ _ (T29.setTop (mkF m 13 #[rv a1, rv a2] [(.ref a1), (.ref a2), (.ref a1)]))
  obtain ⟨T30, X30, e30, st30⟩ := getF X29 hx hZ hown (host := "") (Or.inl (hw _ (List.mem_of_getElem? (i := 24) rfl))) Via.refl e29 F_elementData_a1_29 (g := (mkF m 13 #[rv a1, rv a2] [(.ref a1), (.ref a2), (.ref a1)])) rfl rfl (hb hby d12_13)
  refine own_by st30 ?_
  show own_Fin _ _ _ _ (T30.setTop (mkF m 16 #[rv a1, rv a2] [(.ref dd), (.ref a2), (.ref a1)]))
  refine own_go (XS.aloadN X30.here hx rfl (hb hby d12_16) rfl rfl (Steps.refl _)) ?_
  show own_Fin _ _ _ _ (T30.setTop (mkF m 17 #[rv a1, rv a2] [(.ref a1), (.ref dd), (.ref a2), (.ref a1)]))
  obtain ⟨T31, X31, e31, st31⟩ := getF X30 hx hZ hown (host := "") (Or.inl (hw _ (List.mem_of_getElem? (i := 42) rfl))) Via.refl e30 F_size_a1_29 (g := (mkF m 17 #[rv a1, rv a2] [(.ref a1), (.ref dd), (.ref a2), (.ref a1)])) rfl rfl (hb hby d12_17)
  refine own_by st31 ?_
  show own_Fin _ _ _ _ (T31.setTop (mkF m 20 #[rv a1, rv a2] [(.int (0 : Int32)), (.ref dd), (.ref a2), (.ref a1)]))
  obtain ⟨cq32, q32, q32'⟩ := E_a1_29.cell
  obtain ⟨_, _, ⟨T32, L32, k32, n32⟩, -, X32, ⟨Lc32, hQ32, l32, y32, z32⟩, st32⟩ := X31.privateBack hx (y := (⟨"java/util/ArrayList", "add", "(Ljava/lang/Object;[Ljava/lang/Object;I)V"⟩ : MethodName)) hown (mvT hZ (hw _ (List.mem_of_getElem? (i := 92) rfl))) (mvT hZ (hw _ (List.mem_of_getElem? (i := 93) rfl))) (mvT hZ (hw _ (List.mem_of_getElem? (i := 95) rfl))) (Cond.privateMethod_at (mvP hZ (hw _ (List.mem_of_getElem? (i := 94) rfl)) (args := #[]))) (mvT hZ (hw _ (List.mem_of_getElem? (i := 96) rfl))) (by decide) (backOf (W := 0) (rmad3_0 l Z a0 hw [] a1 dd kd (mc + (1 : Int32)) a2 h29 n0 Z29 E_a1_29 F_modCount_a1_29 F_elementData_a1_29 F_size_a1_29 V_dd_29 S_DEFAULTCAPACITY_EMPTY_ELEMENTDATA Od29 g_a1 E_a2_29) hZ (hw _ (List.mem_of_getElem? (i := 96) rfl)) (hw _ (List.mem_of_getElem? (i := 2) rfl)) (by decide) (by decide)) (g := (mkF m 20 #[rv a1, rv a2] [(.int (0 : Int32)), (.ref dd), (.ref a2), (.ref a1)])) rfl (by rw [hml]; rfl) (Steps.refl _) (a := a1) (by rw [e31]; exact q32) q32' (argsL := [(.ref a2), (.ref dd), (.int (0 : Int32))]) (rest := []) (lenOf pd__28_Ljava_2f_lang_2f_Object_3b__5b_Ljava_2f_lang_2f_Object_3b_I_29_V rfl) rfl (by show 2 * 0 + _ ≤ _; exact Nat.le_of_eq rfl) (hb hby d12_20) (fun _ _ => ⟨rfl, e31, (by decide : 0 + 1 ≤ _), (by decide : 0 + 10 ≤ _)⟩)
  dsimp only [Pt.U, Pt.locs, Pt.cells, Pt.slots] at X32 l32 y32 z32 st32 hQ32
  subst l32 y32 z32
  refine own_go st32 ?_
  obtain ⟨b_32, kb_32, rfl, Nq32, K32, g_b_32, sb_b_32, r32_0, r32_1, r32_2, r32_3, r32_4, r32_5, r32_6⟩ := hQ32
  have ne_a1_b_32 : a1 ≠ b_32 := Nat.ne_of_lt (Nat.lt_of_lt_of_le E_a1_29.lt sb_b_32)
  have ne_dd_b_32 : dd ≠ b_32 := Nat.ne_of_lt (Nat.lt_of_lt_of_le V_dd_29.lt sb_b_32)
  have ne_a2_b_32 : a2 ≠ b_32 := Nat.ne_of_lt (Nat.lt_of_lt_of_le E_a2_29.lt sb_b_32)
  have sz_b_32 : h0.size ≤ b_32 := Nat.le_trans K29.1 sb_b_32
  have Od32 := Od29.keep K32 (allS g_a1 all0)
  have E_a1_32 := E_a1_29.keep K32
  have V_dd_32 := V_dd_29.keep K32 (ninS (Ne.symm (Exa.neArv E_a1_29 V_dd_29 (hw _ (List.mem_of_getElem? (i := 1) rfl)))) nin0)
  have E_a2_32 := E_a2_29.keep K32
  have Z32 : n0 ≤ T32.heap.size := Nat.le_trans Z29 K32.1
  have Kt32 := K29.trans K32 (allS (P := fun x => x ∈ _ ∨ _ ≤ x) (Or.inl (List.mem_of_getElem? (i := 0) rfl)) all0)
  have N32 := Fr.app N29 Nq32
  show own_Fin _ _ _ _ (T32.setTop (mkF m 23 #[rv a1, rv a2] []))
  refine own_go (XS.iconst X32.here hx rfl (hb hby d12_23) (Steps.refl _)) ?_
  show own_Fin _ _ _ _ (T32.setTop (mkF m 24 #[rv a1, rv a2] [(.int (1 : Int32))]))
  obtain ⟨fs33, hr33, hrun33, hended33, hW33, hsame33⟩ := X32.leave (v := some (.int (1 : Int32))) (fun h => by rw [Bd.returns] at h; cases h)
  refine own_done (retN X32 hx (t := .boolean) Bd.returns (by simp) (hb hby d12_24) hr33) hrun33 hended33 ⟨_, _, rfl, ?_, ⟨_, rfl⟩, hW33, hsame33.mono (by decide) (by decide)⟩
  show Qadd_0 Z a1 dd kd mc a2 h0 n0 _ T32.heap _
  exact ⟨b_32, kb_32, rfl, N32, Kt32, g_b_32, sz_b_32, r32_0, r32_1, r32_2, r32_3, r32_4, r32_5, r32_6⟩
theorem ef_ad3_1 (m : MethodId) (x0 : Addr) (x1 : Addr) (x2 : Addr) (x3 : Int32) : entryFrame m #[(.ref x0), (.ref x1), (.ref x2), (.int x3)] 4 = mkF m 0 #[.val (.ref x0), .val (.ref x1), .val (.ref x2), .val (.int x3)] [] := by first | (simp [entryFrame, mkF, argsToLocals, Value.category]; done) | rfl
def Qad3_1 (Z : State) (a1 : Addr) (a2 : Addr) (b3 : Addr) (k3 : ClassId) (mc : Int32) (s0 : Addr) (h0 : Heap) (n0 : Nat) (v : Option Value) (h : Heap) (L : List Loc) : Prop := v = none ∧ Fr n0 L ∧ Keep h0 h [a1, b3] ∧ Exa Z h a1 "java/util/ArrayList" ∧ Fld Z h a1 "java/util/AbstractList" "modCount" "I" (.int mc) ∧ Fld Z h a1 "java/util/ArrayList" "elementData" "[Ljava/lang/Object;" (.ref b3) ∧ Fld Z h a1 "java/util/ArrayList" "size" "I" (.int (2 : Int32)) ∧ Arv Z h b3 k3 (.object "java/lang/Object") (10 : Int32) [(.ref s0), (.ref a2), .null, .null, .null, .null, .null, .null, .null, .null] .null
abbrev Gad3_1 (Z : State) (a1 : Addr) (a2 : Addr) (b3 : Addr) (k3 : ClassId) (mc : Int32) (s0 : Addr) (h0 : Heap) (n0 : Nat) (s : State) : Outcome → State → Prop := fun o U' => ∃ v L, o = .returned v ∧ Qad3_1 Z a1 a2 b3 k3 mc s0 h0 n0 v U'.heap L ∧ FrameEnd s o U' L ({ frames := 0, cells := 0, slots := 0, locals := 0 } : Room).cells ({ frames := 0, cells := 0, slots := 0, locals := 0 } : Room).slots
set_option maxRecDepth 65536 in
set_option maxHeartbeats 40000000 in
theorem rmad3_1 (l : Launch) (Z : State) (a0 : Array Value) (hw : ∀ d ∈ tables_1, d.before a0 Z = true) (ws : List Jvm.Cond) (a1 : Addr) (a2 : Addr) (b3 : Addr) (k3 : ClassId) (mc : Int32) (s0 : Addr) (h0 : Heap) (n0 : Nat) (Z0 : n0 ≤ h0.size) (E_a1 : Exa Z h0 a1 "java/util/ArrayList") (F_modCount_a1 : Fld Z h0 a1 "java/util/AbstractList" "modCount" "I" (.int mc)) (F_elementData_a1 : Fld Z h0 a1 "java/util/ArrayList" "elementData" "[Ljava/lang/Object;" (.ref b3)) (F_size_a1 : Fld Z h0 a1 "java/util/ArrayList" "size" "I" (.int (1 : Int32))) (V_b3 : Arv Z h0 b3 k3 (.object "java/lang/Object") (10 : Int32) [(.ref s0), .null, .null, .null, .null, .null, .null, .null, .null, .null] .null) (ov : Ovr Z k3 "java/lang/Object") (E_a2 : Exa Z h0 a2 "java/lang/String") (g_a1 : n0 ≤ a1) (g_b3 : n0 ≤ b3) (ne13 : a1 ≠ b3) :
    MetFree l (⟨"java/util/ArrayList", "add", "(Ljava/lang/Object;[Ljava/lang/Object;I)V"⟩ : MethodName) (head1 (Jvm.Cond.code (⟨"java/util/ArrayList", "add", "(Ljava/lang/Object;[Ljava/lang/Object;I)V"⟩ : MethodName) jdk_38_method_24_code 4 none :: ws) ({ frames := 0, cells := 0, slots := 0, locals := 0 } : Room)) (fun a U => a = #[(.ref a1), (.ref a2), (.ref b3), (.int (1 : Int32))] ∧ Z.Warmed39 U.vm ∧ U.heap = h0) (fun _ _ _ _ _ => True) (fun _ U o U' => ∃ v L, o = .returned v ∧ Qad3_1 Z a1 a2 b3 k3 mc s0 h0 n0 v U'.heap L ∧ FrameEnd U o U' L ({ frames := 0, cells := 0, slots := 0, locals := 0 } : Room).cells ({ frames := 0, cells := 0, slots := 0, locals := 0 } : Room).slots) := by
  refine MetFree.of_bodySF (plainFor_of_name pn_java_util_ArrayList) hisR ?_
  intro p e s m args below meth c s₁ Bd hml0 hP hK
  obtain ⟨rfl, hZ, hh⟩ := hP
  have hx := Bd.exec
  have hby := Bd.bytes
  have hml : c.maxLocals = 4 := hml0
  have hown : s.vm.findClass "java/util/ArrayList" = some m.cls := findClass_of_methodNamed Bd.named
  have hnm := (name_of_methodNamed Bd.named Bd.method).1
  have X0 : Stand p l e ({ frames := 0, cells := 0, slots := 0, locals := 0 } : Room) s m #[(.ref a1), (.ref a2), (.ref b3), (.int (1 : Int32))] below meth c s₁ [] 0 0 := Stand.of_body Bd
  have e0 : s₁.heap = h0 := by rw [← hh, Bd.state]; rfl
  have es0 : s.heap = h0 := hh
  have N0 := Fr.nil n0
  show own_Fin p e below (Gad3_1 Z a1 a2 b3 k3 mc s0 h0 n0 s) (s₁.setTop (entryFrame m #[(.ref a1), (.ref a2), (.ref b3), (.int (1 : Int32))] 4))
  rw [ef_ad3_1 m a1 a2 b3 (1 : Int32)]
  have Kz := Keep.refl h0 [a1, b3]
  refine own_go (XS.iloadN X0.here hx rfl (hb hby d13_0) rfl (Steps.refl _)) ?_
  show own_Fin _ _ _ _ (s₁.setTop (mkF m 1 #[rv a1, rv a2, rv b3, iv (1 : Int32)] [(.int (1 : Int32))]))
  refine own_go (XS.aloadN X0.here hx rfl (hb hby d13_1) rfl rfl (Steps.refl _)) ?_
  show own_Fin _ _ _ _ (s₁.setTop (mkF m 2 #[rv a1, rv a2, rv b3, iv (1 : Int32)] [(.ref b3), (.int (1 : Int32))]))
  obtain ⟨cl34, Ar34, qa34, Sa34, Na34, Ha34, Ga34⟩ := id V_b3
  refine own_by (X0.arraylength hx (by rw [e0]; exact Ar34.1) (State.isArrayOf_alike hZ.alike Ar34.2.1) (g := (mkF m 2 #[rv a1, rv a2, rv b3, iv (1 : Int32)] [(.ref b3), (.int (1 : Int32))])) rfl rfl (hb hby d13_2)) ?_
  rw [len_of Sa34 Na34]
  show own_Fin _ _ _ _ (s₁.setTop (mkF m 3 #[rv a1, rv a2, rv b3, iv (1 : Int32)] [(.int (10 : Int32)), (.int (1 : Int32))]))
  refine own_go (XS.icmpYes X0.here hx rfl (pc0 := 3) (pc' := 11) rfl (hb hby d13_3) rfl (feq (by decide : ¬ ((1 : Int32) = (10 : Int32)))).2 (by decide) (by decide) (Steps.refl _)) ?_
  show own_Fin _ _ _ _ (s₁.setTop (mkF m 11 #[rv a1, rv a2, rv b3, iv (1 : Int32)] []))
  refine own_go (XS.aloadN X0.here hx rfl (hb hby d13_11) rfl rfl (Steps.refl _)) ?_
  show own_Fin _ _ _ _ (s₁.setTop (mkF m 12 #[rv a1, rv a2, rv b3, iv (1 : Int32)] [(.ref b3)]))
  refine own_go (XS.iloadN X0.here hx rfl (hb hby d13_12) rfl (Steps.refl _)) ?_
  show own_Fin _ _ _ _ (s₁.setTop (mkF m 13 #[rv a1, rv a2, rv b3, iv (1 : Int32)] [(.int (1 : Int32)), (.ref b3)]))
  refine own_go (XS.aloadN X0.here hx rfl (hb hby d13_13) rfl rfl (Steps.refl _)) ?_
  show own_Fin _ _ _ _ (s₁.setTop (mkF m 14 #[rv a1, rv a2, rv b3, iv (1 : Int32)] [(.ref a2), (.int (1 : Int32)), (.ref b3)]))
  obtain ⟨cl35, Ar35, qa35, Sa35, Na35, Ha35, Ga35⟩ := id V_b3
  have hin35 : ¬ ((1 : Int32) < 0 ∨ cl35.slots.size ≤ ((1 : Int32)).toNatClampNeg) := inb_of Sa35 ⟨by decide, by decide⟩
  obtain ⟨T36, h36, X36, e36, W36, st36⟩ := stR X0 hx hZ e0 Ar35 (j := (1 : Int32)) hin35 rfl (Sto.ofV Ar35 qa35 ov (Ins.of_exa E_a2 (hw _ (List.mem_of_getElem? (i := 113) rfl)))) (g := (mkF m 14 #[rv a1, rv a2, rv b3, iv (1 : Int32)] [(.ref a2), (.int (1 : Int32)), (.ref b3)])) rfl rfl (hb hby d13_14)
  refine own_by st36 ?_
  have V_b3_36 : Arv Z h36 b3 k3 (.object "java/lang/Object") (10 : Int32) [(.ref s0), (.ref a2), .null, .null, .null, .null, .null, .null, .null, .null] .null := Arv.set Ar35 qa35 Sa35 Na35 Ha35 Ga35 rfl W36 1 rfl (Nat.le_of_ble_eq_true rfl)
  have E_a1_36 := E_a1.wr W36
  have F_modCount_a1_36 := F_modCount_a1.other W36 (Or.inl ne13)
  have F_elementData_a1_36 := F_elementData_a1.other W36 (Or.inl ne13)
  have F_size_a1_36 := F_size_a1.other W36 (Or.inl ne13)
  have E_a2_36 := E_a2.wr W36
  have N36 := Fr.snoc X36 N0 g_b3
  have Z36 : n0 ≤ h36.size := Nat.le_trans Z0 (Keep.of_wr W36).1
  have K36 := Kz.wr W36 (Or.inl (List.mem_of_getElem? (i := 1) rfl))
  show own_Fin _ _ _ _ (T36.setTop (mkF m 15 #[rv a1, rv a2, rv b3, iv (1 : Int32)] []))
  refine own_go (XS.aloadN X36.here hx rfl (hb hby d13_15) rfl rfl (Steps.refl _)) ?_
  show own_Fin _ _ _ _ (T36.setTop (mkF m 16 #[rv a1, rv a2, rv b3, iv (1 : Int32)] [(.ref a1)]))
  refine own_go (XS.iloadN X36.here hx rfl (hb hby d13_16) rfl (Steps.refl _)) ?_
  show own_Fin _ _ _ _ (T36.setTop (mkF m 17 #[rv a1, rv a2, rv b3, iv (1 : Int32)] [(.int (1 : Int32)), (.ref a1)]))
  refine own_go (XS.iconst X36.here hx rfl (hb hby d13_17) (Steps.refl _)) ?_
  show own_Fin _ _ _ _ (T36.setTop (mkF m 18 #[rv a1, rv a2, rv b3, iv (1 : Int32)] [(.int (1 : Int32)), (.int (1 : Int32)), (.ref a1)]))
  refine own_go (XS.iadd X36.here hx rfl (hb hby d13_18) rfl (Steps.refl _)) ?_
  show own_Fin _ _ _ _ (T36.setTop (mkF m 19 #[rv a1, rv a2, rv b3, iv (1 : Int32)] [(.int (2 : Int32)), (.ref a1)]))
  obtain ⟨T37, h37, X37, e37, W37, st37⟩ := putF X36 hx hZ hown (host := "") (Or.inl (hw _ (List.mem_of_getElem? (i := 42) rfl))) Via.refl e36 F_size_a1_36 E_a1_36 (Or.inl (hw _ (List.mem_of_getElem? (i := 43) rfl))) (hw _ (List.mem_of_getElem? (i := 1) rfl)) (ty := .int) (by decide) rfl rfl (g := (mkF m 19 #[rv a1, rv a2, rv b3, iv (1 : Int32)] [(.int (2 : Int32)), (.ref a1)])) rfl rfl (hb hby d13_19)
  refine own_by st37 ?_
  have F_size_a1_37 := F_size_a1_36.same W37
  have E_a1_37 := E_a1_36.wr W37
  have F_modCount_a1_37 := F_modCount_a1_36.other W37 (Or.inr (slot_ne (Or.inl (hw _ (List.mem_of_getElem? (i := 22) rfl))) (Or.inl (hw _ (List.mem_of_getElem? (i := 43) rfl))) (by decide) (t := .int) (t' := .int) (by decide) (by decide)))
  have F_elementData_a1_37 := F_elementData_a1_36.other W37 (Or.inr (slot_ne (Or.inl (hw _ (List.mem_of_getElem? (i := 25) rfl))) (Or.inl (hw _ (List.mem_of_getElem? (i := 43) rfl))) (by decide) (t := (.array (.object "java/lang/Object"))) (t' := .int) (by decide) (by decide)))
  have V_b3_37 := V_b3_36.other W37 (Ne.symm ne13)
  have E_a2_37 := E_a2_36.wr W37
  have N37 := Fr.snoc X37 N36 g_a1
  have Z37 : n0 ≤ h37.size := Nat.le_trans Z36 (Keep.of_wr W37).1
  have K37 := K36.wr W37 (Or.inl (List.mem_of_getElem? (i := 0) rfl))
  show own_Fin _ _ _ _ (T37.setTop (mkF m 22 #[rv a1, rv a2, rv b3, iv (1 : Int32)] []))
  obtain ⟨fs38, hr38, hrun38, hended38, hW38, hsame38⟩ := X37.leave (v := none) (fun _ => rfl)
  refine own_done (X37.returnOut hx Bd.returns (hb hby d13_22) hr38) hrun38 hended38 ⟨_, _, rfl, ?_, ⟨_, rfl⟩, hW38, hsame38.mono (by decide) (by decide)⟩
  show Qad3_1 Z a1 a2 b3 k3 mc s0 h0 n0 _ T37.heap _
  rw [e37]
  exact ⟨rfl, N37, K37, E_a1_37, F_modCount_a1_37, F_elementData_a1_37, F_size_a1_37, V_b3_37⟩
theorem ef_add_1 (m : MethodId) (x0 : Addr) (x1 : Addr) : entryFrame m #[(.ref x0), (.ref x1)] 2 = mkF m 0 #[.val (.ref x0), .val (.ref x1)] [] := by first | (simp [entryFrame, mkF, argsToLocals, Value.category]; done) | rfl
def Qadd_1 (Z : State) (a1 : Addr) (a2 : Addr) (b3 : Addr) (k3 : ClassId) (mc : Int32) (s0 : Addr) (h0 : Heap) (n0 : Nat) (v : Option Value) (h : Heap) (L : List Loc) : Prop := v = some (.int (1 : Int32)) ∧ Fr n0 L ∧ Keep h0 h [a1, b3] ∧ Exa Z h a1 "java/util/ArrayList" ∧ Fld Z h a1 "java/util/AbstractList" "modCount" "I" (.int (mc + (1 : Int32))) ∧ Fld Z h a1 "java/util/ArrayList" "elementData" "[Ljava/lang/Object;" (.ref b3) ∧ Fld Z h a1 "java/util/ArrayList" "size" "I" (.int (2 : Int32)) ∧ Arv Z h b3 k3 (.object "java/lang/Object") (10 : Int32) [(.ref s0), (.ref a2), .null, .null, .null, .null, .null, .null, .null, .null] .null
abbrev Gadd_1 (Z : State) (a1 : Addr) (a2 : Addr) (b3 : Addr) (k3 : ClassId) (mc : Int32) (s0 : Addr) (h0 : Heap) (n0 : Nat) (s : State) : Outcome → State → Prop := fun o U' => ∃ v L, o = .returned v ∧ Qadd_1 Z a1 a2 b3 k3 mc s0 h0 n0 v U'.heap L ∧ FrameEnd s o U' L ({ frames := 1, cells := 0, slots := 0, locals := 20 } : Room).cells ({ frames := 1, cells := 0, slots := 0, locals := 20 } : Room).slots
set_option maxRecDepth 65536 in
set_option maxHeartbeats 40000000 in
theorem rmadd_1 (l : Launch) (Z : State) (a0 : Array Value) (hw : ∀ d ∈ tables_1, d.before a0 Z = true) (ws : List Jvm.Cond) (a1 : Addr) (a2 : Addr) (b3 : Addr) (k3 : ClassId) (mc : Int32) (s0 : Addr) (h0 : Heap) (n0 : Nat) (Z0 : n0 ≤ h0.size) (E_a1 : Exa Z h0 a1 "java/util/ArrayList") (F_modCount_a1 : Fld Z h0 a1 "java/util/AbstractList" "modCount" "I" (.int mc)) (F_elementData_a1 : Fld Z h0 a1 "java/util/ArrayList" "elementData" "[Ljava/lang/Object;" (.ref b3)) (F_size_a1 : Fld Z h0 a1 "java/util/ArrayList" "size" "I" (.int (1 : Int32))) (V_b3 : Arv Z h0 b3 k3 (.object "java/lang/Object") (10 : Int32) [(.ref s0), .null, .null, .null, .null, .null, .null, .null, .null, .null] .null) (ov : Ovr Z k3 "java/lang/Object") (E_a2 : Exa Z h0 a2 "java/lang/String") (g_a1 : n0 ≤ a1) (g_b3 : n0 ≤ b3) (ne13 : a1 ≠ b3) :
    MetFree l (⟨"java/util/ArrayList", "add", "(Ljava/lang/Object;)Z"⟩ : MethodName) (head1 (Jvm.Cond.code (⟨"java/util/ArrayList", "add", "(Ljava/lang/Object;)Z"⟩ : MethodName) jdk_38_method_25_code 2 (some .boolean) :: ws) ({ frames := 1, cells := 0, slots := 0, locals := 20 } : Room)) (fun a U => a = #[(.ref a1), (.ref a2)] ∧ Z.Warmed39 U.vm ∧ U.heap = h0) (fun _ _ _ _ _ => True) (fun _ U o U' => ∃ v L, o = .returned v ∧ Qadd_1 Z a1 a2 b3 k3 mc s0 h0 n0 v U'.heap L ∧ FrameEnd U o U' L ({ frames := 1, cells := 0, slots := 0, locals := 20 } : Room).cells ({ frames := 1, cells := 0, slots := 0, locals := 20 } : Room).slots) := by
  refine MetFree.of_bodySF (plainFor_of_name pn_java_util_ArrayList) hisR ?_
  intro p e s m args below meth c s₁ Bd hml0 hP hK
  obtain ⟨rfl, hZ, hh⟩ := hP
  have hx := Bd.exec
  have hby := Bd.bytes
  have hml : c.maxLocals = 2 := hml0
  have hown : s.vm.findClass "java/util/ArrayList" = some m.cls := findClass_of_methodNamed Bd.named
  have hnm := (name_of_methodNamed Bd.named Bd.method).1
  have X0 : Stand p l e ({ frames := 1, cells := 0, slots := 0, locals := 20 } : Room) s m #[(.ref a1), (.ref a2)] below meth c s₁ [] 0 0 := Stand.of_body Bd
  have e0 : s₁.heap = h0 := by rw [← hh, Bd.state]; rfl
  have es0 : s.heap = h0 := hh
  have N0 := Fr.nil n0
  show own_Fin p e below (Gadd_1 Z a1 a2 b3 k3 mc s0 h0 n0 s) (s₁.setTop (entryFrame m #[(.ref a1), (.ref a2)] 2))
  rw [ef_add_1 m a1 a2]
  have Kz := Keep.refl h0 [a1, b3]
  refine own_go (XS.aloadN X0.here hx rfl (hb hby d12_0) rfl rfl (Steps.refl _)) ?_
  show own_Fin _ _ _ _ (s₁.setTop (mkF m 1 #[rv a1, rv a2] [(.ref a1)]))
  refine own_go (XS.dup X0.here hx rfl (hb hby d12_1) rfl rfl (Steps.refl _)) ?_
  show own_Fin _ _ _ _ (s₁.setTop (mkF m 2 #[rv a1, rv a2] [(.ref a1), (.ref a1)]))
  obtain ⟨T39, X39, e39, st39⟩ := getF X0 hx hZ hown (host := "") (Or.inl (hw _ (List.mem_of_getElem? (i := 90) rfl))) (Via.of (hw _ (List.mem_of_getElem? (i := 91) rfl))) e0 F_modCount_a1 (g := (mkF m 2 #[rv a1, rv a2] [(.ref a1), (.ref a1)])) rfl rfl (hb hby d12_2)
  refine own_by st39 ?_
  show own_Fin _ _ _ _ (T39.setTop (mkF m 5 #[rv a1, rv a2] [(.int mc), (.ref a1)]))
  refine own_go (XS.iconst X39.here hx rfl (hb hby d12_5) (Steps.refl _)) ?_
  show own_Fin _ _ _ _ (T39.setTop (mkF m 6 #[rv a1, rv a2] [(.int (1 : Int32)), (.int mc), (.ref a1)]))
  refine own_go (XS.iadd X39.here hx rfl (hb hby d12_6) rfl (Steps.refl _)) ?_
  show own_Fin _ _ _ _ (T39.setTop (mkF m 7 #[rv a1, rv a2] [(.int (mc + (1 : Int32))), (.ref a1)]))
  obtain ⟨T40, h40, X40, e40, W40, st40⟩ := putF X39 hx hZ hown (host := "") (Or.inl (hw _ (List.mem_of_getElem? (i := 90) rfl))) (Via.of (hw _ (List.mem_of_getElem? (i := 91) rfl))) e39 F_modCount_a1 E_a1 (Or.inl (hw _ (List.mem_of_getElem? (i := 22) rfl))) (hw _ (List.mem_of_getElem? (i := 1) rfl)) (ty := .int) (by decide) rfl rfl (g := (mkF m 7 #[rv a1, rv a2] [(.int (mc + (1 : Int32))), (.ref a1)])) rfl rfl (hb hby d12_7)
  refine own_by st40 ?_
  have F_modCount_a1_40 := F_modCount_a1.same W40
  have E_a1_40 := E_a1.wr W40
  have F_elementData_a1_40 := F_elementData_a1.other W40 (Or.inr (slot_ne (Or.inl (hw _ (List.mem_of_getElem? (i := 25) rfl))) (Or.inl (hw _ (List.mem_of_getElem? (i := 22) rfl))) (by decide) (t := (.array (.object "java/lang/Object"))) (t' := .int) (by decide) (by decide)))
  have F_size_a1_40 := F_size_a1.other W40 (Or.inr (slot_ne (Or.inl (hw _ (List.mem_of_getElem? (i := 43) rfl))) (Or.inl (hw _ (List.mem_of_getElem? (i := 22) rfl))) (by decide) (t := .int) (t' := .int) (by decide) (by decide)))
  have V_b3_40 := V_b3.other W40 (Ne.symm ne13)
  have E_a2_40 := E_a2.wr W40
  have N40 := Fr.snoc X40 N0 g_a1
  have Z40 : n0 ≤ h40.size := Nat.le_trans Z0 (Keep.of_wr W40).1
  have K40 := Kz.wr W40 (Or.inl (List.mem_of_getElem? (i := 0) rfl))
  show own_Fin _ _ _ _ (T40.setTop (mkF m 10 #[rv a1, rv a2] []))
  refine own_go (XS.aloadN X40.here hx rfl (hb hby d12_10) rfl rfl (Steps.refl _)) ?_
  show own_Fin _ _ _ _ (T40.setTop (mkF m 11 #[rv a1, rv a2] [(.ref a1)]))
  refine own_go (XS.aloadN X40.here hx rfl (hb hby d12_11) rfl rfl (Steps.refl _)) ?_
  show own_Fin _ _ _ _ (T40.setTop (mkF m 12 #[rv a1, rv a2] [(.ref a2), (.ref a1)]))
  refine own_go (XS.aloadN X40.here hx rfl (hb hby d12_12) rfl rfl (Steps.refl _)) ?_
  show own_Fin _ _ _ _ (T40.setTop (mkF m 13 #[rv a1, rv a2] [(.ref a1), (.ref a2), (.ref a1)]))
  obtain ⟨T41, X41, e41, st41⟩ := getF X40 hx hZ hown (host := "") (Or.inl (hw _ (List.mem_of_getElem? (i := 24) rfl))) Via.refl e40 F_elementData_a1_40 (g := (mkF m 13 #[rv a1, rv a2] [(.ref a1), (.ref a2), (.ref a1)])) rfl rfl (hb hby d12_13)
  refine own_by st41 ?_
  show own_Fin _ _ _ _ (T41.setTop (mkF m 16 #[rv a1, rv a2] [(.ref b3), (.ref a2), (.ref a1)]))
  refine own_go (XS.aloadN X41.here hx rfl (hb hby d12_16) rfl rfl (Steps.refl _)) ?_
  show own_Fin _ _ _ _ (T41.setTop (mkF m 17 #[rv a1, rv a2] [(.ref a1), (.ref b3), (.ref a2), (.ref a1)]))
  obtain ⟨T42, X42, e42, st42⟩ := getF X41 hx hZ hown (host := "") (Or.inl (hw _ (List.mem_of_getElem? (i := 42) rfl))) Via.refl e41 F_size_a1_40 (g := (mkF m 17 #[rv a1, rv a2] [(.ref a1), (.ref b3), (.ref a2), (.ref a1)])) rfl rfl (hb hby d12_17)
  refine own_by st42 ?_
  show own_Fin _ _ _ _ (T42.setTop (mkF m 20 #[rv a1, rv a2] [(.int (1 : Int32)), (.ref b3), (.ref a2), (.ref a1)]))
  obtain ⟨cq43, q43, q43'⟩ := E_a1_40.cell
  obtain ⟨_, _, ⟨T43, L43, k43, n43⟩, -, X43, ⟨Lc43, hQ43, l43, y43, z43⟩, st43⟩ := X42.privateBack hx (y := (⟨"java/util/ArrayList", "add", "(Ljava/lang/Object;[Ljava/lang/Object;I)V"⟩ : MethodName)) hown (mvT hZ (hw _ (List.mem_of_getElem? (i := 92) rfl))) (mvT hZ (hw _ (List.mem_of_getElem? (i := 93) rfl))) (mvT hZ (hw _ (List.mem_of_getElem? (i := 95) rfl))) (Cond.privateMethod_at (mvP hZ (hw _ (List.mem_of_getElem? (i := 94) rfl)) (args := #[]))) (mvT hZ (hw _ (List.mem_of_getElem? (i := 96) rfl))) (by decide) (backOf (W := 0) (rmad3_1 l Z a0 hw [] a1 a2 b3 k3 (mc + (1 : Int32)) s0 h40 n0 Z40 E_a1_40 F_modCount_a1_40 F_elementData_a1_40 F_size_a1_40 V_b3_40 ov E_a2_40 g_a1 g_b3 ne13) hZ (hw _ (List.mem_of_getElem? (i := 96) rfl)) (hw _ (List.mem_of_getElem? (i := 2) rfl)) (by decide) (by decide)) (g := (mkF m 20 #[rv a1, rv a2] [(.int (1 : Int32)), (.ref b3), (.ref a2), (.ref a1)])) rfl (by rw [hml]; rfl) (Steps.refl _) (a := a1) (by rw [e42]; exact q43) q43' (argsL := [(.ref a2), (.ref b3), (.int (1 : Int32))]) (rest := []) (lenOf pd__28_Ljava_2f_lang_2f_Object_3b__5b_Ljava_2f_lang_2f_Object_3b_I_29_V rfl) rfl (by show 2 * 0 + _ ≤ _; exact Nat.le_of_eq rfl) (hb hby d12_20) (fun _ _ => ⟨rfl, e42, (by decide : 0 + 0 ≤ _), (by decide : 0 + 0 ≤ _)⟩)
  dsimp only [Pt.U, Pt.locs, Pt.cells, Pt.slots] at X43 l43 y43 z43 st43 hQ43
  subst l43 y43 z43
  refine own_go st43 ?_
  obtain ⟨rfl, Nq43, K43, r43_0, r43_1, r43_2, r43_3, r43_4⟩ := hQ43
  have E_a1_43 := E_a1_40.keep K43
  have E_a2_43 := E_a2_40.keep K43
  have Z43 : n0 ≤ T43.heap.size := Nat.le_trans Z40 K43.1
  have Kt43 := K40.trans K43 (allS (P := fun x => x ∈ _ ∨ _ ≤ x) (Or.inl (List.mem_of_getElem? (i := 0) rfl)) (allS (P := fun x => x ∈ _ ∨ _ ≤ x) (Or.inl (List.mem_of_getElem? (i := 1) rfl)) all0))
  have N43 := Fr.app N40 Nq43
  show own_Fin _ _ _ _ (T43.setTop (mkF m 23 #[rv a1, rv a2] []))
  refine own_go (XS.iconst X43.here hx rfl (hb hby d12_23) (Steps.refl _)) ?_
  show own_Fin _ _ _ _ (T43.setTop (mkF m 24 #[rv a1, rv a2] [(.int (1 : Int32))]))
  obtain ⟨fs44, hr44, hrun44, hended44, hW44, hsame44⟩ := X43.leave (v := some (.int (1 : Int32))) (fun h => by rw [Bd.returns] at h; cases h)
  refine own_done (retN X43 hx (t := .boolean) Bd.returns (by simp) (hb hby d12_24) hr44) hrun44 hended44 ⟨_, _, rfl, ?_, ⟨_, rfl⟩, hW44, hsame44.mono (by decide) (by decide)⟩
  show Qadd_1 Z a1 a2 b3 k3 mc s0 h0 n0 _ T43.heap _
  exact ⟨rfl, N43, Kt43, r43_0, r43_1, r43_2, r43_3, r43_4⟩
theorem ef_ad3_2 (m : MethodId) (x0 : Addr) (x1 : Addr) (x2 : Addr) (x3 : Int32) : entryFrame m #[(.ref x0), (.ref x1), (.ref x2), (.int x3)] 4 = mkF m 0 #[.val (.ref x0), .val (.ref x1), .val (.ref x2), .val (.int x3)] [] := by first | (simp [entryFrame, mkF, argsToLocals, Value.category]; done) | rfl
def Qad3_2 (Z : State) (a1 : Addr) (a2 : Addr) (b3 : Addr) (k3 : ClassId) (mc : Int32) (s0 : Addr) (s1 : Addr) (h0 : Heap) (n0 : Nat) (v : Option Value) (h : Heap) (L : List Loc) : Prop := v = none ∧ Fr n0 L ∧ Keep h0 h [a1, b3] ∧ Exa Z h a1 "java/util/ArrayList" ∧ Fld Z h a1 "java/util/AbstractList" "modCount" "I" (.int mc) ∧ Fld Z h a1 "java/util/ArrayList" "elementData" "[Ljava/lang/Object;" (.ref b3) ∧ Fld Z h a1 "java/util/ArrayList" "size" "I" (.int (3 : Int32)) ∧ Arv Z h b3 k3 (.object "java/lang/Object") (10 : Int32) [(.ref s0), (.ref s1), (.ref a2), .null, .null, .null, .null, .null, .null, .null] .null
abbrev Gad3_2 (Z : State) (a1 : Addr) (a2 : Addr) (b3 : Addr) (k3 : ClassId) (mc : Int32) (s0 : Addr) (s1 : Addr) (h0 : Heap) (n0 : Nat) (s : State) : Outcome → State → Prop := fun o U' => ∃ v L, o = .returned v ∧ Qad3_2 Z a1 a2 b3 k3 mc s0 s1 h0 n0 v U'.heap L ∧ FrameEnd s o U' L ({ frames := 0, cells := 0, slots := 0, locals := 0 } : Room).cells ({ frames := 0, cells := 0, slots := 0, locals := 0 } : Room).slots
set_option maxRecDepth 65536 in
set_option maxHeartbeats 40000000 in
theorem rmad3_2 (l : Launch) (Z : State) (a0 : Array Value) (hw : ∀ d ∈ tables_1, d.before a0 Z = true) (ws : List Jvm.Cond) (a1 : Addr) (a2 : Addr) (b3 : Addr) (k3 : ClassId) (mc : Int32) (s0 : Addr) (s1 : Addr) (h0 : Heap) (n0 : Nat) (Z0 : n0 ≤ h0.size) (E_a1 : Exa Z h0 a1 "java/util/ArrayList") (F_modCount_a1 : Fld Z h0 a1 "java/util/AbstractList" "modCount" "I" (.int mc)) (F_elementData_a1 : Fld Z h0 a1 "java/util/ArrayList" "elementData" "[Ljava/lang/Object;" (.ref b3)) (F_size_a1 : Fld Z h0 a1 "java/util/ArrayList" "size" "I" (.int (2 : Int32))) (V_b3 : Arv Z h0 b3 k3 (.object "java/lang/Object") (10 : Int32) [(.ref s0), (.ref s1), .null, .null, .null, .null, .null, .null, .null, .null] .null) (ov : Ovr Z k3 "java/lang/Object") (E_a2 : Exa Z h0 a2 "java/lang/String") (g_a1 : n0 ≤ a1) (g_b3 : n0 ≤ b3) (ne13 : a1 ≠ b3) :
    MetFree l (⟨"java/util/ArrayList", "add", "(Ljava/lang/Object;[Ljava/lang/Object;I)V"⟩ : MethodName) (head1 (Jvm.Cond.code (⟨"java/util/ArrayList", "add", "(Ljava/lang/Object;[Ljava/lang/Object;I)V"⟩ : MethodName) jdk_38_method_24_code 4 none :: ws) ({ frames := 0, cells := 0, slots := 0, locals := 0 } : Room)) (fun a U => a = #[(.ref a1), (.ref a2), (.ref b3), (.int (2 : Int32))] ∧ Z.Warmed39 U.vm ∧ U.heap = h0) (fun _ _ _ _ _ => True) (fun _ U o U' => ∃ v L, o = .returned v ∧ Qad3_2 Z a1 a2 b3 k3 mc s0 s1 h0 n0 v U'.heap L ∧ FrameEnd U o U' L ({ frames := 0, cells := 0, slots := 0, locals := 0 } : Room).cells ({ frames := 0, cells := 0, slots := 0, locals := 0 } : Room).slots) := by
  refine MetFree.of_bodySF (plainFor_of_name pn_java_util_ArrayList) hisR ?_
  intro p e s m args below meth c s₁ Bd hml0 hP hK
  obtain ⟨rfl, hZ, hh⟩ := hP
  have hx := Bd.exec
  have hby := Bd.bytes
  have hml : c.maxLocals = 4 := hml0
  have hown : s.vm.findClass "java/util/ArrayList" = some m.cls := findClass_of_methodNamed Bd.named
  have hnm := (name_of_methodNamed Bd.named Bd.method).1
  have X0 : Stand p l e ({ frames := 0, cells := 0, slots := 0, locals := 0 } : Room) s m #[(.ref a1), (.ref a2), (.ref b3), (.int (2 : Int32))] below meth c s₁ [] 0 0 := Stand.of_body Bd
  have e0 : s₁.heap = h0 := by rw [← hh, Bd.state]; rfl
  have es0 : s.heap = h0 := hh
  have N0 := Fr.nil n0
  show own_Fin p e below (Gad3_2 Z a1 a2 b3 k3 mc s0 s1 h0 n0 s) (s₁.setTop (entryFrame m #[(.ref a1), (.ref a2), (.ref b3), (.int (2 : Int32))] 4))
  rw [ef_ad3_2 m a1 a2 b3 (2 : Int32)]
  have Kz := Keep.refl h0 [a1, b3]
  refine own_go (XS.iloadN X0.here hx rfl (hb hby d13_0) rfl (Steps.refl _)) ?_
  show own_Fin _ _ _ _ (s₁.setTop (mkF m 1 #[rv a1, rv a2, rv b3, iv (2 : Int32)] [(.int (2 : Int32))]))
  refine own_go (XS.aloadN X0.here hx rfl (hb hby d13_1) rfl rfl (Steps.refl _)) ?_
  show own_Fin _ _ _ _ (s₁.setTop (mkF m 2 #[rv a1, rv a2, rv b3, iv (2 : Int32)] [(.ref b3), (.int (2 : Int32))]))
  obtain ⟨cl45, Ar45, qa45, Sa45, Na45, Ha45, Ga45⟩ := id V_b3
  refine own_by (X0.arraylength hx (by rw [e0]; exact Ar45.1) (State.isArrayOf_alike hZ.alike Ar45.2.1) (g := (mkF m 2 #[rv a1, rv a2, rv b3, iv (2 : Int32)] [(.ref b3), (.int (2 : Int32))])) rfl rfl (hb hby d13_2)) ?_
  rw [len_of Sa45 Na45]
  show own_Fin _ _ _ _ (s₁.setTop (mkF m 3 #[rv a1, rv a2, rv b3, iv (2 : Int32)] [(.int (10 : Int32)), (.int (2 : Int32))]))
  refine own_go (XS.icmpYes X0.here hx rfl (pc0 := 3) (pc' := 11) rfl (hb hby d13_3) rfl (feq (by decide : ¬ ((2 : Int32) = (10 : Int32)))).2 (by decide) (by decide) (Steps.refl _)) ?_
  show own_Fin _ _ _ _ (s₁.setTop (mkF m 11 #[rv a1, rv a2, rv b3, iv (2 : Int32)] []))
  refine own_go (XS.aloadN X0.here hx rfl (hb hby d13_11) rfl rfl (Steps.refl _)) ?_
  show own_Fin _ _ _ _ (s₁.setTop (mkF m 12 #[rv a1, rv a2, rv b3, iv (2 : Int32)] [(.ref b3)]))
  refine own_go (XS.iloadN X0.here hx rfl (hb hby d13_12) rfl (Steps.refl _)) ?_
  show own_Fin _ _ _ _ (s₁.setTop (mkF m 13 #[rv a1, rv a2, rv b3, iv (2 : Int32)] [(.int (2 : Int32)), (.ref b3)]))
  refine own_go (XS.aloadN X0.here hx rfl (hb hby d13_13) rfl rfl (Steps.refl _)) ?_
  show own_Fin _ _ _ _ (s₁.setTop (mkF m 14 #[rv a1, rv a2, rv b3, iv (2 : Int32)] [(.ref a2), (.int (2 : Int32)), (.ref b3)]))
  obtain ⟨cl46, Ar46, qa46, Sa46, Na46, Ha46, Ga46⟩ := id V_b3
  have hin46 : ¬ ((2 : Int32) < 0 ∨ cl46.slots.size ≤ ((2 : Int32)).toNatClampNeg) := inb_of Sa46 ⟨by decide, by decide⟩
  obtain ⟨T47, h47, X47, e47, W47, st47⟩ := stR X0 hx hZ e0 Ar46 (j := (2 : Int32)) hin46 rfl (Sto.ofV Ar46 qa46 ov (Ins.of_exa E_a2 (hw _ (List.mem_of_getElem? (i := 113) rfl)))) (g := (mkF m 14 #[rv a1, rv a2, rv b3, iv (2 : Int32)] [(.ref a2), (.int (2 : Int32)), (.ref b3)])) rfl rfl (hb hby d13_14)
  refine own_by st47 ?_
  have V_b3_47 : Arv Z h47 b3 k3 (.object "java/lang/Object") (10 : Int32) [(.ref s0), (.ref s1), (.ref a2), .null, .null, .null, .null, .null, .null, .null] .null := Arv.set Ar46 qa46 Sa46 Na46 Ha46 Ga46 rfl W47 2 rfl (Nat.le_of_ble_eq_true rfl)
  have E_a1_47 := E_a1.wr W47
  have F_modCount_a1_47 := F_modCount_a1.other W47 (Or.inl ne13)
  have F_elementData_a1_47 := F_elementData_a1.other W47 (Or.inl ne13)
  have F_size_a1_47 := F_size_a1.other W47 (Or.inl ne13)
  have E_a2_47 := E_a2.wr W47
  have N47 := Fr.snoc X47 N0 g_b3
  have Z47 : n0 ≤ h47.size := Nat.le_trans Z0 (Keep.of_wr W47).1
  have K47 := Kz.wr W47 (Or.inl (List.mem_of_getElem? (i := 1) rfl))
  show own_Fin _ _ _ _ (T47.setTop (mkF m 15 #[rv a1, rv a2, rv b3, iv (2 : Int32)] []))
  refine own_go (XS.aloadN X47.here hx rfl (hb hby d13_15) rfl rfl (Steps.refl _)) ?_
  show own_Fin _ _ _ _ (T47.setTop (mkF m 16 #[rv a1, rv a2, rv b3, iv (2 : Int32)] [(.ref a1)]))
  refine own_go (XS.iloadN X47.here hx rfl (hb hby d13_16) rfl (Steps.refl _)) ?_
  show own_Fin _ _ _ _ (T47.setTop (mkF m 17 #[rv a1, rv a2, rv b3, iv (2 : Int32)] [(.int (2 : Int32)), (.ref a1)]))
  refine own_go (XS.iconst X47.here hx rfl (hb hby d13_17) (Steps.refl _)) ?_
  show own_Fin _ _ _ _ (T47.setTop (mkF m 18 #[rv a1, rv a2, rv b3, iv (2 : Int32)] [(.int (1 : Int32)), (.int (2 : Int32)), (.ref a1)]))
  refine own_go (XS.iadd X47.here hx rfl (hb hby d13_18) rfl (Steps.refl _)) ?_
  show own_Fin _ _ _ _ (T47.setTop (mkF m 19 #[rv a1, rv a2, rv b3, iv (2 : Int32)] [(.int (3 : Int32)), (.ref a1)]))
  obtain ⟨T48, h48, X48, e48, W48, st48⟩ := putF X47 hx hZ hown (host := "") (Or.inl (hw _ (List.mem_of_getElem? (i := 42) rfl))) Via.refl e47 F_size_a1_47 E_a1_47 (Or.inl (hw _ (List.mem_of_getElem? (i := 43) rfl))) (hw _ (List.mem_of_getElem? (i := 1) rfl)) (ty := .int) (by decide) rfl rfl (g := (mkF m 19 #[rv a1, rv a2, rv b3, iv (2 : Int32)] [(.int (3 : Int32)), (.ref a1)])) rfl rfl (hb hby d13_19)
  refine own_by st48 ?_
  have F_size_a1_48 := F_size_a1_47.same W48
  have E_a1_48 := E_a1_47.wr W48
  have F_modCount_a1_48 := F_modCount_a1_47.other W48 (Or.inr (slot_ne (Or.inl (hw _ (List.mem_of_getElem? (i := 22) rfl))) (Or.inl (hw _ (List.mem_of_getElem? (i := 43) rfl))) (by decide) (t := .int) (t' := .int) (by decide) (by decide)))
  have F_elementData_a1_48 := F_elementData_a1_47.other W48 (Or.inr (slot_ne (Or.inl (hw _ (List.mem_of_getElem? (i := 25) rfl))) (Or.inl (hw _ (List.mem_of_getElem? (i := 43) rfl))) (by decide) (t := (.array (.object "java/lang/Object"))) (t' := .int) (by decide) (by decide)))
  have V_b3_48 := V_b3_47.other W48 (Ne.symm ne13)
  have E_a2_48 := E_a2_47.wr W48
  have N48 := Fr.snoc X48 N47 g_a1
  have Z48 : n0 ≤ h48.size := Nat.le_trans Z47 (Keep.of_wr W48).1
  have K48 := K47.wr W48 (Or.inl (List.mem_of_getElem? (i := 0) rfl))
  show own_Fin _ _ _ _ (T48.setTop (mkF m 22 #[rv a1, rv a2, rv b3, iv (2 : Int32)] []))
  obtain ⟨fs49, hr49, hrun49, hended49, hW49, hsame49⟩ := X48.leave (v := none) (fun _ => rfl)
  refine own_done (X48.returnOut hx Bd.returns (hb hby d13_22) hr49) hrun49 hended49 ⟨_, _, rfl, ?_, ⟨_, rfl⟩, hW49, hsame49.mono (by decide) (by decide)⟩
  show Qad3_2 Z a1 a2 b3 k3 mc s0 s1 h0 n0 _ T48.heap _
  rw [e48]
  exact ⟨rfl, N48, K48, E_a1_48, F_modCount_a1_48, F_elementData_a1_48, F_size_a1_48, V_b3_48⟩
theorem ef_add_2 (m : MethodId) (x0 : Addr) (x1 : Addr) : entryFrame m #[(.ref x0), (.ref x1)] 2 = mkF m 0 #[.val (.ref x0), .val (.ref x1)] [] := by first | (simp [entryFrame, mkF, argsToLocals, Value.category]; done) | rfl
def Qadd_2 (Z : State) (a1 : Addr) (a2 : Addr) (b3 : Addr) (k3 : ClassId) (mc : Int32) (s0 : Addr) (s1 : Addr) (h0 : Heap) (n0 : Nat) (v : Option Value) (h : Heap) (L : List Loc) : Prop := v = some (.int (1 : Int32)) ∧ Fr n0 L ∧ Keep h0 h [a1, b3] ∧ Exa Z h a1 "java/util/ArrayList" ∧ Fld Z h a1 "java/util/AbstractList" "modCount" "I" (.int (mc + (1 : Int32))) ∧ Fld Z h a1 "java/util/ArrayList" "elementData" "[Ljava/lang/Object;" (.ref b3) ∧ Fld Z h a1 "java/util/ArrayList" "size" "I" (.int (3 : Int32)) ∧ Arv Z h b3 k3 (.object "java/lang/Object") (10 : Int32) [(.ref s0), (.ref s1), (.ref a2), .null, .null, .null, .null, .null, .null, .null] .null
abbrev Gadd_2 (Z : State) (a1 : Addr) (a2 : Addr) (b3 : Addr) (k3 : ClassId) (mc : Int32) (s0 : Addr) (s1 : Addr) (h0 : Heap) (n0 : Nat) (s : State) : Outcome → State → Prop := fun o U' => ∃ v L, o = .returned v ∧ Qadd_2 Z a1 a2 b3 k3 mc s0 s1 h0 n0 v U'.heap L ∧ FrameEnd s o U' L ({ frames := 1, cells := 0, slots := 0, locals := 20 } : Room).cells ({ frames := 1, cells := 0, slots := 0, locals := 20 } : Room).slots
set_option maxRecDepth 65536 in
set_option maxHeartbeats 40000000 in
theorem rmadd_2 (l : Launch) (Z : State) (a0 : Array Value) (hw : ∀ d ∈ tables_1, d.before a0 Z = true) (ws : List Jvm.Cond) (a1 : Addr) (a2 : Addr) (b3 : Addr) (k3 : ClassId) (mc : Int32) (s0 : Addr) (s1 : Addr) (h0 : Heap) (n0 : Nat) (Z0 : n0 ≤ h0.size) (E_a1 : Exa Z h0 a1 "java/util/ArrayList") (F_modCount_a1 : Fld Z h0 a1 "java/util/AbstractList" "modCount" "I" (.int mc)) (F_elementData_a1 : Fld Z h0 a1 "java/util/ArrayList" "elementData" "[Ljava/lang/Object;" (.ref b3)) (F_size_a1 : Fld Z h0 a1 "java/util/ArrayList" "size" "I" (.int (2 : Int32))) (V_b3 : Arv Z h0 b3 k3 (.object "java/lang/Object") (10 : Int32) [(.ref s0), (.ref s1), .null, .null, .null, .null, .null, .null, .null, .null] .null) (ov : Ovr Z k3 "java/lang/Object") (E_a2 : Exa Z h0 a2 "java/lang/String") (g_a1 : n0 ≤ a1) (g_b3 : n0 ≤ b3) (ne13 : a1 ≠ b3) :
    MetFree l (⟨"java/util/ArrayList", "add", "(Ljava/lang/Object;)Z"⟩ : MethodName) (head1 (Jvm.Cond.code (⟨"java/util/ArrayList", "add", "(Ljava/lang/Object;)Z"⟩ : MethodName) jdk_38_method_25_code 2 (some .boolean) :: ws) ({ frames := 1, cells := 0, slots := 0, locals := 20 } : Room)) (fun a U => a = #[(.ref a1), (.ref a2)] ∧ Z.Warmed39 U.vm ∧ U.heap = h0) (fun _ _ _ _ _ => True) (fun _ U o U' => ∃ v L, o = .returned v ∧ Qadd_2 Z a1 a2 b3 k3 mc s0 s1 h0 n0 v U'.heap L ∧ FrameEnd U o U' L ({ frames := 1, cells := 0, slots := 0, locals := 20 } : Room).cells ({ frames := 1, cells := 0, slots := 0, locals := 20 } : Room).slots) := by
  refine MetFree.of_bodySF (plainFor_of_name pn_java_util_ArrayList) hisR ?_
  intro p e s m args below meth c s₁ Bd hml0 hP hK
  obtain ⟨rfl, hZ, hh⟩ := hP
  have hx := Bd.exec
  have hby := Bd.bytes
  have hml : c.maxLocals = 2 := hml0
  have hown : s.vm.findClass "java/util/ArrayList" = some m.cls := findClass_of_methodNamed Bd.named
  have hnm := (name_of_methodNamed Bd.named Bd.method).1
  have X0 : Stand p l e ({ frames := 1, cells := 0, slots := 0, locals := 20 } : Room) s m #[(.ref a1), (.ref a2)] below meth c s₁ [] 0 0 := Stand.of_body Bd
  have e0 : s₁.heap = h0 := by rw [← hh, Bd.state]; rfl
  have es0 : s.heap = h0 := hh
  have N0 := Fr.nil n0
  show own_Fin p e below (Gadd_2 Z a1 a2 b3 k3 mc s0 s1 h0 n0 s) (s₁.setTop (entryFrame m #[(.ref a1), (.ref a2)] 2))
  rw [ef_add_2 m a1 a2]
  have Kz := Keep.refl h0 [a1, b3]
  refine own_go (XS.aloadN X0.here hx rfl (hb hby d12_0) rfl rfl (Steps.refl _)) ?_
  show own_Fin _ _ _ _ (s₁.setTop (mkF m 1 #[rv a1, rv a2] [(.ref a1)]))
  refine own_go (XS.dup X0.here hx rfl (hb hby d12_1) rfl rfl (Steps.refl _)) ?_
  show own_Fin _ _ _ _ (s₁.setTop (mkF m 2 #[rv a1, rv a2] [(.ref a1), (.ref a1)]))
  obtain ⟨T50, X50, e50, st50⟩ := getF X0 hx hZ hown (host := "") (Or.inl (hw _ (List.mem_of_getElem? (i := 90) rfl))) (Via.of (hw _ (List.mem_of_getElem? (i := 91) rfl))) e0 F_modCount_a1 (g := (mkF m 2 #[rv a1, rv a2] [(.ref a1), (.ref a1)])) rfl rfl (hb hby d12_2)
  refine own_by st50 ?_
  show own_Fin _ _ _ _ (T50.setTop (mkF m 5 #[rv a1, rv a2] [(.int mc), (.ref a1)]))
  refine own_go (XS.iconst X50.here hx rfl (hb hby d12_5) (Steps.refl _)) ?_
  show own_Fin _ _ _ _ (T50.setTop (mkF m 6 #[rv a1, rv a2] [(.int (1 : Int32)), (.int mc), (.ref a1)]))
  refine own_go (XS.iadd X50.here hx rfl (hb hby d12_6) rfl (Steps.refl _)) ?_
  show own_Fin _ _ _ _ (T50.setTop (mkF m 7 #[rv a1, rv a2] [(.int (mc + (1 : Int32))), (.ref a1)]))
  obtain ⟨T51, h51, X51, e51, W51, st51⟩ := putF X50 hx hZ hown (host := "") (Or.inl (hw _ (List.mem_of_getElem? (i := 90) rfl))) (Via.of (hw _ (List.mem_of_getElem? (i := 91) rfl))) e50 F_modCount_a1 E_a1 (Or.inl (hw _ (List.mem_of_getElem? (i := 22) rfl))) (hw _ (List.mem_of_getElem? (i := 1) rfl)) (ty := .int) (by decide) rfl rfl (g := (mkF m 7 #[rv a1, rv a2] [(.int (mc + (1 : Int32))), (.ref a1)])) rfl rfl (hb hby d12_7)
  refine own_by st51 ?_
  have F_modCount_a1_51 := F_modCount_a1.same W51
  have E_a1_51 := E_a1.wr W51
  have F_elementData_a1_51 := F_elementData_a1.other W51 (Or.inr (slot_ne (Or.inl (hw _ (List.mem_of_getElem? (i := 25) rfl))) (Or.inl (hw _ (List.mem_of_getElem? (i := 22) rfl))) (by decide) (t := (.array (.object "java/lang/Object"))) (t' := .int) (by decide) (by decide)))
  have F_size_a1_51 := F_size_a1.other W51 (Or.inr (slot_ne (Or.inl (hw _ (List.mem_of_getElem? (i := 43) rfl))) (Or.inl (hw _ (List.mem_of_getElem? (i := 22) rfl))) (by decide) (t := .int) (t' := .int) (by decide) (by decide)))
  have V_b3_51 := V_b3.other W51 (Ne.symm ne13)
  have E_a2_51 := E_a2.wr W51
  have N51 := Fr.snoc X51 N0 g_a1
  have Z51 : n0 ≤ h51.size := Nat.le_trans Z0 (Keep.of_wr W51).1
  have K51 := Kz.wr W51 (Or.inl (List.mem_of_getElem? (i := 0) rfl))
  show own_Fin _ _ _ _ (T51.setTop (mkF m 10 #[rv a1, rv a2] []))
  refine own_go (XS.aloadN X51.here hx rfl (hb hby d12_10) rfl rfl (Steps.refl _)) ?_
  show own_Fin _ _ _ _ (T51.setTop (mkF m 11 #[rv a1, rv a2] [(.ref a1)]))
  refine own_go (XS.aloadN X51.here hx rfl (hb hby d12_11) rfl rfl (Steps.refl _)) ?_
  show own_Fin _ _ _ _ (T51.setTop (mkF m 12 #[rv a1, rv a2] [(.ref a2), (.ref a1)]))
  refine own_go (XS.aloadN X51.here hx rfl (hb hby d12_12) rfl rfl (Steps.refl _)) ?_
  show own_Fin _ _ _ _ (T51.setTop (mkF m 13 #[rv a1, rv a2] [(.ref a1), (.ref a2), (.ref a1)]))
  obtain ⟨T52, X52, e52, st52⟩ := getF X51 hx hZ hown (host := "") (Or.inl (hw _ (List.mem_of_getElem? (i := 24) rfl))) Via.refl e51 F_elementData_a1_51 (g := (mkF m 13 #[rv a1, rv a2] [(.ref a1), (.ref a2), (.ref a1)])) rfl rfl (hb hby d12_13)
  refine own_by st52 ?_
  show own_Fin _ _ _ _ (T52.setTop (mkF m 16 #[rv a1, rv a2] [(.ref b3), (.ref a2), (.ref a1)]))
  refine own_go (XS.aloadN X52.here hx rfl (hb hby d12_16) rfl rfl (Steps.refl _)) ?_
  show own_Fin _ _ _ _ (T52.setTop (mkF m 17 #[rv a1, rv a2] [(.ref a1), (.ref b3), (.ref a2), (.ref a1)]))
  obtain ⟨T53, X53, e53, st53⟩ := getF X52 hx hZ hown (host := "") (Or.inl (hw _ (List.mem_of_getElem? (i := 42) rfl))) Via.refl e52 F_size_a1_51 (g := (mkF m 17 #[rv a1, rv a2] [(.ref a1), (.ref b3), (.ref a2), (.ref a1)])) rfl rfl (hb hby d12_17)
  refine own_by st53 ?_
  show own_Fin _ _ _ _ (T53.setTop (mkF m 20 #[rv a1, rv a2] [(.int (2 : Int32)), (.ref b3), (.ref a2), (.ref a1)]))
  obtain ⟨cq54, q54, q54'⟩ := E_a1_51.cell
  obtain ⟨_, _, ⟨T54, L54, k54, n54⟩, -, X54, ⟨Lc54, hQ54, l54, y54, z54⟩, st54⟩ := X53.privateBack hx (y := (⟨"java/util/ArrayList", "add", "(Ljava/lang/Object;[Ljava/lang/Object;I)V"⟩ : MethodName)) hown (mvT hZ (hw _ (List.mem_of_getElem? (i := 92) rfl))) (mvT hZ (hw _ (List.mem_of_getElem? (i := 93) rfl))) (mvT hZ (hw _ (List.mem_of_getElem? (i := 95) rfl))) (Cond.privateMethod_at (mvP hZ (hw _ (List.mem_of_getElem? (i := 94) rfl)) (args := #[]))) (mvT hZ (hw _ (List.mem_of_getElem? (i := 96) rfl))) (by decide) (backOf (W := 0) (rmad3_2 l Z a0 hw [] a1 a2 b3 k3 (mc + (1 : Int32)) s0 s1 h51 n0 Z51 E_a1_51 F_modCount_a1_51 F_elementData_a1_51 F_size_a1_51 V_b3_51 ov E_a2_51 g_a1 g_b3 ne13) hZ (hw _ (List.mem_of_getElem? (i := 96) rfl)) (hw _ (List.mem_of_getElem? (i := 2) rfl)) (by decide) (by decide)) (g := (mkF m 20 #[rv a1, rv a2] [(.int (2 : Int32)), (.ref b3), (.ref a2), (.ref a1)])) rfl (by rw [hml]; rfl) (Steps.refl _) (a := a1) (by rw [e53]; exact q54) q54' (argsL := [(.ref a2), (.ref b3), (.int (2 : Int32))]) (rest := []) (lenOf pd__28_Ljava_2f_lang_2f_Object_3b__5b_Ljava_2f_lang_2f_Object_3b_I_29_V rfl) rfl (by show 2 * 0 + _ ≤ _; exact Nat.le_of_eq rfl) (hb hby d12_20) (fun _ _ => ⟨rfl, e53, (by decide : 0 + 0 ≤ _), (by decide : 0 + 0 ≤ _)⟩)
  dsimp only [Pt.U, Pt.locs, Pt.cells, Pt.slots] at X54 l54 y54 z54 st54 hQ54
  subst l54 y54 z54
  refine own_go st54 ?_
  obtain ⟨rfl, Nq54, K54, r54_0, r54_1, r54_2, r54_3, r54_4⟩ := hQ54
  have E_a1_54 := E_a1_51.keep K54
  have E_a2_54 := E_a2_51.keep K54
  have Z54 : n0 ≤ T54.heap.size := Nat.le_trans Z51 K54.1
  have Kt54 := K51.trans K54 (allS (P := fun x => x ∈ _ ∨ _ ≤ x) (Or.inl (List.mem_of_getElem? (i := 0) rfl)) (allS (P := fun x => x ∈ _ ∨ _ ≤ x) (Or.inl (List.mem_of_getElem? (i := 1) rfl)) all0))
  have N54 := Fr.app N51 Nq54
  show own_Fin _ _ _ _ (T54.setTop (mkF m 23 #[rv a1, rv a2] []))
  refine own_go (XS.iconst X54.here hx rfl (hb hby d12_23) (Steps.refl _)) ?_
  show own_Fin _ _ _ _ (T54.setTop (mkF m 24 #[rv a1, rv a2] [(.int (1 : Int32))]))
  obtain ⟨fs55, hr55, hrun55, hended55, hW55, hsame55⟩ := X54.leave (v := some (.int (1 : Int32))) (fun h => by rw [Bd.returns] at h; cases h)
  refine own_done (retN X54 hx (t := .boolean) Bd.returns (by simp) (hb hby d12_24) hr55) hrun55 hended55 ⟨_, _, rfl, ?_, ⟨_, rfl⟩, hW55, hsame55.mono (by decide) (by decide)⟩
  show Qadd_2 Z a1 a2 b3 k3 mc s0 s1 h0 n0 _ T54.heap _
  exact ⟨rfl, N54, Kt54, r54_0, r54_1, r54_2, r54_3, r54_4⟩
theorem d6_0 : decode jdk_38_method_8_code 0 = .ok (.aload_n 0, 1) := by decide +kernel
theorem d6_1 : decode jdk_38_method_8_code 1 = .ok (.getfield 48, 3) := by decide +kernel
theorem d6_4 : decode jdk_38_method_8_code 4 = .ok (.ireturn, 1) := by decide +kernel
theorem ef_size (m : MethodId) (x0 : Addr) : entryFrame m #[(.ref x0)] 1 = mkF m 0 #[.val (.ref x0)] [] := by first | (simp [entryFrame, mkF, argsToLocals, Value.category]; done) | rfl
def Qsize (Z : State) (a1 : Addr) (sz : Int32) (h0 : Heap) (n0 : Nat) (v : Option Value) (h : Heap) (L : List Loc) : Prop := v = some (.int sz) ∧ Fr n0 L ∧ h = h0
abbrev Gsize (Z : State) (a1 : Addr) (sz : Int32) (h0 : Heap) (n0 : Nat) (s : State) : Outcome → State → Prop := fun o U' => ∃ v L, o = .returned v ∧ Qsize Z a1 sz h0 n0 v U'.heap L ∧ FrameEnd s o U' L ({ frames := 0, cells := 0, slots := 0, locals := 0 } : Room).cells ({ frames := 0, cells := 0, slots := 0, locals := 0 } : Room).slots
set_option maxRecDepth 65536 in
set_option maxHeartbeats 40000000 in
theorem rmsize (l : Launch) (Z : State) (a0 : Array Value) (hw : ∀ d ∈ tables_1, d.before a0 Z = true) (ws : List Jvm.Cond) (a1 : Addr) (sz : Int32) (h0 : Heap) (n0 : Nat) (Z0 : n0 ≤ h0.size) (F_size_a1 : Fld Z h0 a1 "java/util/ArrayList" "size" "I" (.int sz)) :
    MetFree l (⟨"java/util/ArrayList", "size", "()I"⟩ : MethodName) (head1 (Jvm.Cond.code (⟨"java/util/ArrayList", "size", "()I"⟩ : MethodName) jdk_38_method_8_code 1 (some .int) :: ws) ({ frames := 0, cells := 0, slots := 0, locals := 0 } : Room)) (fun a U => a = #[(.ref a1)] ∧ Z.Warmed39 U.vm ∧ U.heap = h0) (fun _ _ _ _ _ => True) (fun _ U o U' => ∃ v L, o = .returned v ∧ Qsize Z a1 sz h0 n0 v U'.heap L ∧ FrameEnd U o U' L ({ frames := 0, cells := 0, slots := 0, locals := 0 } : Room).cells ({ frames := 0, cells := 0, slots := 0, locals := 0 } : Room).slots) := by
  refine MetFree.of_bodySF (plainFor_of_name pn_java_util_ArrayList) hisR ?_
  intro p e s m args below meth c s₁ Bd hml0 hP hK
  obtain ⟨rfl, hZ, hh⟩ := hP
  have hx := Bd.exec
  have hby := Bd.bytes
  have hml : c.maxLocals = 1 := hml0
  have hown : s.vm.findClass "java/util/ArrayList" = some m.cls := findClass_of_methodNamed Bd.named
  have hnm := (name_of_methodNamed Bd.named Bd.method).1
  have X0 : Stand p l e ({ frames := 0, cells := 0, slots := 0, locals := 0 } : Room) s m #[(.ref a1)] below meth c s₁ [] 0 0 := Stand.of_body Bd
  have e0 : s₁.heap = h0 := by rw [← hh, Bd.state]; rfl
  have es0 : s.heap = h0 := hh
  have N0 := Fr.nil n0
  show own_Fin p e below (Gsize Z a1 sz h0 n0 s) (s₁.setTop (entryFrame m #[(.ref a1)] 1))
  rw [ef_size m a1]
  refine own_go (XS.aloadN X0.here hx rfl (hb hby d6_0) rfl rfl (Steps.refl _)) ?_
  show own_Fin _ _ _ _ (s₁.setTop (mkF m 1 #[rv a1] [(.ref a1)]))
  obtain ⟨T56, X56, e56, st56⟩ := getF X0 hx hZ hown (host := "") (Or.inl (hw _ (List.mem_of_getElem? (i := 42) rfl))) Via.refl e0 F_size_a1 (g := (mkF m 1 #[rv a1] [(.ref a1)])) rfl rfl (hb hby d6_1)
  refine own_by st56 ?_
  show own_Fin _ _ _ _ (T56.setTop (mkF m 4 #[rv a1] [(.int sz)]))
  obtain ⟨fs57, hr57, hrun57, hended57, hW57, hsame57⟩ := X56.leave (v := some (.int sz)) (fun h => by rw [Bd.returns] at h; cases h)
  refine own_done (own_retI X56 hx Bd.returns (hb hby d6_4) hr57) hrun57 hended57 ⟨_, _, rfl, ?_, ⟨_, rfl⟩, hW57, hsame57.mono (by decide) (by decide)⟩
  show Qsize Z a1 sz h0 n0 _ T56.heap _
  rw [e56]
  exact ⟨rfl, N0, rfl⟩
theorem d19_0 : decode jdk_41_method_11_code 0 = .ok (.iload_n 0, 1) := by decide +kernel
theorem d19_1 : decode jdk_41_method_11_code 1 = .ok (.ifCond .lt 8, 3) := by decide +kernel
theorem d19_4 : decode jdk_41_method_11_code 4 = .ok (.iload_n 0, 1) := by decide +kernel
theorem d19_5 : decode jdk_41_method_11_code 5 = .ok (.iload_n 1, 1) := by decide +kernel
theorem d19_6 : decode jdk_41_method_11_code 6 = .ok (.if_icmp .lt 10, 3) := by decide +kernel
theorem d19_9 : decode jdk_41_method_11_code 9 = .ok (.aload_n 2, 1) := by decide +kernel
theorem d19_10 : decode jdk_41_method_11_code 10 = .ok (.iload_n 0, 1) := by decide +kernel
theorem d19_11 : decode jdk_41_method_11_code 11 = .ok (.iload_n 1, 1) := by decide +kernel
theorem d19_12 : decode jdk_41_method_11_code 12 = .ok (.invokestatic 95, 3) := by decide +kernel
theorem d19_15 : decode jdk_41_method_11_code 15 = .ok (.athrow, 1) := by decide +kernel
theorem d19_16 : decode jdk_41_method_11_code 16 = .ok (.iload_n 0, 1) := by decide +kernel
theorem d19_17 : decode jdk_41_method_11_code 17 = .ok (.ireturn, 1) := by decide +kernel
theorem pn_jdk_internal_util_Preconditions : plainName "jdk/internal/util/Preconditions" = true := by first | (simp [plainName, overriddenIn]; done) | decide +kernel
theorem ef_pre (m : MethodId) (x0 : Int32) (x1 : Int32) : entryFrame m #[(.int x0), (.int x1), .null] 3 = mkF m 0 #[.val (.int x0), .val (.int x1), .val .null] [] := by first | (simp [entryFrame, mkF, argsToLocals, Value.category]; done) | rfl
def Qpre (Z : State) (p1 : Int32) (p2 : Int32) (h0 : Heap) (n0 : Nat) (v : Option Value) (h : Heap) (L : List Loc) : Prop := v = some (.int p1) ∧ Fr n0 L ∧ h = h0
abbrev Gpre (Z : State) (p1 : Int32) (p2 : Int32) (h0 : Heap) (n0 : Nat) (s : State) : Outcome → State → Prop := fun o U' => ∃ v L, o = .returned v ∧ Qpre Z p1 p2 h0 n0 v U'.heap L ∧ FrameEnd s o U' L ({ frames := 0, cells := 0, slots := 0, locals := 0 } : Room).cells ({ frames := 0, cells := 0, slots := 0, locals := 0 } : Room).slots
set_option maxRecDepth 65536 in
set_option maxHeartbeats 40000000 in
theorem rmpre (l : Launch) (Z : State) (a0 : Array Value) (hw : ∀ d ∈ tables_1, d.before a0 Z = true) (ws : List Jvm.Cond) (p1 : Int32) (p2 : Int32) (h0 : Heap) (n0 : Nat) (Z0 : n0 ≤ h0.size) (h1 : ¬ p1 < (0 : Int32)) (h2 : p1 < p2) :
    MetFree l (⟨"jdk/internal/util/Preconditions", "checkIndex", "(IILjava/util/function/BiFunction;)I"⟩ : MethodName) (head1 (Jvm.Cond.code (⟨"jdk/internal/util/Preconditions", "checkIndex", "(IILjava/util/function/BiFunction;)I"⟩ : MethodName) jdk_41_method_11_code 3 (some .int) :: ws) ({ frames := 0, cells := 0, slots := 0, locals := 0 } : Room)) (fun a U => a = #[(.int p1), (.int p2), .null] ∧ Z.Warmed39 U.vm ∧ U.heap = h0) (fun _ _ _ _ _ => True) (fun _ U o U' => ∃ v L, o = .returned v ∧ Qpre Z p1 p2 h0 n0 v U'.heap L ∧ FrameEnd U o U' L ({ frames := 0, cells := 0, slots := 0, locals := 0 } : Room).cells ({ frames := 0, cells := 0, slots := 0, locals := 0 } : Room).slots) := by
  refine MetFree.of_bodySF (plainFor_of_name pn_jdk_internal_util_Preconditions) hisR ?_
  intro p e s m args below meth c s₁ Bd hml0 hP hK
  obtain ⟨rfl, hZ, hh⟩ := hP
  have hx := Bd.exec
  have hby := Bd.bytes
  have hml : c.maxLocals = 3 := hml0
  have hown : s.vm.findClass "jdk/internal/util/Preconditions" = some m.cls := findClass_of_methodNamed Bd.named
  have hnm := (name_of_methodNamed Bd.named Bd.method).1
  have X0 : Stand p l e ({ frames := 0, cells := 0, slots := 0, locals := 0 } : Room) s m #[(.int p1), (.int p2), .null] below meth c s₁ [] 0 0 := Stand.of_body Bd
  have e0 : s₁.heap = h0 := by rw [← hh, Bd.state]; rfl
  have es0 : s.heap = h0 := hh
  have N0 := Fr.nil n0
  show own_Fin p e below (Gpre Z p1 p2 h0 n0 s) (s₁.setTop (entryFrame m #[(.int p1), (.int p2), .null] 3))
  rw [ef_pre m p1 p2]
  refine own_go (XS.iloadN X0.here hx rfl (hb hby d19_0) rfl (Steps.refl _)) ?_
  show own_Fin _ _ _ _ (s₁.setTop (mkF m 1 #[iv p1, iv p2, .val .null] [(.int p1)]))
  refine own_go (XS.ifNo X0.here hx rfl (hb hby d19_1) rfl ((if0 _ _).trans (flt (show ¬ (p1 < (0 : Int32)) from h1)).1) (Steps.refl _)) ?_
  show own_Fin _ _ _ _ (s₁.setTop (mkF m 4 #[iv p1, iv p2, .val .null] []))
  refine own_go (XS.iloadN X0.here hx rfl (hb hby d19_4) rfl (Steps.refl _)) ?_
  show own_Fin _ _ _ _ (s₁.setTop (mkF m 5 #[iv p1, iv p2, .val .null] [(.int p1)]))
  refine own_go (XS.iloadN X0.here hx rfl (hb hby d19_5) rfl (Steps.refl _)) ?_
  show own_Fin _ _ _ _ (s₁.setTop (mkF m 6 #[iv p1, iv p2, .val .null] [(.int p2), (.int p1)]))
  refine own_go (XS.icmpYes X0.here hx rfl (pc0 := 6) (pc' := 16) rfl (hb hby d19_6) rfl (tlt (show p1 < p2 from h2)).1 (by decide) (by decide) (Steps.refl _)) ?_
  show own_Fin _ _ _ _ (s₁.setTop (mkF m 16 #[iv p1, iv p2, .val .null] []))
  refine own_go (XS.iloadN X0.here hx rfl (hb hby d19_16) rfl (Steps.refl _)) ?_
  show own_Fin _ _ _ _ (s₁.setTop (mkF m 17 #[iv p1, iv p2, .val .null] [(.int p1)]))
  obtain ⟨fs58, hr58, hrun58, hended58, hW58, hsame58⟩ := X0.leave (v := some (.int p1)) (fun h => by rw [Bd.returns] at h; cases h)
  refine own_done (own_retI X0 hx Bd.returns (hb hby d19_17) hr58) hrun58 hended58 ⟨_, _, rfl, ?_, ⟨_, rfl⟩, hW58, hsame58.mono (by decide) (by decide)⟩
  show Qpre Z p1 p2 h0 n0 _ s₁.heap _
  rw [e0]
  exact ⟨rfl, N0, rfl⟩
theorem d18_0 : decode jdk_31_method_17_code 0 = .ok (.iload_n 0, 1) := by decide +kernel
theorem d18_1 : decode jdk_31_method_17_code 1 = .ok (.iload_n 1, 1) := by decide +kernel
theorem d18_2 : decode jdk_31_method_17_code 2 = .ok (.aconst_null, 1) := by decide +kernel
theorem d18_3 : decode jdk_31_method_17_code 3 = .ok (.invokestatic 105, 3) := by decide +kernel
theorem d18_6 : decode jdk_31_method_17_code 6 = .ok (.ireturn, 1) := by decide +kernel
theorem pn_java_util_Objects : plainName "java/util/Objects" = true := by first | (simp [plainName, overriddenIn]; done) | decide +kernel
theorem ef_obj (m : MethodId) (x0 : Int32) (x1 : Int32) : entryFrame m #[(.int x0), (.int x1)] 2 = mkF m 0 #[.val (.int x0), .val (.int x1)] [] := by first | (simp [entryFrame, mkF, argsToLocals, Value.category]; done) | rfl
def Qobj (Z : State) (p1 : Int32) (p2 : Int32) (h0 : Heap) (n0 : Nat) (v : Option Value) (h : Heap) (L : List Loc) : Prop := v = some (.int p1) ∧ Fr n0 L ∧ h = h0
abbrev Gobj (Z : State) (p1 : Int32) (p2 : Int32) (h0 : Heap) (n0 : Nat) (s : State) : Outcome → State → Prop := fun o U' => ∃ v L, o = .returned v ∧ Qobj Z p1 p2 h0 n0 v U'.heap L ∧ FrameEnd s o U' L ({ frames := 1, cells := 0, slots := 0, locals := 16 } : Room).cells ({ frames := 1, cells := 0, slots := 0, locals := 16 } : Room).slots
theorem pd__28_IILjava_2f_util_2f_function_2f_BiFunction_3b__29_I : parseMethodDescriptor "(IILjava/util/function/BiFunction;)I" = some ⟨[.int, .int, (.object "java/util/function/BiFunction")], some .int⟩ := by decide +kernel
set_option maxRecDepth 65536 in
set_option maxHeartbeats 40000000 in
theorem rmobj (l : Launch) (Z : State) (a0 : Array Value) (hw : ∀ d ∈ tables_1, d.before a0 Z = true) (ws : List Jvm.Cond) (p1 : Int32) (p2 : Int32) (h0 : Heap) (n0 : Nat) (Z0 : n0 ≤ h0.size) (h1 : ¬ p1 < (0 : Int32)) (h2 : p1 < p2) :
    MetFree l (⟨"java/util/Objects", "checkIndex", "(II)I"⟩ : MethodName) (head1 (Jvm.Cond.code (⟨"java/util/Objects", "checkIndex", "(II)I"⟩ : MethodName) jdk_31_method_17_code 2 (some .int) :: ws) ({ frames := 1, cells := 0, slots := 0, locals := 16 } : Room)) (fun a U => a = #[(.int p1), (.int p2)] ∧ Z.Warmed39 U.vm ∧ U.heap = h0) (fun _ _ _ _ _ => True) (fun _ U o U' => ∃ v L, o = .returned v ∧ Qobj Z p1 p2 h0 n0 v U'.heap L ∧ FrameEnd U o U' L ({ frames := 1, cells := 0, slots := 0, locals := 16 } : Room).cells ({ frames := 1, cells := 0, slots := 0, locals := 16 } : Room).slots) := by
  refine MetFree.of_bodySF (plainFor_of_name pn_java_util_Objects) hisR ?_
  intro p e s m args below meth c s₁ Bd hml0 hP hK
  obtain ⟨rfl, hZ, hh⟩ := hP
  have hx := Bd.exec
  have hby := Bd.bytes
  have hml : c.maxLocals = 2 := hml0
  have hown : s.vm.findClass "java/util/Objects" = some m.cls := findClass_of_methodNamed Bd.named
  have hnm := (name_of_methodNamed Bd.named Bd.method).1
  have X0 : Stand p l e ({ frames := 1, cells := 0, slots := 0, locals := 16 } : Room) s m #[(.int p1), (.int p2)] below meth c s₁ [] 0 0 := Stand.of_body Bd
  have e0 : s₁.heap = h0 := by rw [← hh, Bd.state]; rfl
  have es0 : s.heap = h0 := hh
  have N0 := Fr.nil n0
  show own_Fin p e below (Gobj Z p1 p2 h0 n0 s) (s₁.setTop (entryFrame m #[(.int p1), (.int p2)] 2))
  rw [ef_obj m p1 p2]
  refine own_go (XS.iloadN X0.here hx rfl (hb hby d18_0) rfl (Steps.refl _)) ?_
  show own_Fin _ _ _ _ (s₁.setTop (mkF m 1 #[iv p1, iv p2] [(.int p1)]))
  refine own_go (XS.iloadN X0.here hx rfl (hb hby d18_1) rfl (Steps.refl _)) ?_
  show own_Fin _ _ _ _ (s₁.setTop (mkF m 2 #[iv p1, iv p2] [(.int p2), (.int p1)]))
  refine own_go (XS.aconstNull X0.here hx rfl (hb hby d18_2) (Steps.refl _)) ?_
  show own_Fin _ _ _ _ (s₁.setTop (mkF m 3 #[iv p1, iv p2] [.null, (.int p2), (.int p1)]))
  obtain ⟨_, _, ⟨T59, L59, k59, n59⟩, -, X59, ⟨Lc59, hQ59, l59, y59, z59⟩, st59⟩ := Jvm.LawKit.callS X0 hx (y := (⟨"jdk/internal/util/Preconditions", "checkIndex", "(IILjava/util/function/BiFunction;)I"⟩ : MethodName)) hown (mvT hZ (hw _ (List.mem_of_getElem? (i := 128) rfl))) (mvT hZ (hw _ (List.mem_of_getElem? (i := 129) rfl))) (mvT hZ (hw _ (List.mem_of_getElem? (i := 130) rfl))) (mvT hZ (hw _ (List.mem_of_getElem? (i := 131) rfl))) (by decide) (backOf (W := 0) (rmpre l Z a0 hw [] p1 p2 h0 n0 Z0 h1 h2) hZ (hw _ (List.mem_of_getElem? (i := 131) rfl)) (hw _ (List.mem_of_getElem? (i := 130) rfl)) (by decide) (by decide)) (g := (mkF m 3 #[iv p1, iv p2] [.null, (.int p2), (.int p1)])) rfl (by rw [hml]; rfl) (argsL := [(.int p1), (.int p2), .null]) (rest := []) (lenOf pd__28_IILjava_2f_util_2f_function_2f_BiFunction_3b__29_I rfl) rfl (by show 2 * 0 + _ ≤ _; exact Nat.le_of_eq rfl) (hb hby d18_3) (fun _ _ => ⟨rfl, e0, (by decide : 0 + 0 ≤ _), (by decide : 0 + 0 ≤ _)⟩)
  dsimp only [Pt.U, Pt.locs, Pt.cells, Pt.slots] at X59 l59 y59 z59 st59 hQ59
  subst l59 y59 z59
  obtain ⟨rfl, Nq59, e59⟩ := hQ59
  refine own_by st59 ?_
  have N59 := Fr.app N0 Nq59
  show own_Fin _ _ _ _ (T59.setTop (mkF m 6 #[iv p1, iv p2] [(.int p1)]))
  obtain ⟨fs60, hr60, hrun60, hended60, hW60, hsame60⟩ := X59.leave (v := some (.int p1)) (fun h => by rw [Bd.returns] at h; cases h)
  refine own_done (own_retI X59 hx Bd.returns (hb hby d18_6) hr60) hrun60 hended60 ⟨_, _, rfl, ?_, ⟨_, rfl⟩, hW60, hsame60.mono (by decide) (by decide)⟩
  show Qobj Z p1 p2 h0 n0 _ T59.heap _
  rw [e59]
  exact ⟨rfl, N59, rfl⟩
theorem d20_0 : decode jdk_38_method_18_code 0 = .ok (.aload_n 0, 1) := by decide +kernel
theorem d20_1 : decode jdk_38_method_18_code 1 = .ok (.getfield 9, 3) := by decide +kernel
theorem d20_4 : decode jdk_38_method_18_code 4 = .ok (.iload_n 1, 1) := by decide +kernel
theorem d20_5 : decode jdk_38_method_18_code 5 = .ok (.aaload, 1) := by decide +kernel
theorem d20_6 : decode jdk_38_method_18_code 6 = .ok (.areturn, 1) := by decide +kernel
theorem ef_eld_1_0 (m : MethodId) (x0 : Addr) (x1 : Int32) : entryFrame m #[(.ref x0), (.int x1)] 2 = mkF m 0 #[.val (.ref x0), .val (.int x1)] [] := by first | (simp [entryFrame, mkF, argsToLocals, Value.category]; done) | rfl
def Qeld_1_0 (Z : State) (a1 : Addr) (ed : Addr) (ke : ClassId) (s0 : Addr) (h0 : Heap) (n0 : Nat) (v : Option Value) (h : Heap) (L : List Loc) : Prop := v = some (.ref s0) ∧ Fr n0 L ∧ h = h0
abbrev Geld_1_0 (Z : State) (a1 : Addr) (ed : Addr) (ke : ClassId) (s0 : Addr) (h0 : Heap) (n0 : Nat) (s : State) : Outcome → State → Prop := fun o U' => ∃ v L, o = .returned v ∧ Qeld_1_0 Z a1 ed ke s0 h0 n0 v U'.heap L ∧ FrameEnd s o U' L ({ frames := 0, cells := 0, slots := 0, locals := 0 } : Room).cells ({ frames := 0, cells := 0, slots := 0, locals := 0 } : Room).slots
set_option maxRecDepth 65536 in
set_option maxHeartbeats 40000000 in
theorem rmeld_1_0 (l : Launch) (Z : State) (a0 : Array Value) (hw : ∀ d ∈ tables_1, d.before a0 Z = true) (ws : List Jvm.Cond) (a1 : Addr) (ed : Addr) (ke : ClassId) (s0 : Addr) (h0 : Heap) (n0 : Nat) (Z0 : n0 ≤ h0.size) (F_elementData_a1 : Fld Z h0 a1 "java/util/ArrayList" "elementData" "[Ljava/lang/Object;" (.ref ed)) (V_ed : Arv Z h0 ed ke (.object "java/lang/Object") (10 : Int32) [(.ref s0), .null, .null, .null, .null, .null, .null, .null, .null, .null] .null) :
    MetFree l (⟨"java/util/ArrayList", "elementData", "(I)Ljava/lang/Object;"⟩ : MethodName) (head1 (Jvm.Cond.code (⟨"java/util/ArrayList", "elementData", "(I)Ljava/lang/Object;"⟩ : MethodName) jdk_38_method_18_code 2 (some (.object "java/lang/Object")) :: ws) ({ frames := 0, cells := 0, slots := 0, locals := 0 } : Room)) (fun a U => a = #[(.ref a1), (.int (0 : Int32))] ∧ Z.Warmed39 U.vm ∧ U.heap = h0) (fun _ _ _ _ _ => True) (fun _ U o U' => ∃ v L, o = .returned v ∧ Qeld_1_0 Z a1 ed ke s0 h0 n0 v U'.heap L ∧ FrameEnd U o U' L ({ frames := 0, cells := 0, slots := 0, locals := 0 } : Room).cells ({ frames := 0, cells := 0, slots := 0, locals := 0 } : Room).slots) := by
  refine MetFree.of_bodySF (plainFor_of_name pn_java_util_ArrayList) hisR ?_
  intro p e s m args below meth c s₁ Bd hml0 hP hK
  obtain ⟨rfl, hZ, hh⟩ := hP
  have hx := Bd.exec
  have hby := Bd.bytes
  have hml : c.maxLocals = 2 := hml0
  have hown : s.vm.findClass "java/util/ArrayList" = some m.cls := findClass_of_methodNamed Bd.named
  have hnm := (name_of_methodNamed Bd.named Bd.method).1
  have X0 : Stand p l e ({ frames := 0, cells := 0, slots := 0, locals := 0 } : Room) s m #[(.ref a1), (.int (0 : Int32))] below meth c s₁ [] 0 0 := Stand.of_body Bd
  have e0 : s₁.heap = h0 := by rw [← hh, Bd.state]; rfl
  have es0 : s.heap = h0 := hh
  have N0 := Fr.nil n0
  show own_Fin p e below (Geld_1_0 Z a1 ed ke s0 h0 n0 s) (s₁.setTop (entryFrame m #[(.ref a1), (.int (0 : Int32))] 2))
  rw [ef_eld_1_0 m a1 (0 : Int32)]
  refine own_go (XS.aloadN X0.here hx rfl (hb hby d20_0) rfl rfl (Steps.refl _)) ?_
  show own_Fin _ _ _ _ (s₁.setTop (mkF m 1 #[rv a1, iv (0 : Int32)] [(.ref a1)]))
  obtain ⟨T61, X61, e61, st61⟩ := getF X0 hx hZ hown (host := "") (Or.inl (hw _ (List.mem_of_getElem? (i := 24) rfl))) Via.refl e0 F_elementData_a1 (g := (mkF m 1 #[rv a1, iv (0 : Int32)] [(.ref a1)])) rfl rfl (hb hby d20_1)
  refine own_by st61 ?_
  show own_Fin _ _ _ _ (T61.setTop (mkF m 4 #[rv a1, iv (0 : Int32)] [(.ref ed)]))
  refine own_go (XS.iloadN X61.here hx rfl (hb hby d20_4) rfl (Steps.refl _)) ?_
  show own_Fin _ _ _ _ (T61.setTop (mkF m 5 #[rv a1, iv (0 : Int32)] [(.int (0 : Int32)), (.ref ed)]))
  obtain ⟨cl62, Ar62, qa62, Sa62, Na62, Ha62, Ga62⟩ := id V_ed
  have hin62 : ¬ ((0 : Int32) < 0 ∨ cl62.slots.size ≤ ((0 : Int32)).toNatClampNeg) := inb_of Sa62 ⟨by decide, by decide⟩
  have hat62 : cl62.slots[((0 : Int32)).toNatClampNeg]? = some (.ref s0) := Has.at Ha62 hin62 rfl
  refine own_by (X61.aaload hx (j := (0 : Int32)) (v := (.ref s0)) (by rw [e61]; exact Ar62.1) (State.isArrayOf_alike hZ.alike Ar62.2.1) rfl Ar62.2.2 hin62 hat62 (g := (mkF m 5 #[rv a1, iv (0 : Int32)] [(.int (0 : Int32)), (.ref ed)])) rfl rfl (hb hby d20_5)) ?_
  show own_Fin _ _ _ _ (T61.setTop (mkF m 6 #[rv a1, iv (0 : Int32)] [(.ref s0)]))
  obtain ⟨fs63, hr63, hrun63, hended63, hW63, hsame63⟩ := X61.leave (v := some (.ref s0)) (fun h => by rw [Bd.returns] at h; cases h)
  refine own_done (retOut X61 hx Bd.returns rfl (Or.inr (Or.inr (Or.inr (Or.inr ⟨rfl, rfl, rfl⟩)))) (hb hby d20_6) hr63) hrun63 hended63 ⟨_, _, rfl, ?_, ⟨_, rfl⟩, hW63, hsame63.mono (by decide) (by decide)⟩
  show Qeld_1_0 Z a1 ed ke s0 h0 n0 _ T61.heap _
  rw [e61]
  exact ⟨rfl, N0, rfl⟩
theorem d17_0 : decode jdk_38_method_20_code 0 = .ok (.iload_n 1, 1) := by decide +kernel
theorem d17_1 : decode jdk_38_method_20_code 1 = .ok (.aload_n 0, 1) := by decide +kernel
theorem d17_2 : decode jdk_38_method_20_code 2 = .ok (.getfield 48, 3) := by decide +kernel
theorem d17_5 : decode jdk_38_method_20_code 5 = .ok (.invokestatic 118, 3) := by decide +kernel
theorem d17_8 : decode jdk_38_method_20_code 8 = .ok (.pop, 1) := by decide +kernel
theorem d17_9 : decode jdk_38_method_20_code 9 = .ok (.aload_n 0, 1) := by decide +kernel
theorem d17_10 : decode jdk_38_method_20_code 10 = .ok (.iload_n 1, 1) := by decide +kernel
theorem d17_11 : decode jdk_38_method_20_code 11 = .ok (.invokevirtual 123, 3) := by decide +kernel
theorem d17_14 : decode jdk_38_method_20_code 14 = .ok (.areturn, 1) := by decide +kernel
theorem ef_get_1_0 (m : MethodId) (x0 : Addr) (x1 : Int32) : entryFrame m #[(.ref x0), (.int x1)] 2 = mkF m 0 #[.val (.ref x0), .val (.int x1)] [] := by first | (simp [entryFrame, mkF, argsToLocals, Value.category]; done) | rfl
def Qget_1_0 (Z : State) (a1 : Addr) (ed : Addr) (ke : ClassId) (s0 : Addr) (h0 : Heap) (n0 : Nat) (v : Option Value) (h : Heap) (L : List Loc) : Prop := v = some (.ref s0) ∧ Fr n0 L ∧ h = h0
abbrev Gget_1_0 (Z : State) (a1 : Addr) (ed : Addr) (ke : ClassId) (s0 : Addr) (h0 : Heap) (n0 : Nat) (s : State) : Outcome → State → Prop := fun o U' => ∃ v L, o = .returned v ∧ Qget_1_0 Z a1 ed ke s0 h0 n0 v U'.heap L ∧ FrameEnd s o U' L ({ frames := 2, cells := 0, slots := 0, locals := 32 } : Room).cells ({ frames := 2, cells := 0, slots := 0, locals := 32 } : Room).slots
theorem pd__28_I_29_Ljava_2f_lang_2f_Object_3b_ : parseMethodDescriptor "(I)Ljava/lang/Object;" = some ⟨[.int], some (.object "java/lang/Object")⟩ := by decide +kernel
set_option maxRecDepth 65536 in
set_option maxHeartbeats 40000000 in
theorem rmget_1_0 (l : Launch) (Z : State) (a0 : Array Value) (hw : ∀ d ∈ tables_1, d.before a0 Z = true) (ws : List Jvm.Cond) (a1 : Addr) (ed : Addr) (ke : ClassId) (s0 : Addr) (h0 : Heap) (n0 : Nat) (Z0 : n0 ≤ h0.size) (E_a1 : Exa Z h0 a1 "java/util/ArrayList") (F_size_a1 : Fld Z h0 a1 "java/util/ArrayList" "size" "I" (.int (1 : Int32))) (F_elementData_a1 : Fld Z h0 a1 "java/util/ArrayList" "elementData" "[Ljava/lang/Object;" (.ref ed)) (V_ed : Arv Z h0 ed ke (.object "java/lang/Object") (10 : Int32) [(.ref s0), .null, .null, .null, .null, .null, .null, .null, .null, .null] .null) :
    MetFree l (⟨"java/util/ArrayList", "get", "(I)Ljava/lang/Object;"⟩ : MethodName) (head1 (Jvm.Cond.code (⟨"java/util/ArrayList", "get", "(I)Ljava/lang/Object;"⟩ : MethodName) jdk_38_method_20_code 2 (some (.object "java/lang/Object")) :: ws) ({ frames := 2, cells := 0, slots := 0, locals := 32 } : Room)) (fun a U => a = #[(.ref a1), (.int (0 : Int32))] ∧ Z.Warmed39 U.vm ∧ U.heap = h0) (fun _ _ _ _ _ => True) (fun _ U o U' => ∃ v L, o = .returned v ∧ Qget_1_0 Z a1 ed ke s0 h0 n0 v U'.heap L ∧ FrameEnd U o U' L ({ frames := 2, cells := 0, slots := 0, locals := 32 } : Room).cells ({ frames := 2, cells := 0, slots := 0, locals := 32 } : Room).slots) := by
  refine MetFree.of_bodySF (plainFor_of_name pn_java_util_ArrayList) hisR ?_
  intro p e s m args below meth c s₁ Bd hml0 hP hK
  obtain ⟨rfl, hZ, hh⟩ := hP
  have hx := Bd.exec
  have hby := Bd.bytes
  have hml : c.maxLocals = 2 := hml0
  have hown : s.vm.findClass "java/util/ArrayList" = some m.cls := findClass_of_methodNamed Bd.named
  have hnm := (name_of_methodNamed Bd.named Bd.method).1
  have X0 : Stand p l e ({ frames := 2, cells := 0, slots := 0, locals := 32 } : Room) s m #[(.ref a1), (.int (0 : Int32))] below meth c s₁ [] 0 0 := Stand.of_body Bd
  have e0 : s₁.heap = h0 := by rw [← hh, Bd.state]; rfl
  have es0 : s.heap = h0 := hh
  have N0 := Fr.nil n0
  show own_Fin p e below (Gget_1_0 Z a1 ed ke s0 h0 n0 s) (s₁.setTop (entryFrame m #[(.ref a1), (.int (0 : Int32))] 2))
  rw [ef_get_1_0 m a1 (0 : Int32)]
  refine own_go (XS.iloadN X0.here hx rfl (hb hby d17_0) rfl (Steps.refl _)) ?_
  show own_Fin _ _ _ _ (s₁.setTop (mkF m 1 #[rv a1, iv (0 : Int32)] [(.int (0 : Int32))]))
  refine own_go (XS.aloadN X0.here hx rfl (hb hby d17_1) rfl rfl (Steps.refl _)) ?_
  show own_Fin _ _ _ _ (s₁.setTop (mkF m 2 #[rv a1, iv (0 : Int32)] [(.ref a1), (.int (0 : Int32))]))
  obtain ⟨T64, X64, e64, st64⟩ := getF X0 hx hZ hown (host := "") (Or.inl (hw _ (List.mem_of_getElem? (i := 42) rfl))) Via.refl e0 F_size_a1 (g := (mkF m 2 #[rv a1, iv (0 : Int32)] [(.ref a1), (.int (0 : Int32))])) rfl rfl (hb hby d17_2)
  refine own_by st64 ?_
  show own_Fin _ _ _ _ (T64.setTop (mkF m 5 #[rv a1, iv (0 : Int32)] [(.int (1 : Int32)), (.int (0 : Int32))]))
  obtain ⟨_, _, ⟨T65, L65, k65, n65⟩, -, X65, ⟨Lc65, hQ65, l65, y65, z65⟩, st65⟩ := Jvm.LawKit.callS X64 hx (y := (⟨"java/util/Objects", "checkIndex", "(II)I"⟩ : MethodName)) hown (mvT hZ (hw _ (List.mem_of_getElem? (i := 124) rfl))) (mvT hZ (hw _ (List.mem_of_getElem? (i := 125) rfl))) (mvT hZ (hw _ (List.mem_of_getElem? (i := 126) rfl))) (mvT hZ (hw _ (List.mem_of_getElem? (i := 127) rfl))) (by decide) (backOf (W := 0) (rmobj l Z a0 hw [] (0 : Int32) (1 : Int32) h0 n0 Z0 (by decide) (by decide)) hZ (hw _ (List.mem_of_getElem? (i := 127) rfl)) (hw _ (List.mem_of_getElem? (i := 126) rfl)) (by decide) (by decide)) (g := (mkF m 5 #[rv a1, iv (0 : Int32)] [(.int (1 : Int32)), (.int (0 : Int32))])) rfl (by rw [hml]; rfl) (argsL := [(.int (0 : Int32)), (.int (1 : Int32))]) (rest := []) (lenOf pd__28_II_29_I rfl) rfl (by show 2 * 0 + _ ≤ _; exact Nat.le_of_eq rfl) (hb hby d17_5) (fun _ _ => ⟨rfl, e64, (by decide : 0 + 0 ≤ _), (by decide : 0 + 0 ≤ _)⟩)
  dsimp only [Pt.U, Pt.locs, Pt.cells, Pt.slots] at X65 l65 y65 z65 st65 hQ65
  subst l65 y65 z65
  obtain ⟨rfl, Nq65, e65⟩ := hQ65
  refine own_by st65 ?_
  have N65 := Fr.app N0 Nq65
  show own_Fin _ _ _ _ (T65.setTop (mkF m 8 #[rv a1, iv (0 : Int32)] [(.int (0 : Int32))]))
  refine own_go (XS.pop X65.here hx rfl (hb hby d17_8) rfl rfl (Steps.refl _)) ?_
  show own_Fin _ _ _ _ (T65.setTop (mkF m 9 #[rv a1, iv (0 : Int32)] []))
  refine own_go (XS.aloadN X65.here hx rfl (hb hby d17_9) rfl rfl (Steps.refl _)) ?_
  show own_Fin _ _ _ _ (T65.setTop (mkF m 10 #[rv a1, iv (0 : Int32)] [(.ref a1)]))
  refine own_go (XS.iloadN X65.here hx rfl (hb hby d17_10) rfl (Steps.refl _)) ?_
  show own_Fin _ _ _ _ (T65.setTop (mkF m 11 #[rv a1, iv (0 : Int32)] [(.int (0 : Int32)), (.ref a1)]))
  obtain ⟨cq66, kq66, q66a, q66b, q66c⟩ := isOf hZ e65 E_a1
  obtain ⟨_, _, ⟨T66, L66, k66, n66⟩, -, X66, ⟨Lc66, hQ66, l66, y66, z66⟩, st66⟩ := X65.virtualBack hx (y := (⟨"java/util/ArrayList", "elementData", "(I)Ljava/lang/Object;"⟩ : MethodName)) (z := (⟨"java/util/ArrayList", "elementData", "(I)Ljava/lang/Object;"⟩ : MethodName)) hown (mvT hZ (hw _ (List.mem_of_getElem? (i := 132) rfl))) (mvT hZ (hw _ (List.mem_of_getElem? (i := 133) rfl))) (notFace_of_selects (args := #[]) (mvT hZ (hw _ (List.mem_of_getElem? (i := 135) rfl)))) (mvT hZ (hw _ (List.mem_of_getElem? (i := 135) rfl))) (mvT hZ (hw _ (List.mem_of_getElem? (i := 134) rfl))) (by decide) (backOf (W := 0) (rmeld_1_0 l Z a0 hw [] a1 ed ke s0 h0 n0 Z0 F_elementData_a1 V_ed) hZ (hw _ (List.mem_of_getElem? (i := 136) rfl)) (hw _ (List.mem_of_getElem? (i := 2) rfl)) (by decide) (by decide)) q66a q66c (g := (mkF m 11 #[rv a1, iv (0 : Int32)] [(.int (0 : Int32)), (.ref a1)])) rfl (by rw [hml]; rfl) (Steps.refl _) (argsL := [(.int (0 : Int32))]) (rest := []) (lenOf pd__28_I_29_Ljava_2f_lang_2f_Object_3b_ rfl) rfl (by show 2 * 0 + _ ≤ _; exact Nat.le_of_eq rfl) (hb hby d17_11) (fun _ _ => ⟨rfl, e65, (by decide : 0 + 0 ≤ _), (by decide : 0 + 0 ≤ _)⟩)
  dsimp only [Pt.U, Pt.locs, Pt.cells, Pt.slots] at X66 l66 y66 z66 st66 hQ66
  subst l66 y66 z66
  obtain ⟨rfl, Nq66, e66⟩ := hQ66
  refine own_go st66 ?_
  have N66 := Fr.app N65 Nq66
  show own_Fin _ _ _ _ (T66.setTop (mkF m 14 #[rv a1, iv (0 : Int32)] [(.ref s0)]))
  obtain ⟨fs67, hr67, hrun67, hended67, hW67, hsame67⟩ := X66.leave (v := some (.ref s0)) (fun h => by rw [Bd.returns] at h; cases h)
  refine own_done (retOut X66 hx Bd.returns rfl (Or.inr (Or.inr (Or.inr (Or.inr ⟨rfl, rfl, rfl⟩)))) (hb hby d17_14) hr67) hrun67 hended67 ⟨_, _, rfl, ?_, ⟨_, rfl⟩, hW67, hsame67.mono (by decide) (by decide)⟩
  show Qget_1_0 Z a1 ed ke s0 h0 n0 _ T66.heap _
  rw [e66]
  exact ⟨rfl, N66, rfl⟩
theorem ef_eld_2_0 (m : MethodId) (x0 : Addr) (x1 : Int32) : entryFrame m #[(.ref x0), (.int x1)] 2 = mkF m 0 #[.val (.ref x0), .val (.int x1)] [] := by first | (simp [entryFrame, mkF, argsToLocals, Value.category]; done) | rfl
def Qeld_2_0 (Z : State) (a1 : Addr) (ed : Addr) (ke : ClassId) (s0 : Addr) (s1 : Addr) (h0 : Heap) (n0 : Nat) (v : Option Value) (h : Heap) (L : List Loc) : Prop := v = some (.ref s0) ∧ Fr n0 L ∧ h = h0
abbrev Geld_2_0 (Z : State) (a1 : Addr) (ed : Addr) (ke : ClassId) (s0 : Addr) (s1 : Addr) (h0 : Heap) (n0 : Nat) (s : State) : Outcome → State → Prop := fun o U' => ∃ v L, o = .returned v ∧ Qeld_2_0 Z a1 ed ke s0 s1 h0 n0 v U'.heap L ∧ FrameEnd s o U' L ({ frames := 0, cells := 0, slots := 0, locals := 0 } : Room).cells ({ frames := 0, cells := 0, slots := 0, locals := 0 } : Room).slots
set_option maxRecDepth 65536 in
set_option maxHeartbeats 40000000 in
theorem rmeld_2_0 (l : Launch) (Z : State) (a0 : Array Value) (hw : ∀ d ∈ tables_1, d.before a0 Z = true) (ws : List Jvm.Cond) (a1 : Addr) (ed : Addr) (ke : ClassId) (s0 : Addr) (s1 : Addr) (h0 : Heap) (n0 : Nat) (Z0 : n0 ≤ h0.size) (F_elementData_a1 : Fld Z h0 a1 "java/util/ArrayList" "elementData" "[Ljava/lang/Object;" (.ref ed)) (V_ed : Arv Z h0 ed ke (.object "java/lang/Object") (10 : Int32) [(.ref s0), (.ref s1), .null, .null, .null, .null, .null, .null, .null, .null] .null) :
    MetFree l (⟨"java/util/ArrayList", "elementData", "(I)Ljava/lang/Object;"⟩ : MethodName) (head1 (Jvm.Cond.code (⟨"java/util/ArrayList", "elementData", "(I)Ljava/lang/Object;"⟩ : MethodName) jdk_38_method_18_code 2 (some (.object "java/lang/Object")) :: ws) ({ frames := 0, cells := 0, slots := 0, locals := 0 } : Room)) (fun a U => a = #[(.ref a1), (.int (0 : Int32))] ∧ Z.Warmed39 U.vm ∧ U.heap = h0) (fun _ _ _ _ _ => True) (fun _ U o U' => ∃ v L, o = .returned v ∧ Qeld_2_0 Z a1 ed ke s0 s1 h0 n0 v U'.heap L ∧ FrameEnd U o U' L ({ frames := 0, cells := 0, slots := 0, locals := 0 } : Room).cells ({ frames := 0, cells := 0, slots := 0, locals := 0 } : Room).slots) := by
  refine MetFree.of_bodySF (plainFor_of_name pn_java_util_ArrayList) hisR ?_
  intro p e s m args below meth c s₁ Bd hml0 hP hK
  obtain ⟨rfl, hZ, hh⟩ := hP
  have hx := Bd.exec
  have hby := Bd.bytes
  have hml : c.maxLocals = 2 := hml0
  have hown : s.vm.findClass "java/util/ArrayList" = some m.cls := findClass_of_methodNamed Bd.named
  have hnm := (name_of_methodNamed Bd.named Bd.method).1
  have X0 : Stand p l e ({ frames := 0, cells := 0, slots := 0, locals := 0 } : Room) s m #[(.ref a1), (.int (0 : Int32))] below meth c s₁ [] 0 0 := Stand.of_body Bd
  have e0 : s₁.heap = h0 := by rw [← hh, Bd.state]; rfl
  have es0 : s.heap = h0 := hh
  have N0 := Fr.nil n0
  show own_Fin p e below (Geld_2_0 Z a1 ed ke s0 s1 h0 n0 s) (s₁.setTop (entryFrame m #[(.ref a1), (.int (0 : Int32))] 2))
  rw [ef_eld_2_0 m a1 (0 : Int32)]
  refine own_go (XS.aloadN X0.here hx rfl (hb hby d20_0) rfl rfl (Steps.refl _)) ?_
  show own_Fin _ _ _ _ (s₁.setTop (mkF m 1 #[rv a1, iv (0 : Int32)] [(.ref a1)]))
  obtain ⟨T68, X68, e68, st68⟩ := getF X0 hx hZ hown (host := "") (Or.inl (hw _ (List.mem_of_getElem? (i := 24) rfl))) Via.refl e0 F_elementData_a1 (g := (mkF m 1 #[rv a1, iv (0 : Int32)] [(.ref a1)])) rfl rfl (hb hby d20_1)
  refine own_by st68 ?_
  show own_Fin _ _ _ _ (T68.setTop (mkF m 4 #[rv a1, iv (0 : Int32)] [(.ref ed)]))
  refine own_go (XS.iloadN X68.here hx rfl (hb hby d20_4) rfl (Steps.refl _)) ?_
  show own_Fin _ _ _ _ (T68.setTop (mkF m 5 #[rv a1, iv (0 : Int32)] [(.int (0 : Int32)), (.ref ed)]))
  obtain ⟨cl69, Ar69, qa69, Sa69, Na69, Ha69, Ga69⟩ := id V_ed
  have hin69 : ¬ ((0 : Int32) < 0 ∨ cl69.slots.size ≤ ((0 : Int32)).toNatClampNeg) := inb_of Sa69 ⟨by decide, by decide⟩
  have hat69 : cl69.slots[((0 : Int32)).toNatClampNeg]? = some (.ref s0) := Has.at Ha69 hin69 rfl
  refine own_by (X68.aaload hx (j := (0 : Int32)) (v := (.ref s0)) (by rw [e68]; exact Ar69.1) (State.isArrayOf_alike hZ.alike Ar69.2.1) rfl Ar69.2.2 hin69 hat69 (g := (mkF m 5 #[rv a1, iv (0 : Int32)] [(.int (0 : Int32)), (.ref ed)])) rfl rfl (hb hby d20_5)) ?_
  show own_Fin _ _ _ _ (T68.setTop (mkF m 6 #[rv a1, iv (0 : Int32)] [(.ref s0)]))
  obtain ⟨fs70, hr70, hrun70, hended70, hW70, hsame70⟩ := X68.leave (v := some (.ref s0)) (fun h => by rw [Bd.returns] at h; cases h)
  refine own_done (retOut X68 hx Bd.returns rfl (Or.inr (Or.inr (Or.inr (Or.inr ⟨rfl, rfl, rfl⟩)))) (hb hby d20_6) hr70) hrun70 hended70 ⟨_, _, rfl, ?_, ⟨_, rfl⟩, hW70, hsame70.mono (by decide) (by decide)⟩
  show Qeld_2_0 Z a1 ed ke s0 s1 h0 n0 _ T68.heap _
  rw [e68]
  exact ⟨rfl, N0, rfl⟩
theorem ef_get_2_0 (m : MethodId) (x0 : Addr) (x1 : Int32) : entryFrame m #[(.ref x0), (.int x1)] 2 = mkF m 0 #[.val (.ref x0), .val (.int x1)] [] := by first | (simp [entryFrame, mkF, argsToLocals, Value.category]; done) | rfl
def Qget_2_0 (Z : State) (a1 : Addr) (ed : Addr) (ke : ClassId) (s0 : Addr) (s1 : Addr) (h0 : Heap) (n0 : Nat) (v : Option Value) (h : Heap) (L : List Loc) : Prop := v = some (.ref s0) ∧ Fr n0 L ∧ h = h0
abbrev Gget_2_0 (Z : State) (a1 : Addr) (ed : Addr) (ke : ClassId) (s0 : Addr) (s1 : Addr) (h0 : Heap) (n0 : Nat) (s : State) : Outcome → State → Prop := fun o U' => ∃ v L, o = .returned v ∧ Qget_2_0 Z a1 ed ke s0 s1 h0 n0 v U'.heap L ∧ FrameEnd s o U' L ({ frames := 2, cells := 0, slots := 0, locals := 32 } : Room).cells ({ frames := 2, cells := 0, slots := 0, locals := 32 } : Room).slots
set_option maxRecDepth 65536 in
set_option maxHeartbeats 40000000 in
theorem rmget_2_0 (l : Launch) (Z : State) (a0 : Array Value) (hw : ∀ d ∈ tables_1, d.before a0 Z = true) (ws : List Jvm.Cond) (a1 : Addr) (ed : Addr) (ke : ClassId) (s0 : Addr) (s1 : Addr) (h0 : Heap) (n0 : Nat) (Z0 : n0 ≤ h0.size) (E_a1 : Exa Z h0 a1 "java/util/ArrayList") (F_size_a1 : Fld Z h0 a1 "java/util/ArrayList" "size" "I" (.int (2 : Int32))) (F_elementData_a1 : Fld Z h0 a1 "java/util/ArrayList" "elementData" "[Ljava/lang/Object;" (.ref ed)) (V_ed : Arv Z h0 ed ke (.object "java/lang/Object") (10 : Int32) [(.ref s0), (.ref s1), .null, .null, .null, .null, .null, .null, .null, .null] .null) :
    MetFree l (⟨"java/util/ArrayList", "get", "(I)Ljava/lang/Object;"⟩ : MethodName) (head1 (Jvm.Cond.code (⟨"java/util/ArrayList", "get", "(I)Ljava/lang/Object;"⟩ : MethodName) jdk_38_method_20_code 2 (some (.object "java/lang/Object")) :: ws) ({ frames := 2, cells := 0, slots := 0, locals := 32 } : Room)) (fun a U => a = #[(.ref a1), (.int (0 : Int32))] ∧ Z.Warmed39 U.vm ∧ U.heap = h0) (fun _ _ _ _ _ => True) (fun _ U o U' => ∃ v L, o = .returned v ∧ Qget_2_0 Z a1 ed ke s0 s1 h0 n0 v U'.heap L ∧ FrameEnd U o U' L ({ frames := 2, cells := 0, slots := 0, locals := 32 } : Room).cells ({ frames := 2, cells := 0, slots := 0, locals := 32 } : Room).slots) := by
  refine MetFree.of_bodySF (plainFor_of_name pn_java_util_ArrayList) hisR ?_
  intro p e s m args below meth c s₁ Bd hml0 hP hK
  obtain ⟨rfl, hZ, hh⟩ := hP
  have hx := Bd.exec
  have hby := Bd.bytes
  have hml : c.maxLocals = 2 := hml0
  have hown : s.vm.findClass "java/util/ArrayList" = some m.cls := findClass_of_methodNamed Bd.named
  have hnm := (name_of_methodNamed Bd.named Bd.method).1
  have X0 : Stand p l e ({ frames := 2, cells := 0, slots := 0, locals := 32 } : Room) s m #[(.ref a1), (.int (0 : Int32))] below meth c s₁ [] 0 0 := Stand.of_body Bd
  have e0 : s₁.heap = h0 := by rw [← hh, Bd.state]; rfl
  have es0 : s.heap = h0 := hh
  have N0 := Fr.nil n0
  show own_Fin p e below (Gget_2_0 Z a1 ed ke s0 s1 h0 n0 s) (s₁.setTop (entryFrame m #[(.ref a1), (.int (0 : Int32))] 2))
  rw [ef_get_2_0 m a1 (0 : Int32)]
  refine own_go (XS.iloadN X0.here hx rfl (hb hby d17_0) rfl (Steps.refl _)) ?_
  show own_Fin _ _ _ _ (s₁.setTop (mkF m 1 #[rv a1, iv (0 : Int32)] [(.int (0 : Int32))]))
  refine own_go (XS.aloadN X0.here hx rfl (hb hby d17_1) rfl rfl (Steps.refl _)) ?_
  show own_Fin _ _ _ _ (s₁.setTop (mkF m 2 #[rv a1, iv (0 : Int32)] [(.ref a1), (.int (0 : Int32))]))
  obtain ⟨T71, X71, e71, st71⟩ := getF X0 hx hZ hown (host := "") (Or.inl (hw _ (List.mem_of_getElem? (i := 42) rfl))) Via.refl e0 F_size_a1 (g := (mkF m 2 #[rv a1, iv (0 : Int32)] [(.ref a1), (.int (0 : Int32))])) rfl rfl (hb hby d17_2)
  refine own_by st71 ?_
  show own_Fin _ _ _ _ (T71.setTop (mkF m 5 #[rv a1, iv (0 : Int32)] [(.int (2 : Int32)), (.int (0 : Int32))]))
  obtain ⟨_, _, ⟨T72, L72, k72, n72⟩, -, X72, ⟨Lc72, hQ72, l72, y72, z72⟩, st72⟩ := Jvm.LawKit.callS X71 hx (y := (⟨"java/util/Objects", "checkIndex", "(II)I"⟩ : MethodName)) hown (mvT hZ (hw _ (List.mem_of_getElem? (i := 124) rfl))) (mvT hZ (hw _ (List.mem_of_getElem? (i := 125) rfl))) (mvT hZ (hw _ (List.mem_of_getElem? (i := 126) rfl))) (mvT hZ (hw _ (List.mem_of_getElem? (i := 127) rfl))) (by decide) (backOf (W := 0) (rmobj l Z a0 hw [] (0 : Int32) (2 : Int32) h0 n0 Z0 (by decide) (by decide)) hZ (hw _ (List.mem_of_getElem? (i := 127) rfl)) (hw _ (List.mem_of_getElem? (i := 126) rfl)) (by decide) (by decide)) (g := (mkF m 5 #[rv a1, iv (0 : Int32)] [(.int (2 : Int32)), (.int (0 : Int32))])) rfl (by rw [hml]; rfl) (argsL := [(.int (0 : Int32)), (.int (2 : Int32))]) (rest := []) (lenOf pd__28_II_29_I rfl) rfl (by show 2 * 0 + _ ≤ _; exact Nat.le_of_eq rfl) (hb hby d17_5) (fun _ _ => ⟨rfl, e71, (by decide : 0 + 0 ≤ _), (by decide : 0 + 0 ≤ _)⟩)
  dsimp only [Pt.U, Pt.locs, Pt.cells, Pt.slots] at X72 l72 y72 z72 st72 hQ72
  subst l72 y72 z72
  obtain ⟨rfl, Nq72, e72⟩ := hQ72
  refine own_by st72 ?_
  have N72 := Fr.app N0 Nq72
  show own_Fin _ _ _ _ (T72.setTop (mkF m 8 #[rv a1, iv (0 : Int32)] [(.int (0 : Int32))]))
  refine own_go (XS.pop X72.here hx rfl (hb hby d17_8) rfl rfl (Steps.refl _)) ?_
  show own_Fin _ _ _ _ (T72.setTop (mkF m 9 #[rv a1, iv (0 : Int32)] []))
  refine own_go (XS.aloadN X72.here hx rfl (hb hby d17_9) rfl rfl (Steps.refl _)) ?_
  show own_Fin _ _ _ _ (T72.setTop (mkF m 10 #[rv a1, iv (0 : Int32)] [(.ref a1)]))
  refine own_go (XS.iloadN X72.here hx rfl (hb hby d17_10) rfl (Steps.refl _)) ?_
  show own_Fin _ _ _ _ (T72.setTop (mkF m 11 #[rv a1, iv (0 : Int32)] [(.int (0 : Int32)), (.ref a1)]))
  obtain ⟨cq73, kq73, q73a, q73b, q73c⟩ := isOf hZ e72 E_a1
  obtain ⟨_, _, ⟨T73, L73, k73, n73⟩, -, X73, ⟨Lc73, hQ73, l73, y73, z73⟩, st73⟩ := X72.virtualBack hx (y := (⟨"java/util/ArrayList", "elementData", "(I)Ljava/lang/Object;"⟩ : MethodName)) (z := (⟨"java/util/ArrayList", "elementData", "(I)Ljava/lang/Object;"⟩ : MethodName)) hown (mvT hZ (hw _ (List.mem_of_getElem? (i := 132) rfl))) (mvT hZ (hw _ (List.mem_of_getElem? (i := 133) rfl))) (notFace_of_selects (args := #[]) (mvT hZ (hw _ (List.mem_of_getElem? (i := 135) rfl)))) (mvT hZ (hw _ (List.mem_of_getElem? (i := 135) rfl))) (mvT hZ (hw _ (List.mem_of_getElem? (i := 134) rfl))) (by decide) (backOf (W := 0) (rmeld_2_0 l Z a0 hw [] a1 ed ke s0 s1 h0 n0 Z0 F_elementData_a1 V_ed) hZ (hw _ (List.mem_of_getElem? (i := 136) rfl)) (hw _ (List.mem_of_getElem? (i := 2) rfl)) (by decide) (by decide)) q73a q73c (g := (mkF m 11 #[rv a1, iv (0 : Int32)] [(.int (0 : Int32)), (.ref a1)])) rfl (by rw [hml]; rfl) (Steps.refl _) (argsL := [(.int (0 : Int32))]) (rest := []) (lenOf pd__28_I_29_Ljava_2f_lang_2f_Object_3b_ rfl) rfl (by show 2 * 0 + _ ≤ _; exact Nat.le_of_eq rfl) (hb hby d17_11) (fun _ _ => ⟨rfl, e72, (by decide : 0 + 0 ≤ _), (by decide : 0 + 0 ≤ _)⟩)
  dsimp only [Pt.U, Pt.locs, Pt.cells, Pt.slots] at X73 l73 y73 z73 st73 hQ73
  subst l73 y73 z73
  obtain ⟨rfl, Nq73, e73⟩ := hQ73
  refine own_go st73 ?_
  have N73 := Fr.app N72 Nq73
  show own_Fin _ _ _ _ (T73.setTop (mkF m 14 #[rv a1, iv (0 : Int32)] [(.ref s0)]))
  obtain ⟨fs74, hr74, hrun74, hended74, hW74, hsame74⟩ := X73.leave (v := some (.ref s0)) (fun h => by rw [Bd.returns] at h; cases h)
  refine own_done (retOut X73 hx Bd.returns rfl (Or.inr (Or.inr (Or.inr (Or.inr ⟨rfl, rfl, rfl⟩)))) (hb hby d17_14) hr74) hrun74 hended74 ⟨_, _, rfl, ?_, ⟨_, rfl⟩, hW74, hsame74.mono (by decide) (by decide)⟩
  show Qget_2_0 Z a1 ed ke s0 s1 h0 n0 _ T73.heap _
  rw [e73]
  exact ⟨rfl, N73, rfl⟩
theorem ef_eld_2_1 (m : MethodId) (x0 : Addr) (x1 : Int32) : entryFrame m #[(.ref x0), (.int x1)] 2 = mkF m 0 #[.val (.ref x0), .val (.int x1)] [] := by first | (simp [entryFrame, mkF, argsToLocals, Value.category]; done) | rfl
def Qeld_2_1 (Z : State) (a1 : Addr) (ed : Addr) (ke : ClassId) (s0 : Addr) (s1 : Addr) (h0 : Heap) (n0 : Nat) (v : Option Value) (h : Heap) (L : List Loc) : Prop := v = some (.ref s1) ∧ Fr n0 L ∧ h = h0
abbrev Geld_2_1 (Z : State) (a1 : Addr) (ed : Addr) (ke : ClassId) (s0 : Addr) (s1 : Addr) (h0 : Heap) (n0 : Nat) (s : State) : Outcome → State → Prop := fun o U' => ∃ v L, o = .returned v ∧ Qeld_2_1 Z a1 ed ke s0 s1 h0 n0 v U'.heap L ∧ FrameEnd s o U' L ({ frames := 0, cells := 0, slots := 0, locals := 0 } : Room).cells ({ frames := 0, cells := 0, slots := 0, locals := 0 } : Room).slots
set_option maxRecDepth 65536 in
set_option maxHeartbeats 40000000 in
theorem rmeld_2_1 (l : Launch) (Z : State) (a0 : Array Value) (hw : ∀ d ∈ tables_1, d.before a0 Z = true) (ws : List Jvm.Cond) (a1 : Addr) (ed : Addr) (ke : ClassId) (s0 : Addr) (s1 : Addr) (h0 : Heap) (n0 : Nat) (Z0 : n0 ≤ h0.size) (F_elementData_a1 : Fld Z h0 a1 "java/util/ArrayList" "elementData" "[Ljava/lang/Object;" (.ref ed)) (V_ed : Arv Z h0 ed ke (.object "java/lang/Object") (10 : Int32) [(.ref s0), (.ref s1), .null, .null, .null, .null, .null, .null, .null, .null] .null) :
    MetFree l (⟨"java/util/ArrayList", "elementData", "(I)Ljava/lang/Object;"⟩ : MethodName) (head1 (Jvm.Cond.code (⟨"java/util/ArrayList", "elementData", "(I)Ljava/lang/Object;"⟩ : MethodName) jdk_38_method_18_code 2 (some (.object "java/lang/Object")) :: ws) ({ frames := 0, cells := 0, slots := 0, locals := 0 } : Room)) (fun a U => a = #[(.ref a1), (.int (1 : Int32))] ∧ Z.Warmed39 U.vm ∧ U.heap = h0) (fun _ _ _ _ _ => True) (fun _ U o U' => ∃ v L, o = .returned v ∧ Qeld_2_1 Z a1 ed ke s0 s1 h0 n0 v U'.heap L ∧ FrameEnd U o U' L ({ frames := 0, cells := 0, slots := 0, locals := 0 } : Room).cells ({ frames := 0, cells := 0, slots := 0, locals := 0 } : Room).slots) := by
  refine MetFree.of_bodySF (plainFor_of_name pn_java_util_ArrayList) hisR ?_
  intro p e s m args below meth c s₁ Bd hml0 hP hK
  obtain ⟨rfl, hZ, hh⟩ := hP
  have hx := Bd.exec
  have hby := Bd.bytes
  have hml : c.maxLocals = 2 := hml0
  have hown : s.vm.findClass "java/util/ArrayList" = some m.cls := findClass_of_methodNamed Bd.named
  have hnm := (name_of_methodNamed Bd.named Bd.method).1
  have X0 : Stand p l e ({ frames := 0, cells := 0, slots := 0, locals := 0 } : Room) s m #[(.ref a1), (.int (1 : Int32))] below meth c s₁ [] 0 0 := Stand.of_body Bd
  have e0 : s₁.heap = h0 := by rw [← hh, Bd.state]; rfl
  have es0 : s.heap = h0 := hh
  have N0 := Fr.nil n0
  show own_Fin p e below (Geld_2_1 Z a1 ed ke s0 s1 h0 n0 s) (s₁.setTop (entryFrame m #[(.ref a1), (.int (1 : Int32))] 2))
  rw [ef_eld_2_1 m a1 (1 : Int32)]
  refine own_go (XS.aloadN X0.here hx rfl (hb hby d20_0) rfl rfl (Steps.refl _)) ?_
  show own_Fin _ _ _ _ (s₁.setTop (mkF m 1 #[rv a1, iv (1 : Int32)] [(.ref a1)]))
  obtain ⟨T75, X75, e75, st75⟩ := getF X0 hx hZ hown (host := "") (Or.inl (hw _ (List.mem_of_getElem? (i := 24) rfl))) Via.refl e0 F_elementData_a1 (g := (mkF m 1 #[rv a1, iv (1 : Int32)] [(.ref a1)])) rfl rfl (hb hby d20_1)
  refine own_by st75 ?_
  show own_Fin _ _ _ _ (T75.setTop (mkF m 4 #[rv a1, iv (1 : Int32)] [(.ref ed)]))
  refine own_go (XS.iloadN X75.here hx rfl (hb hby d20_4) rfl (Steps.refl _)) ?_
  show own_Fin _ _ _ _ (T75.setTop (mkF m 5 #[rv a1, iv (1 : Int32)] [(.int (1 : Int32)), (.ref ed)]))
  obtain ⟨cl76, Ar76, qa76, Sa76, Na76, Ha76, Ga76⟩ := id V_ed
  have hin76 : ¬ ((1 : Int32) < 0 ∨ cl76.slots.size ≤ ((1 : Int32)).toNatClampNeg) := inb_of Sa76 ⟨by decide, by decide⟩
  have hat76 : cl76.slots[((1 : Int32)).toNatClampNeg]? = some (.ref s1) := Has.at Ha76 hin76 rfl
  refine own_by (X75.aaload hx (j := (1 : Int32)) (v := (.ref s1)) (by rw [e75]; exact Ar76.1) (State.isArrayOf_alike hZ.alike Ar76.2.1) rfl Ar76.2.2 hin76 hat76 (g := (mkF m 5 #[rv a1, iv (1 : Int32)] [(.int (1 : Int32)), (.ref ed)])) rfl rfl (hb hby d20_5)) ?_
  show own_Fin _ _ _ _ (T75.setTop (mkF m 6 #[rv a1, iv (1 : Int32)] [(.ref s1)]))
  obtain ⟨fs77, hr77, hrun77, hended77, hW77, hsame77⟩ := X75.leave (v := some (.ref s1)) (fun h => by rw [Bd.returns] at h; cases h)
  refine own_done (retOut X75 hx Bd.returns rfl (Or.inr (Or.inr (Or.inr (Or.inr ⟨rfl, rfl, rfl⟩)))) (hb hby d20_6) hr77) hrun77 hended77 ⟨_, _, rfl, ?_, ⟨_, rfl⟩, hW77, hsame77.mono (by decide) (by decide)⟩
  show Qeld_2_1 Z a1 ed ke s0 s1 h0 n0 _ T75.heap _
  rw [e75]
  exact ⟨rfl, N0, rfl⟩
theorem ef_get_2_1 (m : MethodId) (x0 : Addr) (x1 : Int32) : entryFrame m #[(.ref x0), (.int x1)] 2 = mkF m 0 #[.val (.ref x0), .val (.int x1)] [] := by first | (simp [entryFrame, mkF, argsToLocals, Value.category]; done) | rfl
def Qget_2_1 (Z : State) (a1 : Addr) (ed : Addr) (ke : ClassId) (s0 : Addr) (s1 : Addr) (h0 : Heap) (n0 : Nat) (v : Option Value) (h : Heap) (L : List Loc) : Prop := v = some (.ref s1) ∧ Fr n0 L ∧ h = h0
abbrev Gget_2_1 (Z : State) (a1 : Addr) (ed : Addr) (ke : ClassId) (s0 : Addr) (s1 : Addr) (h0 : Heap) (n0 : Nat) (s : State) : Outcome → State → Prop := fun o U' => ∃ v L, o = .returned v ∧ Qget_2_1 Z a1 ed ke s0 s1 h0 n0 v U'.heap L ∧ FrameEnd s o U' L ({ frames := 2, cells := 0, slots := 0, locals := 32 } : Room).cells ({ frames := 2, cells := 0, slots := 0, locals := 32 } : Room).slots
set_option maxRecDepth 65536 in
set_option maxHeartbeats 40000000 in
theorem rmget_2_1 (l : Launch) (Z : State) (a0 : Array Value) (hw : ∀ d ∈ tables_1, d.before a0 Z = true) (ws : List Jvm.Cond) (a1 : Addr) (ed : Addr) (ke : ClassId) (s0 : Addr) (s1 : Addr) (h0 : Heap) (n0 : Nat) (Z0 : n0 ≤ h0.size) (E_a1 : Exa Z h0 a1 "java/util/ArrayList") (F_size_a1 : Fld Z h0 a1 "java/util/ArrayList" "size" "I" (.int (2 : Int32))) (F_elementData_a1 : Fld Z h0 a1 "java/util/ArrayList" "elementData" "[Ljava/lang/Object;" (.ref ed)) (V_ed : Arv Z h0 ed ke (.object "java/lang/Object") (10 : Int32) [(.ref s0), (.ref s1), .null, .null, .null, .null, .null, .null, .null, .null] .null) :
    MetFree l (⟨"java/util/ArrayList", "get", "(I)Ljava/lang/Object;"⟩ : MethodName) (head1 (Jvm.Cond.code (⟨"java/util/ArrayList", "get", "(I)Ljava/lang/Object;"⟩ : MethodName) jdk_38_method_20_code 2 (some (.object "java/lang/Object")) :: ws) ({ frames := 2, cells := 0, slots := 0, locals := 32 } : Room)) (fun a U => a = #[(.ref a1), (.int (1 : Int32))] ∧ Z.Warmed39 U.vm ∧ U.heap = h0) (fun _ _ _ _ _ => True) (fun _ U o U' => ∃ v L, o = .returned v ∧ Qget_2_1 Z a1 ed ke s0 s1 h0 n0 v U'.heap L ∧ FrameEnd U o U' L ({ frames := 2, cells := 0, slots := 0, locals := 32 } : Room).cells ({ frames := 2, cells := 0, slots := 0, locals := 32 } : Room).slots) := by
  refine MetFree.of_bodySF (plainFor_of_name pn_java_util_ArrayList) hisR ?_
  intro p e s m args below meth c s₁ Bd hml0 hP hK
  obtain ⟨rfl, hZ, hh⟩ := hP
  have hx := Bd.exec
  have hby := Bd.bytes
  have hml : c.maxLocals = 2 := hml0
  have hown : s.vm.findClass "java/util/ArrayList" = some m.cls := findClass_of_methodNamed Bd.named
  have hnm := (name_of_methodNamed Bd.named Bd.method).1
  have X0 : Stand p l e ({ frames := 2, cells := 0, slots := 0, locals := 32 } : Room) s m #[(.ref a1), (.int (1 : Int32))] below meth c s₁ [] 0 0 := Stand.of_body Bd
  have e0 : s₁.heap = h0 := by rw [← hh, Bd.state]; rfl
  have es0 : s.heap = h0 := hh
  have N0 := Fr.nil n0
  show own_Fin p e below (Gget_2_1 Z a1 ed ke s0 s1 h0 n0 s) (s₁.setTop (entryFrame m #[(.ref a1), (.int (1 : Int32))] 2))
  rw [ef_get_2_1 m a1 (1 : Int32)]
  refine own_go (XS.iloadN X0.here hx rfl (hb hby d17_0) rfl (Steps.refl _)) ?_
  show own_Fin _ _ _ _ (s₁.setTop (mkF m 1 #[rv a1, iv (1 : Int32)] [(.int (1 : Int32))]))
  refine own_go (XS.aloadN X0.here hx rfl (hb hby d17_1) rfl rfl (Steps.refl _)) ?_
  show own_Fin _ _ _ _ (s₁.setTop (mkF m 2 #[rv a1, iv (1 : Int32)] [(.ref a1), (.int (1 : Int32))]))
  obtain ⟨T78, X78, e78, st78⟩ := getF X0 hx hZ hown (host := "") (Or.inl (hw _ (List.mem_of_getElem? (i := 42) rfl))) Via.refl e0 F_size_a1 (g := (mkF m 2 #[rv a1, iv (1 : Int32)] [(.ref a1), (.int (1 : Int32))])) rfl rfl (hb hby d17_2)
  refine own_by st78 ?_
  show own_Fin _ _ _ _ (T78.setTop (mkF m 5 #[rv a1, iv (1 : Int32)] [(.int (2 : Int32)), (.int (1 : Int32))]))
  obtain ⟨_, _, ⟨T79, L79, k79, n79⟩, -, X79, ⟨Lc79, hQ79, l79, y79, z79⟩, st79⟩ := Jvm.LawKit.callS X78 hx (y := (⟨"java/util/Objects", "checkIndex", "(II)I"⟩ : MethodName)) hown (mvT hZ (hw _ (List.mem_of_getElem? (i := 124) rfl))) (mvT hZ (hw _ (List.mem_of_getElem? (i := 125) rfl))) (mvT hZ (hw _ (List.mem_of_getElem? (i := 126) rfl))) (mvT hZ (hw _ (List.mem_of_getElem? (i := 127) rfl))) (by decide) (backOf (W := 0) (rmobj l Z a0 hw [] (1 : Int32) (2 : Int32) h0 n0 Z0 (by decide) (by decide)) hZ (hw _ (List.mem_of_getElem? (i := 127) rfl)) (hw _ (List.mem_of_getElem? (i := 126) rfl)) (by decide) (by decide)) (g := (mkF m 5 #[rv a1, iv (1 : Int32)] [(.int (2 : Int32)), (.int (1 : Int32))])) rfl (by rw [hml]; rfl) (argsL := [(.int (1 : Int32)), (.int (2 : Int32))]) (rest := []) (lenOf pd__28_II_29_I rfl) rfl (by show 2 * 0 + _ ≤ _; exact Nat.le_of_eq rfl) (hb hby d17_5) (fun _ _ => ⟨rfl, e78, (by decide : 0 + 0 ≤ _), (by decide : 0 + 0 ≤ _)⟩)
  dsimp only [Pt.U, Pt.locs, Pt.cells, Pt.slots] at X79 l79 y79 z79 st79 hQ79
  subst l79 y79 z79
  obtain ⟨rfl, Nq79, e79⟩ := hQ79
  refine own_by st79 ?_
  have N79 := Fr.app N0 Nq79
  show own_Fin _ _ _ _ (T79.setTop (mkF m 8 #[rv a1, iv (1 : Int32)] [(.int (1 : Int32))]))
  refine own_go (XS.pop X79.here hx rfl (hb hby d17_8) rfl rfl (Steps.refl _)) ?_
  show own_Fin _ _ _ _ (T79.setTop (mkF m 9 #[rv a1, iv (1 : Int32)] []))
  refine own_go (XS.aloadN X79.here hx rfl (hb hby d17_9) rfl rfl (Steps.refl _)) ?_
  show own_Fin _ _ _ _ (T79.setTop (mkF m 10 #[rv a1, iv (1 : Int32)] [(.ref a1)]))
  refine own_go (XS.iloadN X79.here hx rfl (hb hby d17_10) rfl (Steps.refl _)) ?_
  show own_Fin _ _ _ _ (T79.setTop (mkF m 11 #[rv a1, iv (1 : Int32)] [(.int (1 : Int32)), (.ref a1)]))
  obtain ⟨cq80, kq80, q80a, q80b, q80c⟩ := isOf hZ e79 E_a1
  obtain ⟨_, _, ⟨T80, L80, k80, n80⟩, -, X80, ⟨Lc80, hQ80, l80, y80, z80⟩, st80⟩ := X79.virtualBack hx (y := (⟨"java/util/ArrayList", "elementData", "(I)Ljava/lang/Object;"⟩ : MethodName)) (z := (⟨"java/util/ArrayList", "elementData", "(I)Ljava/lang/Object;"⟩ : MethodName)) hown (mvT hZ (hw _ (List.mem_of_getElem? (i := 132) rfl))) (mvT hZ (hw _ (List.mem_of_getElem? (i := 133) rfl))) (notFace_of_selects (args := #[]) (mvT hZ (hw _ (List.mem_of_getElem? (i := 135) rfl)))) (mvT hZ (hw _ (List.mem_of_getElem? (i := 135) rfl))) (mvT hZ (hw _ (List.mem_of_getElem? (i := 134) rfl))) (by decide) (backOf (W := 0) (rmeld_2_1 l Z a0 hw [] a1 ed ke s0 s1 h0 n0 Z0 F_elementData_a1 V_ed) hZ (hw _ (List.mem_of_getElem? (i := 136) rfl)) (hw _ (List.mem_of_getElem? (i := 2) rfl)) (by decide) (by decide)) q80a q80c (g := (mkF m 11 #[rv a1, iv (1 : Int32)] [(.int (1 : Int32)), (.ref a1)])) rfl (by rw [hml]; rfl) (Steps.refl _) (argsL := [(.int (1 : Int32))]) (rest := []) (lenOf pd__28_I_29_Ljava_2f_lang_2f_Object_3b_ rfl) rfl (by show 2 * 0 + _ ≤ _; exact Nat.le_of_eq rfl) (hb hby d17_11) (fun _ _ => ⟨rfl, e79, (by decide : 0 + 0 ≤ _), (by decide : 0 + 0 ≤ _)⟩)
  dsimp only [Pt.U, Pt.locs, Pt.cells, Pt.slots] at X80 l80 y80 z80 st80 hQ80
  subst l80 y80 z80
  obtain ⟨rfl, Nq80, e80⟩ := hQ80
  refine own_go st80 ?_
  have N80 := Fr.app N79 Nq80
  show own_Fin _ _ _ _ (T80.setTop (mkF m 14 #[rv a1, iv (1 : Int32)] [(.ref s1)]))
  obtain ⟨fs81, hr81, hrun81, hended81, hW81, hsame81⟩ := X80.leave (v := some (.ref s1)) (fun h => by rw [Bd.returns] at h; cases h)
  refine own_done (retOut X80 hx Bd.returns rfl (Or.inr (Or.inr (Or.inr (Or.inr ⟨rfl, rfl, rfl⟩)))) (hb hby d17_14) hr81) hrun81 hended81 ⟨_, _, rfl, ?_, ⟨_, rfl⟩, hW81, hsame81.mono (by decide) (by decide)⟩
  show Qget_2_1 Z a1 ed ke s0 s1 h0 n0 _ T80.heap _
  rw [e80]
  exact ⟨rfl, N80, rfl⟩
theorem ef_eld_3_0 (m : MethodId) (x0 : Addr) (x1 : Int32) : entryFrame m #[(.ref x0), (.int x1)] 2 = mkF m 0 #[.val (.ref x0), .val (.int x1)] [] := by first | (simp [entryFrame, mkF, argsToLocals, Value.category]; done) | rfl
def Qeld_3_0 (Z : State) (a1 : Addr) (ed : Addr) (ke : ClassId) (s0 : Addr) (s1 : Addr) (s2 : Addr) (h0 : Heap) (n0 : Nat) (v : Option Value) (h : Heap) (L : List Loc) : Prop := v = some (.ref s0) ∧ Fr n0 L ∧ h = h0
abbrev Geld_3_0 (Z : State) (a1 : Addr) (ed : Addr) (ke : ClassId) (s0 : Addr) (s1 : Addr) (s2 : Addr) (h0 : Heap) (n0 : Nat) (s : State) : Outcome → State → Prop := fun o U' => ∃ v L, o = .returned v ∧ Qeld_3_0 Z a1 ed ke s0 s1 s2 h0 n0 v U'.heap L ∧ FrameEnd s o U' L ({ frames := 0, cells := 0, slots := 0, locals := 0 } : Room).cells ({ frames := 0, cells := 0, slots := 0, locals := 0 } : Room).slots
set_option maxRecDepth 65536 in
set_option maxHeartbeats 40000000 in
theorem rmeld_3_0 (l : Launch) (Z : State) (a0 : Array Value) (hw : ∀ d ∈ tables_1, d.before a0 Z = true) (ws : List Jvm.Cond) (a1 : Addr) (ed : Addr) (ke : ClassId) (s0 : Addr) (s1 : Addr) (s2 : Addr) (h0 : Heap) (n0 : Nat) (Z0 : n0 ≤ h0.size) (F_elementData_a1 : Fld Z h0 a1 "java/util/ArrayList" "elementData" "[Ljava/lang/Object;" (.ref ed)) (V_ed : Arv Z h0 ed ke (.object "java/lang/Object") (10 : Int32) [(.ref s0), (.ref s1), (.ref s2), .null, .null, .null, .null, .null, .null, .null] .null) :
    MetFree l (⟨"java/util/ArrayList", "elementData", "(I)Ljava/lang/Object;"⟩ : MethodName) (head1 (Jvm.Cond.code (⟨"java/util/ArrayList", "elementData", "(I)Ljava/lang/Object;"⟩ : MethodName) jdk_38_method_18_code 2 (some (.object "java/lang/Object")) :: ws) ({ frames := 0, cells := 0, slots := 0, locals := 0 } : Room)) (fun a U => a = #[(.ref a1), (.int (0 : Int32))] ∧ Z.Warmed39 U.vm ∧ U.heap = h0) (fun _ _ _ _ _ => True) (fun _ U o U' => ∃ v L, o = .returned v ∧ Qeld_3_0 Z a1 ed ke s0 s1 s2 h0 n0 v U'.heap L ∧ FrameEnd U o U' L ({ frames := 0, cells := 0, slots := 0, locals := 0 } : Room).cells ({ frames := 0, cells := 0, slots := 0, locals := 0 } : Room).slots) := by
  refine MetFree.of_bodySF (plainFor_of_name pn_java_util_ArrayList) hisR ?_
  intro p e s m args below meth c s₁ Bd hml0 hP hK
  obtain ⟨rfl, hZ, hh⟩ := hP
  have hx := Bd.exec
  have hby := Bd.bytes
  have hml : c.maxLocals = 2 := hml0
  have hown : s.vm.findClass "java/util/ArrayList" = some m.cls := findClass_of_methodNamed Bd.named
  have hnm := (name_of_methodNamed Bd.named Bd.method).1
  have X0 : Stand p l e ({ frames := 0, cells := 0, slots := 0, locals := 0 } : Room) s m #[(.ref a1), (.int (0 : Int32))] below meth c s₁ [] 0 0 := Stand.of_body Bd
  have e0 : s₁.heap = h0 := by rw [← hh, Bd.state]; rfl
  have es0 : s.heap = h0 := hh
  have N0 := Fr.nil n0
  show own_Fin p e below (Geld_3_0 Z a1 ed ke s0 s1 s2 h0 n0 s) (s₁.setTop (entryFrame m #[(.ref a1), (.int (0 : Int32))] 2))
  rw [ef_eld_3_0 m a1 (0 : Int32)]
  refine own_go (XS.aloadN X0.here hx rfl (hb hby d20_0) rfl rfl (Steps.refl _)) ?_
  show own_Fin _ _ _ _ (s₁.setTop (mkF m 1 #[rv a1, iv (0 : Int32)] [(.ref a1)]))
  obtain ⟨T82, X82, e82, st82⟩ := getF X0 hx hZ hown (host := "") (Or.inl (hw _ (List.mem_of_getElem? (i := 24) rfl))) Via.refl e0 F_elementData_a1 (g := (mkF m 1 #[rv a1, iv (0 : Int32)] [(.ref a1)])) rfl rfl (hb hby d20_1)
  refine own_by st82 ?_
  show own_Fin _ _ _ _ (T82.setTop (mkF m 4 #[rv a1, iv (0 : Int32)] [(.ref ed)]))
  refine own_go (XS.iloadN X82.here hx rfl (hb hby d20_4) rfl (Steps.refl _)) ?_
  show own_Fin _ _ _ _ (T82.setTop (mkF m 5 #[rv a1, iv (0 : Int32)] [(.int (0 : Int32)), (.ref ed)]))
  obtain ⟨cl83, Ar83, qa83, Sa83, Na83, Ha83, Ga83⟩ := id V_ed
  have hin83 : ¬ ((0 : Int32) < 0 ∨ cl83.slots.size ≤ ((0 : Int32)).toNatClampNeg) := inb_of Sa83 ⟨by decide, by decide⟩
  have hat83 : cl83.slots[((0 : Int32)).toNatClampNeg]? = some (.ref s0) := Has.at Ha83 hin83 rfl
  refine own_by (X82.aaload hx (j := (0 : Int32)) (v := (.ref s0)) (by rw [e82]; exact Ar83.1) (State.isArrayOf_alike hZ.alike Ar83.2.1) rfl Ar83.2.2 hin83 hat83 (g := (mkF m 5 #[rv a1, iv (0 : Int32)] [(.int (0 : Int32)), (.ref ed)])) rfl rfl (hb hby d20_5)) ?_
  show own_Fin _ _ _ _ (T82.setTop (mkF m 6 #[rv a1, iv (0 : Int32)] [(.ref s0)]))
  obtain ⟨fs84, hr84, hrun84, hended84, hW84, hsame84⟩ := X82.leave (v := some (.ref s0)) (fun h => by rw [Bd.returns] at h; cases h)
  refine own_done (retOut X82 hx Bd.returns rfl (Or.inr (Or.inr (Or.inr (Or.inr ⟨rfl, rfl, rfl⟩)))) (hb hby d20_6) hr84) hrun84 hended84 ⟨_, _, rfl, ?_, ⟨_, rfl⟩, hW84, hsame84.mono (by decide) (by decide)⟩
  show Qeld_3_0 Z a1 ed ke s0 s1 s2 h0 n0 _ T82.heap _
  rw [e82]
  exact ⟨rfl, N0, rfl⟩
theorem ef_get_3_0 (m : MethodId) (x0 : Addr) (x1 : Int32) : entryFrame m #[(.ref x0), (.int x1)] 2 = mkF m 0 #[.val (.ref x0), .val (.int x1)] [] := by first | (simp [entryFrame, mkF, argsToLocals, Value.category]; done) | rfl
def Qget_3_0 (Z : State) (a1 : Addr) (ed : Addr) (ke : ClassId) (s0 : Addr) (s1 : Addr) (s2 : Addr) (h0 : Heap) (n0 : Nat) (v : Option Value) (h : Heap) (L : List Loc) : Prop := v = some (.ref s0) ∧ Fr n0 L ∧ h = h0
abbrev Gget_3_0 (Z : State) (a1 : Addr) (ed : Addr) (ke : ClassId) (s0 : Addr) (s1 : Addr) (s2 : Addr) (h0 : Heap) (n0 : Nat) (s : State) : Outcome → State → Prop := fun o U' => ∃ v L, o = .returned v ∧ Qget_3_0 Z a1 ed ke s0 s1 s2 h0 n0 v U'.heap L ∧ FrameEnd s o U' L ({ frames := 2, cells := 0, slots := 0, locals := 32 } : Room).cells ({ frames := 2, cells := 0, slots := 0, locals := 32 } : Room).slots
set_option maxRecDepth 65536 in
set_option maxHeartbeats 40000000 in
theorem rmget_3_0 (l : Launch) (Z : State) (a0 : Array Value) (hw : ∀ d ∈ tables_1, d.before a0 Z = true) (ws : List Jvm.Cond) (a1 : Addr) (ed : Addr) (ke : ClassId) (s0 : Addr) (s1 : Addr) (s2 : Addr) (h0 : Heap) (n0 : Nat) (Z0 : n0 ≤ h0.size) (E_a1 : Exa Z h0 a1 "java/util/ArrayList") (F_size_a1 : Fld Z h0 a1 "java/util/ArrayList" "size" "I" (.int (3 : Int32))) (F_elementData_a1 : Fld Z h0 a1 "java/util/ArrayList" "elementData" "[Ljava/lang/Object;" (.ref ed)) (V_ed : Arv Z h0 ed ke (.object "java/lang/Object") (10 : Int32) [(.ref s0), (.ref s1), (.ref s2), .null, .null, .null, .null, .null, .null, .null] .null) :
    MetFree l (⟨"java/util/ArrayList", "get", "(I)Ljava/lang/Object;"⟩ : MethodName) (head1 (Jvm.Cond.code (⟨"java/util/ArrayList", "get", "(I)Ljava/lang/Object;"⟩ : MethodName) jdk_38_method_20_code 2 (some (.object "java/lang/Object")) :: ws) ({ frames := 2, cells := 0, slots := 0, locals := 32 } : Room)) (fun a U => a = #[(.ref a1), (.int (0 : Int32))] ∧ Z.Warmed39 U.vm ∧ U.heap = h0) (fun _ _ _ _ _ => True) (fun _ U o U' => ∃ v L, o = .returned v ∧ Qget_3_0 Z a1 ed ke s0 s1 s2 h0 n0 v U'.heap L ∧ FrameEnd U o U' L ({ frames := 2, cells := 0, slots := 0, locals := 32 } : Room).cells ({ frames := 2, cells := 0, slots := 0, locals := 32 } : Room).slots) := by
  refine MetFree.of_bodySF (plainFor_of_name pn_java_util_ArrayList) hisR ?_
  intro p e s m args below meth c s₁ Bd hml0 hP hK
  obtain ⟨rfl, hZ, hh⟩ := hP
  have hx := Bd.exec
  have hby := Bd.bytes
  have hml : c.maxLocals = 2 := hml0
  have hown : s.vm.findClass "java/util/ArrayList" = some m.cls := findClass_of_methodNamed Bd.named
  have hnm := (name_of_methodNamed Bd.named Bd.method).1
  have X0 : Stand p l e ({ frames := 2, cells := 0, slots := 0, locals := 32 } : Room) s m #[(.ref a1), (.int (0 : Int32))] below meth c s₁ [] 0 0 := Stand.of_body Bd
  have e0 : s₁.heap = h0 := by rw [← hh, Bd.state]; rfl
  have es0 : s.heap = h0 := hh
  have N0 := Fr.nil n0
  show own_Fin p e below (Gget_3_0 Z a1 ed ke s0 s1 s2 h0 n0 s) (s₁.setTop (entryFrame m #[(.ref a1), (.int (0 : Int32))] 2))
  rw [ef_get_3_0 m a1 (0 : Int32)]
  refine own_go (XS.iloadN X0.here hx rfl (hb hby d17_0) rfl (Steps.refl _)) ?_
  show own_Fin _ _ _ _ (s₁.setTop (mkF m 1 #[rv a1, iv (0 : Int32)] [(.int (0 : Int32))]))
  refine own_go (XS.aloadN X0.here hx rfl (hb hby d17_1) rfl rfl (Steps.refl _)) ?_
  show own_Fin _ _ _ _ (s₁.setTop (mkF m 2 #[rv a1, iv (0 : Int32)] [(.ref a1), (.int (0 : Int32))]))
  obtain ⟨T85, X85, e85, st85⟩ := getF X0 hx hZ hown (host := "") (Or.inl (hw _ (List.mem_of_getElem? (i := 42) rfl))) Via.refl e0 F_size_a1 (g := (mkF m 2 #[rv a1, iv (0 : Int32)] [(.ref a1), (.int (0 : Int32))])) rfl rfl (hb hby d17_2)
  refine own_by st85 ?_
  show own_Fin _ _ _ _ (T85.setTop (mkF m 5 #[rv a1, iv (0 : Int32)] [(.int (3 : Int32)), (.int (0 : Int32))]))
  obtain ⟨_, _, ⟨T86, L86, k86, n86⟩, -, X86, ⟨Lc86, hQ86, l86, y86, z86⟩, st86⟩ := Jvm.LawKit.callS X85 hx (y := (⟨"java/util/Objects", "checkIndex", "(II)I"⟩ : MethodName)) hown (mvT hZ (hw _ (List.mem_of_getElem? (i := 124) rfl))) (mvT hZ (hw _ (List.mem_of_getElem? (i := 125) rfl))) (mvT hZ (hw _ (List.mem_of_getElem? (i := 126) rfl))) (mvT hZ (hw _ (List.mem_of_getElem? (i := 127) rfl))) (by decide) (backOf (W := 0) (rmobj l Z a0 hw [] (0 : Int32) (3 : Int32) h0 n0 Z0 (by decide) (by decide)) hZ (hw _ (List.mem_of_getElem? (i := 127) rfl)) (hw _ (List.mem_of_getElem? (i := 126) rfl)) (by decide) (by decide)) (g := (mkF m 5 #[rv a1, iv (0 : Int32)] [(.int (3 : Int32)), (.int (0 : Int32))])) rfl (by rw [hml]; rfl) (argsL := [(.int (0 : Int32)), (.int (3 : Int32))]) (rest := []) (lenOf pd__28_II_29_I rfl) rfl (by show 2 * 0 + _ ≤ _; exact Nat.le_of_eq rfl) (hb hby d17_5) (fun _ _ => ⟨rfl, e85, (by decide : 0 + 0 ≤ _), (by decide : 0 + 0 ≤ _)⟩)
  dsimp only [Pt.U, Pt.locs, Pt.cells, Pt.slots] at X86 l86 y86 z86 st86 hQ86
  subst l86 y86 z86
  obtain ⟨rfl, Nq86, e86⟩ := hQ86
  refine own_by st86 ?_
  have N86 := Fr.app N0 Nq86
  show own_Fin _ _ _ _ (T86.setTop (mkF m 8 #[rv a1, iv (0 : Int32)] [(.int (0 : Int32))]))
  refine own_go (XS.pop X86.here hx rfl (hb hby d17_8) rfl rfl (Steps.refl _)) ?_
  show own_Fin _ _ _ _ (T86.setTop (mkF m 9 #[rv a1, iv (0 : Int32)] []))
  refine own_go (XS.aloadN X86.here hx rfl (hb hby d17_9) rfl rfl (Steps.refl _)) ?_
  show own_Fin _ _ _ _ (T86.setTop (mkF m 10 #[rv a1, iv (0 : Int32)] [(.ref a1)]))
  refine own_go (XS.iloadN X86.here hx rfl (hb hby d17_10) rfl (Steps.refl _)) ?_
  show own_Fin _ _ _ _ (T86.setTop (mkF m 11 #[rv a1, iv (0 : Int32)] [(.int (0 : Int32)), (.ref a1)]))
  obtain ⟨cq87, kq87, q87a, q87b, q87c⟩ := isOf hZ e86 E_a1
  obtain ⟨_, _, ⟨T87, L87, k87, n87⟩, -, X87, ⟨Lc87, hQ87, l87, y87, z87⟩, st87⟩ := X86.virtualBack hx (y := (⟨"java/util/ArrayList", "elementData", "(I)Ljava/lang/Object;"⟩ : MethodName)) (z := (⟨"java/util/ArrayList", "elementData", "(I)Ljava/lang/Object;"⟩ : MethodName)) hown (mvT hZ (hw _ (List.mem_of_getElem? (i := 132) rfl))) (mvT hZ (hw _ (List.mem_of_getElem? (i := 133) rfl))) (notFace_of_selects (args := #[]) (mvT hZ (hw _ (List.mem_of_getElem? (i := 135) rfl)))) (mvT hZ (hw _ (List.mem_of_getElem? (i := 135) rfl))) (mvT hZ (hw _ (List.mem_of_getElem? (i := 134) rfl))) (by decide) (backOf (W := 0) (rmeld_3_0 l Z a0 hw [] a1 ed ke s0 s1 s2 h0 n0 Z0 F_elementData_a1 V_ed) hZ (hw _ (List.mem_of_getElem? (i := 136) rfl)) (hw _ (List.mem_of_getElem? (i := 2) rfl)) (by decide) (by decide)) q87a q87c (g := (mkF m 11 #[rv a1, iv (0 : Int32)] [(.int (0 : Int32)), (.ref a1)])) rfl (by rw [hml]; rfl) (Steps.refl _) (argsL := [(.int (0 : Int32))]) (rest := []) (lenOf pd__28_I_29_Ljava_2f_lang_2f_Object_3b_ rfl) rfl (by show 2 * 0 + _ ≤ _; exact Nat.le_of_eq rfl) (hb hby d17_11) (fun _ _ => ⟨rfl, e86, (by decide : 0 + 0 ≤ _), (by decide : 0 + 0 ≤ _)⟩)
  dsimp only [Pt.U, Pt.locs, Pt.cells, Pt.slots] at X87 l87 y87 z87 st87 hQ87
  subst l87 y87 z87
  obtain ⟨rfl, Nq87, e87⟩ := hQ87
  refine own_go st87 ?_
  have N87 := Fr.app N86 Nq87
  show own_Fin _ _ _ _ (T87.setTop (mkF m 14 #[rv a1, iv (0 : Int32)] [(.ref s0)]))
  obtain ⟨fs88, hr88, hrun88, hended88, hW88, hsame88⟩ := X87.leave (v := some (.ref s0)) (fun h => by rw [Bd.returns] at h; cases h)
  refine own_done (retOut X87 hx Bd.returns rfl (Or.inr (Or.inr (Or.inr (Or.inr ⟨rfl, rfl, rfl⟩)))) (hb hby d17_14) hr88) hrun88 hended88 ⟨_, _, rfl, ?_, ⟨_, rfl⟩, hW88, hsame88.mono (by decide) (by decide)⟩
  show Qget_3_0 Z a1 ed ke s0 s1 s2 h0 n0 _ T87.heap _
  rw [e87]
  exact ⟨rfl, N87, rfl⟩
theorem ef_eld_3_1 (m : MethodId) (x0 : Addr) (x1 : Int32) : entryFrame m #[(.ref x0), (.int x1)] 2 = mkF m 0 #[.val (.ref x0), .val (.int x1)] [] := by first | (simp [entryFrame, mkF, argsToLocals, Value.category]; done) | rfl
def Qeld_3_1 (Z : State) (a1 : Addr) (ed : Addr) (ke : ClassId) (s0 : Addr) (s1 : Addr) (s2 : Addr) (h0 : Heap) (n0 : Nat) (v : Option Value) (h : Heap) (L : List Loc) : Prop := v = some (.ref s1) ∧ Fr n0 L ∧ h = h0
abbrev Geld_3_1 (Z : State) (a1 : Addr) (ed : Addr) (ke : ClassId) (s0 : Addr) (s1 : Addr) (s2 : Addr) (h0 : Heap) (n0 : Nat) (s : State) : Outcome → State → Prop := fun o U' => ∃ v L, o = .returned v ∧ Qeld_3_1 Z a1 ed ke s0 s1 s2 h0 n0 v U'.heap L ∧ FrameEnd s o U' L ({ frames := 0, cells := 0, slots := 0, locals := 0 } : Room).cells ({ frames := 0, cells := 0, slots := 0, locals := 0 } : Room).slots
set_option maxRecDepth 65536 in
set_option maxHeartbeats 40000000 in
theorem rmeld_3_1 (l : Launch) (Z : State) (a0 : Array Value) (hw : ∀ d ∈ tables_1, d.before a0 Z = true) (ws : List Jvm.Cond) (a1 : Addr) (ed : Addr) (ke : ClassId) (s0 : Addr) (s1 : Addr) (s2 : Addr) (h0 : Heap) (n0 : Nat) (Z0 : n0 ≤ h0.size) (F_elementData_a1 : Fld Z h0 a1 "java/util/ArrayList" "elementData" "[Ljava/lang/Object;" (.ref ed)) (V_ed : Arv Z h0 ed ke (.object "java/lang/Object") (10 : Int32) [(.ref s0), (.ref s1), (.ref s2), .null, .null, .null, .null, .null, .null, .null] .null) :
    MetFree l (⟨"java/util/ArrayList", "elementData", "(I)Ljava/lang/Object;"⟩ : MethodName) (head1 (Jvm.Cond.code (⟨"java/util/ArrayList", "elementData", "(I)Ljava/lang/Object;"⟩ : MethodName) jdk_38_method_18_code 2 (some (.object "java/lang/Object")) :: ws) ({ frames := 0, cells := 0, slots := 0, locals := 0 } : Room)) (fun a U => a = #[(.ref a1), (.int (1 : Int32))] ∧ Z.Warmed39 U.vm ∧ U.heap = h0) (fun _ _ _ _ _ => True) (fun _ U o U' => ∃ v L, o = .returned v ∧ Qeld_3_1 Z a1 ed ke s0 s1 s2 h0 n0 v U'.heap L ∧ FrameEnd U o U' L ({ frames := 0, cells := 0, slots := 0, locals := 0 } : Room).cells ({ frames := 0, cells := 0, slots := 0, locals := 0 } : Room).slots) := by
  refine MetFree.of_bodySF (plainFor_of_name pn_java_util_ArrayList) hisR ?_
  intro p e s m args below meth c s₁ Bd hml0 hP hK
  obtain ⟨rfl, hZ, hh⟩ := hP
  have hx := Bd.exec
  have hby := Bd.bytes
  have hml : c.maxLocals = 2 := hml0
  have hown : s.vm.findClass "java/util/ArrayList" = some m.cls := findClass_of_methodNamed Bd.named
  have hnm := (name_of_methodNamed Bd.named Bd.method).1
  have X0 : Stand p l e ({ frames := 0, cells := 0, slots := 0, locals := 0 } : Room) s m #[(.ref a1), (.int (1 : Int32))] below meth c s₁ [] 0 0 := Stand.of_body Bd
  have e0 : s₁.heap = h0 := by rw [← hh, Bd.state]; rfl
  have es0 : s.heap = h0 := hh
  have N0 := Fr.nil n0
  show own_Fin p e below (Geld_3_1 Z a1 ed ke s0 s1 s2 h0 n0 s) (s₁.setTop (entryFrame m #[(.ref a1), (.int (1 : Int32))] 2))
  rw [ef_eld_3_1 m a1 (1 : Int32)]
  refine own_go (XS.aloadN X0.here hx rfl (hb hby d20_0) rfl rfl (Steps.refl _)) ?_
  show own_Fin _ _ _ _ (s₁.setTop (mkF m 1 #[rv a1, iv (1 : Int32)] [(.ref a1)]))
  obtain ⟨T89, X89, e89, st89⟩ := getF X0 hx hZ hown (host := "") (Or.inl (hw _ (List.mem_of_getElem? (i := 24) rfl))) Via.refl e0 F_elementData_a1 (g := (mkF m 1 #[rv a1, iv (1 : Int32)] [(.ref a1)])) rfl rfl (hb hby d20_1)
  refine own_by st89 ?_
  show own_Fin _ _ _ _ (T89.setTop (mkF m 4 #[rv a1, iv (1 : Int32)] [(.ref ed)]))
  refine own_go (XS.iloadN X89.here hx rfl (hb hby d20_4) rfl (Steps.refl _)) ?_
  show own_Fin _ _ _ _ (T89.setTop (mkF m 5 #[rv a1, iv (1 : Int32)] [(.int (1 : Int32)), (.ref ed)]))
  obtain ⟨cl90, Ar90, qa90, Sa90, Na90, Ha90, Ga90⟩ := id V_ed
  have hin90 : ¬ ((1 : Int32) < 0 ∨ cl90.slots.size ≤ ((1 : Int32)).toNatClampNeg) := inb_of Sa90 ⟨by decide, by decide⟩
  have hat90 : cl90.slots[((1 : Int32)).toNatClampNeg]? = some (.ref s1) := Has.at Ha90 hin90 rfl
  refine own_by (X89.aaload hx (j := (1 : Int32)) (v := (.ref s1)) (by rw [e89]; exact Ar90.1) (State.isArrayOf_alike hZ.alike Ar90.2.1) rfl Ar90.2.2 hin90 hat90 (g := (mkF m 5 #[rv a1, iv (1 : Int32)] [(.int (1 : Int32)), (.ref ed)])) rfl rfl (hb hby d20_5)) ?_
  show own_Fin _ _ _ _ (T89.setTop (mkF m 6 #[rv a1, iv (1 : Int32)] [(.ref s1)]))
  obtain ⟨fs91, hr91, hrun91, hended91, hW91, hsame91⟩ := X89.leave (v := some (.ref s1)) (fun h => by rw [Bd.returns] at h; cases h)
  refine own_done (retOut X89 hx Bd.returns rfl (Or.inr (Or.inr (Or.inr (Or.inr ⟨rfl, rfl, rfl⟩)))) (hb hby d20_6) hr91) hrun91 hended91 ⟨_, _, rfl, ?_, ⟨_, rfl⟩, hW91, hsame91.mono (by decide) (by decide)⟩
  show Qeld_3_1 Z a1 ed ke s0 s1 s2 h0 n0 _ T89.heap _
  rw [e89]
  exact ⟨rfl, N0, rfl⟩
theorem ef_get_3_1 (m : MethodId) (x0 : Addr) (x1 : Int32) : entryFrame m #[(.ref x0), (.int x1)] 2 = mkF m 0 #[.val (.ref x0), .val (.int x1)] [] := by first | (simp [entryFrame, mkF, argsToLocals, Value.category]; done) | rfl
def Qget_3_1 (Z : State) (a1 : Addr) (ed : Addr) (ke : ClassId) (s0 : Addr) (s1 : Addr) (s2 : Addr) (h0 : Heap) (n0 : Nat) (v : Option Value) (h : Heap) (L : List Loc) : Prop := v = some (.ref s1) ∧ Fr n0 L ∧ h = h0
abbrev Gget_3_1 (Z : State) (a1 : Addr) (ed : Addr) (ke : ClassId) (s0 : Addr) (s1 : Addr) (s2 : Addr) (h0 : Heap) (n0 : Nat) (s : State) : Outcome → State → Prop := fun o U' => ∃ v L, o = .returned v ∧ Qget_3_1 Z a1 ed ke s0 s1 s2 h0 n0 v U'.heap L ∧ FrameEnd s o U' L ({ frames := 2, cells := 0, slots := 0, locals := 32 } : Room).cells ({ frames := 2, cells := 0, slots := 0, locals := 32 } : Room).slots
set_option maxRecDepth 65536 in
set_option maxHeartbeats 40000000 in
theorem rmget_3_1 (l : Launch) (Z : State) (a0 : Array Value) (hw : ∀ d ∈ tables_1, d.before a0 Z = true) (ws : List Jvm.Cond) (a1 : Addr) (ed : Addr) (ke : ClassId) (s0 : Addr) (s1 : Addr) (s2 : Addr) (h0 : Heap) (n0 : Nat) (Z0 : n0 ≤ h0.size) (E_a1 : Exa Z h0 a1 "java/util/ArrayList") (F_size_a1 : Fld Z h0 a1 "java/util/ArrayList" "size" "I" (.int (3 : Int32))) (F_elementData_a1 : Fld Z h0 a1 "java/util/ArrayList" "elementData" "[Ljava/lang/Object;" (.ref ed)) (V_ed : Arv Z h0 ed ke (.object "java/lang/Object") (10 : Int32) [(.ref s0), (.ref s1), (.ref s2), .null, .null, .null, .null, .null, .null, .null] .null) :
    MetFree l (⟨"java/util/ArrayList", "get", "(I)Ljava/lang/Object;"⟩ : MethodName) (head1 (Jvm.Cond.code (⟨"java/util/ArrayList", "get", "(I)Ljava/lang/Object;"⟩ : MethodName) jdk_38_method_20_code 2 (some (.object "java/lang/Object")) :: ws) ({ frames := 2, cells := 0, slots := 0, locals := 32 } : Room)) (fun a U => a = #[(.ref a1), (.int (1 : Int32))] ∧ Z.Warmed39 U.vm ∧ U.heap = h0) (fun _ _ _ _ _ => True) (fun _ U o U' => ∃ v L, o = .returned v ∧ Qget_3_1 Z a1 ed ke s0 s1 s2 h0 n0 v U'.heap L ∧ FrameEnd U o U' L ({ frames := 2, cells := 0, slots := 0, locals := 32 } : Room).cells ({ frames := 2, cells := 0, slots := 0, locals := 32 } : Room).slots) := by
  refine MetFree.of_bodySF (plainFor_of_name pn_java_util_ArrayList) hisR ?_
  intro p e s m args below meth c s₁ Bd hml0 hP hK
  obtain ⟨rfl, hZ, hh⟩ := hP
  have hx := Bd.exec
  have hby := Bd.bytes
  have hml : c.maxLocals = 2 := hml0
  have hown : s.vm.findClass "java/util/ArrayList" = some m.cls := findClass_of_methodNamed Bd.named
  have hnm := (name_of_methodNamed Bd.named Bd.method).1
  have X0 : Stand p l e ({ frames := 2, cells := 0, slots := 0, locals := 32 } : Room) s m #[(.ref a1), (.int (1 : Int32))] below meth c s₁ [] 0 0 := Stand.of_body Bd
  have e0 : s₁.heap = h0 := by rw [← hh, Bd.state]; rfl
  have es0 : s.heap = h0 := hh
  have N0 := Fr.nil n0
  show own_Fin p e below (Gget_3_1 Z a1 ed ke s0 s1 s2 h0 n0 s) (s₁.setTop (entryFrame m #[(.ref a1), (.int (1 : Int32))] 2))
  rw [ef_get_3_1 m a1 (1 : Int32)]
  refine own_go (XS.iloadN X0.here hx rfl (hb hby d17_0) rfl (Steps.refl _)) ?_
  show own_Fin _ _ _ _ (s₁.setTop (mkF m 1 #[rv a1, iv (1 : Int32)] [(.int (1 : Int32))]))
  refine own_go (XS.aloadN X0.here hx rfl (hb hby d17_1) rfl rfl (Steps.refl _)) ?_
  show own_Fin _ _ _ _ (s₁.setTop (mkF m 2 #[rv a1, iv (1 : Int32)] [(.ref a1), (.int (1 : Int32))]))
  obtain ⟨T92, X92, e92, st92⟩ := getF X0 hx hZ hown (host := "") (Or.inl (hw _ (List.mem_of_getElem? (i := 42) rfl))) Via.refl e0 F_size_a1 (g := (mkF m 2 #[rv a1, iv (1 : Int32)] [(.ref a1), (.int (1 : Int32))])) rfl rfl (hb hby d17_2)
  refine own_by st92 ?_
  show own_Fin _ _ _ _ (T92.setTop (mkF m 5 #[rv a1, iv (1 : Int32)] [(.int (3 : Int32)), (.int (1 : Int32))]))
  obtain ⟨_, _, ⟨T93, L93, k93, n93⟩, -, X93, ⟨Lc93, hQ93, l93, y93, z93⟩, st93⟩ := Jvm.LawKit.callS X92 hx (y := (⟨"java/util/Objects", "checkIndex", "(II)I"⟩ : MethodName)) hown (mvT hZ (hw _ (List.mem_of_getElem? (i := 124) rfl))) (mvT hZ (hw _ (List.mem_of_getElem? (i := 125) rfl))) (mvT hZ (hw _ (List.mem_of_getElem? (i := 126) rfl))) (mvT hZ (hw _ (List.mem_of_getElem? (i := 127) rfl))) (by decide) (backOf (W := 0) (rmobj l Z a0 hw [] (1 : Int32) (3 : Int32) h0 n0 Z0 (by decide) (by decide)) hZ (hw _ (List.mem_of_getElem? (i := 127) rfl)) (hw _ (List.mem_of_getElem? (i := 126) rfl)) (by decide) (by decide)) (g := (mkF m 5 #[rv a1, iv (1 : Int32)] [(.int (3 : Int32)), (.int (1 : Int32))])) rfl (by rw [hml]; rfl) (argsL := [(.int (1 : Int32)), (.int (3 : Int32))]) (rest := []) (lenOf pd__28_II_29_I rfl) rfl (by show 2 * 0 + _ ≤ _; exact Nat.le_of_eq rfl) (hb hby d17_5) (fun _ _ => ⟨rfl, e92, (by decide : 0 + 0 ≤ _), (by decide : 0 + 0 ≤ _)⟩)
  dsimp only [Pt.U, Pt.locs, Pt.cells, Pt.slots] at X93 l93 y93 z93 st93 hQ93
  subst l93 y93 z93
  obtain ⟨rfl, Nq93, e93⟩ := hQ93
  refine own_by st93 ?_
  have N93 := Fr.app N0 Nq93
  show own_Fin _ _ _ _ (T93.setTop (mkF m 8 #[rv a1, iv (1 : Int32)] [(.int (1 : Int32))]))
  refine own_go (XS.pop X93.here hx rfl (hb hby d17_8) rfl rfl (Steps.refl _)) ?_
  show own_Fin _ _ _ _ (T93.setTop (mkF m 9 #[rv a1, iv (1 : Int32)] []))
  refine own_go (XS.aloadN X93.here hx rfl (hb hby d17_9) rfl rfl (Steps.refl _)) ?_
  show own_Fin _ _ _ _ (T93.setTop (mkF m 10 #[rv a1, iv (1 : Int32)] [(.ref a1)]))
  refine own_go (XS.iloadN X93.here hx rfl (hb hby d17_10) rfl (Steps.refl _)) ?_
  show own_Fin _ _ _ _ (T93.setTop (mkF m 11 #[rv a1, iv (1 : Int32)] [(.int (1 : Int32)), (.ref a1)]))
  obtain ⟨cq94, kq94, q94a, q94b, q94c⟩ := isOf hZ e93 E_a1
  obtain ⟨_, _, ⟨T94, L94, k94, n94⟩, -, X94, ⟨Lc94, hQ94, l94, y94, z94⟩, st94⟩ := X93.virtualBack hx (y := (⟨"java/util/ArrayList", "elementData", "(I)Ljava/lang/Object;"⟩ : MethodName)) (z := (⟨"java/util/ArrayList", "elementData", "(I)Ljava/lang/Object;"⟩ : MethodName)) hown (mvT hZ (hw _ (List.mem_of_getElem? (i := 132) rfl))) (mvT hZ (hw _ (List.mem_of_getElem? (i := 133) rfl))) (notFace_of_selects (args := #[]) (mvT hZ (hw _ (List.mem_of_getElem? (i := 135) rfl)))) (mvT hZ (hw _ (List.mem_of_getElem? (i := 135) rfl))) (mvT hZ (hw _ (List.mem_of_getElem? (i := 134) rfl))) (by decide) (backOf (W := 0) (rmeld_3_1 l Z a0 hw [] a1 ed ke s0 s1 s2 h0 n0 Z0 F_elementData_a1 V_ed) hZ (hw _ (List.mem_of_getElem? (i := 136) rfl)) (hw _ (List.mem_of_getElem? (i := 2) rfl)) (by decide) (by decide)) q94a q94c (g := (mkF m 11 #[rv a1, iv (1 : Int32)] [(.int (1 : Int32)), (.ref a1)])) rfl (by rw [hml]; rfl) (Steps.refl _) (argsL := [(.int (1 : Int32))]) (rest := []) (lenOf pd__28_I_29_Ljava_2f_lang_2f_Object_3b_ rfl) rfl (by show 2 * 0 + _ ≤ _; exact Nat.le_of_eq rfl) (hb hby d17_11) (fun _ _ => ⟨rfl, e93, (by decide : 0 + 0 ≤ _), (by decide : 0 + 0 ≤ _)⟩)
  dsimp only [Pt.U, Pt.locs, Pt.cells, Pt.slots] at X94 l94 y94 z94 st94 hQ94
  subst l94 y94 z94
  obtain ⟨rfl, Nq94, e94⟩ := hQ94
  refine own_go st94 ?_
  have N94 := Fr.app N93 Nq94
  show own_Fin _ _ _ _ (T94.setTop (mkF m 14 #[rv a1, iv (1 : Int32)] [(.ref s1)]))
  obtain ⟨fs95, hr95, hrun95, hended95, hW95, hsame95⟩ := X94.leave (v := some (.ref s1)) (fun h => by rw [Bd.returns] at h; cases h)
  refine own_done (retOut X94 hx Bd.returns rfl (Or.inr (Or.inr (Or.inr (Or.inr ⟨rfl, rfl, rfl⟩)))) (hb hby d17_14) hr95) hrun95 hended95 ⟨_, _, rfl, ?_, ⟨_, rfl⟩, hW95, hsame95.mono (by decide) (by decide)⟩
  show Qget_3_1 Z a1 ed ke s0 s1 s2 h0 n0 _ T94.heap _
  rw [e94]
  exact ⟨rfl, N94, rfl⟩
theorem ef_eld_3_2 (m : MethodId) (x0 : Addr) (x1 : Int32) : entryFrame m #[(.ref x0), (.int x1)] 2 = mkF m 0 #[.val (.ref x0), .val (.int x1)] [] := by first | (simp [entryFrame, mkF, argsToLocals, Value.category]; done) | rfl
def Qeld_3_2 (Z : State) (a1 : Addr) (ed : Addr) (ke : ClassId) (s0 : Addr) (s1 : Addr) (s2 : Addr) (h0 : Heap) (n0 : Nat) (v : Option Value) (h : Heap) (L : List Loc) : Prop := v = some (.ref s2) ∧ Fr n0 L ∧ h = h0
abbrev Geld_3_2 (Z : State) (a1 : Addr) (ed : Addr) (ke : ClassId) (s0 : Addr) (s1 : Addr) (s2 : Addr) (h0 : Heap) (n0 : Nat) (s : State) : Outcome → State → Prop := fun o U' => ∃ v L, o = .returned v ∧ Qeld_3_2 Z a1 ed ke s0 s1 s2 h0 n0 v U'.heap L ∧ FrameEnd s o U' L ({ frames := 0, cells := 0, slots := 0, locals := 0 } : Room).cells ({ frames := 0, cells := 0, slots := 0, locals := 0 } : Room).slots
set_option maxRecDepth 65536 in
set_option maxHeartbeats 40000000 in
theorem rmeld_3_2 (l : Launch) (Z : State) (a0 : Array Value) (hw : ∀ d ∈ tables_1, d.before a0 Z = true) (ws : List Jvm.Cond) (a1 : Addr) (ed : Addr) (ke : ClassId) (s0 : Addr) (s1 : Addr) (s2 : Addr) (h0 : Heap) (n0 : Nat) (Z0 : n0 ≤ h0.size) (F_elementData_a1 : Fld Z h0 a1 "java/util/ArrayList" "elementData" "[Ljava/lang/Object;" (.ref ed)) (V_ed : Arv Z h0 ed ke (.object "java/lang/Object") (10 : Int32) [(.ref s0), (.ref s1), (.ref s2), .null, .null, .null, .null, .null, .null, .null] .null) :
    MetFree l (⟨"java/util/ArrayList", "elementData", "(I)Ljava/lang/Object;"⟩ : MethodName) (head1 (Jvm.Cond.code (⟨"java/util/ArrayList", "elementData", "(I)Ljava/lang/Object;"⟩ : MethodName) jdk_38_method_18_code 2 (some (.object "java/lang/Object")) :: ws) ({ frames := 0, cells := 0, slots := 0, locals := 0 } : Room)) (fun a U => a = #[(.ref a1), (.int (2 : Int32))] ∧ Z.Warmed39 U.vm ∧ U.heap = h0) (fun _ _ _ _ _ => True) (fun _ U o U' => ∃ v L, o = .returned v ∧ Qeld_3_2 Z a1 ed ke s0 s1 s2 h0 n0 v U'.heap L ∧ FrameEnd U o U' L ({ frames := 0, cells := 0, slots := 0, locals := 0 } : Room).cells ({ frames := 0, cells := 0, slots := 0, locals := 0 } : Room).slots) := by
  refine MetFree.of_bodySF (plainFor_of_name pn_java_util_ArrayList) hisR ?_
  intro p e s m args below meth c s₁ Bd hml0 hP hK
  obtain ⟨rfl, hZ, hh⟩ := hP
  have hx := Bd.exec
  have hby := Bd.bytes
  have hml : c.maxLocals = 2 := hml0
  have hown : s.vm.findClass "java/util/ArrayList" = some m.cls := findClass_of_methodNamed Bd.named
  have hnm := (name_of_methodNamed Bd.named Bd.method).1
  have X0 : Stand p l e ({ frames := 0, cells := 0, slots := 0, locals := 0 } : Room) s m #[(.ref a1), (.int (2 : Int32))] below meth c s₁ [] 0 0 := Stand.of_body Bd
  have e0 : s₁.heap = h0 := by rw [← hh, Bd.state]; rfl
  have es0 : s.heap = h0 := hh
  have N0 := Fr.nil n0
  show own_Fin p e below (Geld_3_2 Z a1 ed ke s0 s1 s2 h0 n0 s) (s₁.setTop (entryFrame m #[(.ref a1), (.int (2 : Int32))] 2))
  rw [ef_eld_3_2 m a1 (2 : Int32)]
  refine own_go (XS.aloadN X0.here hx rfl (hb hby d20_0) rfl rfl (Steps.refl _)) ?_
  show own_Fin _ _ _ _ (s₁.setTop (mkF m 1 #[rv a1, iv (2 : Int32)] [(.ref a1)]))
  obtain ⟨T96, X96, e96, st96⟩ := getF X0 hx hZ hown (host := "") (Or.inl (hw _ (List.mem_of_getElem? (i := 24) rfl))) Via.refl e0 F_elementData_a1 (g := (mkF m 1 #[rv a1, iv (2 : Int32)] [(.ref a1)])) rfl rfl (hb hby d20_1)
  refine own_by st96 ?_
  show own_Fin _ _ _ _ (T96.setTop (mkF m 4 #[rv a1, iv (2 : Int32)] [(.ref ed)]))
  refine own_go (XS.iloadN X96.here hx rfl (hb hby d20_4) rfl (Steps.refl _)) ?_
  show own_Fin _ _ _ _ (T96.setTop (mkF m 5 #[rv a1, iv (2 : Int32)] [(.int (2 : Int32)), (.ref ed)]))
  obtain ⟨cl97, Ar97, qa97, Sa97, Na97, Ha97, Ga97⟩ := id V_ed
  have hin97 : ¬ ((2 : Int32) < 0 ∨ cl97.slots.size ≤ ((2 : Int32)).toNatClampNeg) := inb_of Sa97 ⟨by decide, by decide⟩
  have hat97 : cl97.slots[((2 : Int32)).toNatClampNeg]? = some (.ref s2) := Has.at Ha97 hin97 rfl
  refine own_by (X96.aaload hx (j := (2 : Int32)) (v := (.ref s2)) (by rw [e96]; exact Ar97.1) (State.isArrayOf_alike hZ.alike Ar97.2.1) rfl Ar97.2.2 hin97 hat97 (g := (mkF m 5 #[rv a1, iv (2 : Int32)] [(.int (2 : Int32)), (.ref ed)])) rfl rfl (hb hby d20_5)) ?_
  show own_Fin _ _ _ _ (T96.setTop (mkF m 6 #[rv a1, iv (2 : Int32)] [(.ref s2)]))
  obtain ⟨fs98, hr98, hrun98, hended98, hW98, hsame98⟩ := X96.leave (v := some (.ref s2)) (fun h => by rw [Bd.returns] at h; cases h)
  refine own_done (retOut X96 hx Bd.returns rfl (Or.inr (Or.inr (Or.inr (Or.inr ⟨rfl, rfl, rfl⟩)))) (hb hby d20_6) hr98) hrun98 hended98 ⟨_, _, rfl, ?_, ⟨_, rfl⟩, hW98, hsame98.mono (by decide) (by decide)⟩
  show Qeld_3_2 Z a1 ed ke s0 s1 s2 h0 n0 _ T96.heap _
  rw [e96]
  exact ⟨rfl, N0, rfl⟩
theorem ef_get_3_2 (m : MethodId) (x0 : Addr) (x1 : Int32) : entryFrame m #[(.ref x0), (.int x1)] 2 = mkF m 0 #[.val (.ref x0), .val (.int x1)] [] := by first | (simp [entryFrame, mkF, argsToLocals, Value.category]; done) | rfl
def Qget_3_2 (Z : State) (a1 : Addr) (ed : Addr) (ke : ClassId) (s0 : Addr) (s1 : Addr) (s2 : Addr) (h0 : Heap) (n0 : Nat) (v : Option Value) (h : Heap) (L : List Loc) : Prop := v = some (.ref s2) ∧ Fr n0 L ∧ h = h0
abbrev Gget_3_2 (Z : State) (a1 : Addr) (ed : Addr) (ke : ClassId) (s0 : Addr) (s1 : Addr) (s2 : Addr) (h0 : Heap) (n0 : Nat) (s : State) : Outcome → State → Prop := fun o U' => ∃ v L, o = .returned v ∧ Qget_3_2 Z a1 ed ke s0 s1 s2 h0 n0 v U'.heap L ∧ FrameEnd s o U' L ({ frames := 2, cells := 0, slots := 0, locals := 32 } : Room).cells ({ frames := 2, cells := 0, slots := 0, locals := 32 } : Room).slots
set_option maxRecDepth 65536 in
set_option maxHeartbeats 40000000 in
theorem rmget_3_2 (l : Launch) (Z : State) (a0 : Array Value) (hw : ∀ d ∈ tables_1, d.before a0 Z = true) (ws : List Jvm.Cond) (a1 : Addr) (ed : Addr) (ke : ClassId) (s0 : Addr) (s1 : Addr) (s2 : Addr) (h0 : Heap) (n0 : Nat) (Z0 : n0 ≤ h0.size) (E_a1 : Exa Z h0 a1 "java/util/ArrayList") (F_size_a1 : Fld Z h0 a1 "java/util/ArrayList" "size" "I" (.int (3 : Int32))) (F_elementData_a1 : Fld Z h0 a1 "java/util/ArrayList" "elementData" "[Ljava/lang/Object;" (.ref ed)) (V_ed : Arv Z h0 ed ke (.object "java/lang/Object") (10 : Int32) [(.ref s0), (.ref s1), (.ref s2), .null, .null, .null, .null, .null, .null, .null] .null) :
    MetFree l (⟨"java/util/ArrayList", "get", "(I)Ljava/lang/Object;"⟩ : MethodName) (head1 (Jvm.Cond.code (⟨"java/util/ArrayList", "get", "(I)Ljava/lang/Object;"⟩ : MethodName) jdk_38_method_20_code 2 (some (.object "java/lang/Object")) :: ws) ({ frames := 2, cells := 0, slots := 0, locals := 32 } : Room)) (fun a U => a = #[(.ref a1), (.int (2 : Int32))] ∧ Z.Warmed39 U.vm ∧ U.heap = h0) (fun _ _ _ _ _ => True) (fun _ U o U' => ∃ v L, o = .returned v ∧ Qget_3_2 Z a1 ed ke s0 s1 s2 h0 n0 v U'.heap L ∧ FrameEnd U o U' L ({ frames := 2, cells := 0, slots := 0, locals := 32 } : Room).cells ({ frames := 2, cells := 0, slots := 0, locals := 32 } : Room).slots) := by
  refine MetFree.of_bodySF (plainFor_of_name pn_java_util_ArrayList) hisR ?_
  intro p e s m args below meth c s₁ Bd hml0 hP hK
  obtain ⟨rfl, hZ, hh⟩ := hP
  have hx := Bd.exec
  have hby := Bd.bytes
  have hml : c.maxLocals = 2 := hml0
  have hown : s.vm.findClass "java/util/ArrayList" = some m.cls := findClass_of_methodNamed Bd.named
  have hnm := (name_of_methodNamed Bd.named Bd.method).1
  have X0 : Stand p l e ({ frames := 2, cells := 0, slots := 0, locals := 32 } : Room) s m #[(.ref a1), (.int (2 : Int32))] below meth c s₁ [] 0 0 := Stand.of_body Bd
  have e0 : s₁.heap = h0 := by rw [← hh, Bd.state]; rfl
  have es0 : s.heap = h0 := hh
  have N0 := Fr.nil n0
  show own_Fin p e below (Gget_3_2 Z a1 ed ke s0 s1 s2 h0 n0 s) (s₁.setTop (entryFrame m #[(.ref a1), (.int (2 : Int32))] 2))
  rw [ef_get_3_2 m a1 (2 : Int32)]
  refine own_go (XS.iloadN X0.here hx rfl (hb hby d17_0) rfl (Steps.refl _)) ?_
  show own_Fin _ _ _ _ (s₁.setTop (mkF m 1 #[rv a1, iv (2 : Int32)] [(.int (2 : Int32))]))
  refine own_go (XS.aloadN X0.here hx rfl (hb hby d17_1) rfl rfl (Steps.refl _)) ?_
  show own_Fin _ _ _ _ (s₁.setTop (mkF m 2 #[rv a1, iv (2 : Int32)] [(.ref a1), (.int (2 : Int32))]))
  obtain ⟨T99, X99, e99, st99⟩ := getF X0 hx hZ hown (host := "") (Or.inl (hw _ (List.mem_of_getElem? (i := 42) rfl))) Via.refl e0 F_size_a1 (g := (mkF m 2 #[rv a1, iv (2 : Int32)] [(.ref a1), (.int (2 : Int32))])) rfl rfl (hb hby d17_2)
  refine own_by st99 ?_
  show own_Fin _ _ _ _ (T99.setTop (mkF m 5 #[rv a1, iv (2 : Int32)] [(.int (3 : Int32)), (.int (2 : Int32))]))
  obtain ⟨_, _, ⟨T100, L100, k100, n100⟩, -, X100, ⟨Lc100, hQ100, l100, y100, z100⟩, st100⟩ := Jvm.LawKit.callS X99 hx (y := (⟨"java/util/Objects", "checkIndex", "(II)I"⟩ : MethodName)) hown (mvT hZ (hw _ (List.mem_of_getElem? (i := 124) rfl))) (mvT hZ (hw _ (List.mem_of_getElem? (i := 125) rfl))) (mvT hZ (hw _ (List.mem_of_getElem? (i := 126) rfl))) (mvT hZ (hw _ (List.mem_of_getElem? (i := 127) rfl))) (by decide) (backOf (W := 0) (rmobj l Z a0 hw [] (2 : Int32) (3 : Int32) h0 n0 Z0 (by decide) (by decide)) hZ (hw _ (List.mem_of_getElem? (i := 127) rfl)) (hw _ (List.mem_of_getElem? (i := 126) rfl)) (by decide) (by decide)) (g := (mkF m 5 #[rv a1, iv (2 : Int32)] [(.int (3 : Int32)), (.int (2 : Int32))])) rfl (by rw [hml]; rfl) (argsL := [(.int (2 : Int32)), (.int (3 : Int32))]) (rest := []) (lenOf pd__28_II_29_I rfl) rfl (by show 2 * 0 + _ ≤ _; exact Nat.le_of_eq rfl) (hb hby d17_5) (fun _ _ => ⟨rfl, e99, (by decide : 0 + 0 ≤ _), (by decide : 0 + 0 ≤ _)⟩)
  dsimp only [Pt.U, Pt.locs, Pt.cells, Pt.slots] at X100 l100 y100 z100 st100 hQ100
  subst l100 y100 z100
  obtain ⟨rfl, Nq100, e100⟩ := hQ100
  refine own_by st100 ?_
  have N100 := Fr.app N0 Nq100
  show own_Fin _ _ _ _ (T100.setTop (mkF m 8 #[rv a1, iv (2 : Int32)] [(.int (2 : Int32))]))
  refine own_go (XS.pop X100.here hx rfl (hb hby d17_8) rfl rfl (Steps.refl _)) ?_
  show own_Fin _ _ _ _ (T100.setTop (mkF m 9 #[rv a1, iv (2 : Int32)] []))
  refine own_go (XS.aloadN X100.here hx rfl (hb hby d17_9) rfl rfl (Steps.refl _)) ?_
  show own_Fin _ _ _ _ (T100.setTop (mkF m 10 #[rv a1, iv (2 : Int32)] [(.ref a1)]))
  refine own_go (XS.iloadN X100.here hx rfl (hb hby d17_10) rfl (Steps.refl _)) ?_
  show own_Fin _ _ _ _ (T100.setTop (mkF m 11 #[rv a1, iv (2 : Int32)] [(.int (2 : Int32)), (.ref a1)]))
  obtain ⟨cq101, kq101, q101a, q101b, q101c⟩ := isOf hZ e100 E_a1
  obtain ⟨_, _, ⟨T101, L101, k101, n101⟩, -, X101, ⟨Lc101, hQ101, l101, y101, z101⟩, st101⟩ := X100.virtualBack hx (y := (⟨"java/util/ArrayList", "elementData", "(I)Ljava/lang/Object;"⟩ : MethodName)) (z := (⟨"java/util/ArrayList", "elementData", "(I)Ljava/lang/Object;"⟩ : MethodName)) hown (mvT hZ (hw _ (List.mem_of_getElem? (i := 132) rfl))) (mvT hZ (hw _ (List.mem_of_getElem? (i := 133) rfl))) (notFace_of_selects (args := #[]) (mvT hZ (hw _ (List.mem_of_getElem? (i := 135) rfl)))) (mvT hZ (hw _ (List.mem_of_getElem? (i := 135) rfl))) (mvT hZ (hw _ (List.mem_of_getElem? (i := 134) rfl))) (by decide) (backOf (W := 0) (rmeld_3_2 l Z a0 hw [] a1 ed ke s0 s1 s2 h0 n0 Z0 F_elementData_a1 V_ed) hZ (hw _ (List.mem_of_getElem? (i := 136) rfl)) (hw _ (List.mem_of_getElem? (i := 2) rfl)) (by decide) (by decide)) q101a q101c (g := (mkF m 11 #[rv a1, iv (2 : Int32)] [(.int (2 : Int32)), (.ref a1)])) rfl (by rw [hml]; rfl) (Steps.refl _) (argsL := [(.int (2 : Int32))]) (rest := []) (lenOf pd__28_I_29_Ljava_2f_lang_2f_Object_3b_ rfl) rfl (by show 2 * 0 + _ ≤ _; exact Nat.le_of_eq rfl) (hb hby d17_11) (fun _ _ => ⟨rfl, e100, (by decide : 0 + 0 ≤ _), (by decide : 0 + 0 ≤ _)⟩)
  dsimp only [Pt.U, Pt.locs, Pt.cells, Pt.slots] at X101 l101 y101 z101 st101 hQ101
  subst l101 y101 z101
  obtain ⟨rfl, Nq101, e101⟩ := hQ101
  refine own_go st101 ?_
  have N101 := Fr.app N100 Nq101
  show own_Fin _ _ _ _ (T101.setTop (mkF m 14 #[rv a1, iv (2 : Int32)] [(.ref s2)]))
  obtain ⟨fs102, hr102, hrun102, hended102, hW102, hsame102⟩ := X101.leave (v := some (.ref s2)) (fun h => by rw [Bd.returns] at h; cases h)
  refine own_done (retOut X101 hx Bd.returns rfl (Or.inr (Or.inr (Or.inr (Or.inr ⟨rfl, rfl, rfl⟩)))) (hb hby d17_14) hr102) hrun102 hended102 ⟨_, _, rfl, ?_, ⟨_, rfl⟩, hW102, hsame102.mono (by decide) (by decide)⟩
  show Qget_3_2 Z a1 ed ke s0 s1 s2 h0 n0 _ T101.heap _
  rw [e101]
  exact ⟨rfl, N101, rfl⟩
theorem d26_0 : decode jdk_123_method_3_code 0 = .ok (.iload_n 1, 1) := by decide +kernel
theorem d26_1 : decode jdk_123_method_3_code 1 = .ok (.iload_n 2, 1) := by decide +kernel
theorem d26_2 : decode jdk_123_method_3_code 2 = .ok (.iadd, 1) := by decide +kernel
theorem d26_3 : decode jdk_123_method_3_code 3 = .ok (.istore_n 3, 1) := by decide +kernel
theorem d26_4 : decode jdk_123_method_3_code 4 = .ok (.iload_n 1, 1) := by decide +kernel
theorem d26_5 : decode jdk_123_method_3_code 5 = .ok (.istore 4, 2) := by decide +kernel
theorem d26_7 : decode jdk_123_method_3_code 7 = .ok (.iload 4, 2) := by decide +kernel
theorem d26_9 : decode jdk_123_method_3_code 9 = .ok (.iload_n 3, 1) := by decide +kernel
theorem d26_10 : decode jdk_123_method_3_code 10 = .ok (.if_icmp .ge 21, 3) := by decide +kernel
theorem d26_13 : decode jdk_123_method_3_code 13 = .ok (.aload_n 0, 1) := by decide +kernel
theorem d26_14 : decode jdk_123_method_3_code 14 = .ok (.iload 4, 2) := by decide +kernel
theorem d26_16 : decode jdk_123_method_3_code 16 = .ok (.baload, 1) := by decide +kernel
theorem d26_17 : decode jdk_123_method_3_code 17 = .ok (.ifCond .ge 8, 3) := by decide +kernel
theorem d26_20 : decode jdk_123_method_3_code 20 = .ok (.iload 4, 2) := by decide +kernel
theorem d26_22 : decode jdk_123_method_3_code 22 = .ok (.iload_n 1, 1) := by decide +kernel
theorem d26_23 : decode jdk_123_method_3_code 23 = .ok (.isub, 1) := by decide +kernel
theorem d26_24 : decode jdk_123_method_3_code 24 = .ok (.ireturn, 1) := by decide +kernel
theorem d26_25 : decode jdk_123_method_3_code 25 = .ok (.iinc 4 1, 3) := by decide +kernel
theorem d26_28 : decode jdk_123_method_3_code 28 = .ok (.goto (-21), 3) := by decide +kernel
theorem d26_31 : decode jdk_123_method_3_code 31 = .ok (.iload_n 2, 1) := by decide +kernel
theorem d26_32 : decode jdk_123_method_3_code 32 = .ok (.ireturn, 1) := by decide +kernel
theorem pn_java_lang_StringCoding : plainName "java/lang/StringCoding" = true := by first | (simp [plainName, overriddenIn]; done) | decide +kernel
theorem ef_cp (m : MethodId) (x0 : Addr) (x1 : Int32) (x2 : Int32) : entryFrame m #[(.ref x0), (.int x1), (.int x2)] 5 = mkF m 0 #[.val (.ref x0), .val (.int x1), .val (.int x2), .unset, .unset] [] := by first | (simp [entryFrame, mkF, argsToLocals, Value.category]; done) | rfl
def Qcp (Z : State) (a1 : Addr) (k : ClassId) (c0 : Int32) (h0 : Heap) (n0 : Nat) (v : Option Value) (h : Heap) (L : List Loc) : Prop := v = some (.int (1 : Int32)) ∧ Fr n0 L ∧ h = h0
abbrev Gcp (Z : State) (a1 : Addr) (k : ClassId) (c0 : Int32) (h0 : Heap) (n0 : Nat) (s : State) : Outcome → State → Prop := fun o U' => ∃ v L, o = .returned v ∧ Qcp Z a1 k c0 h0 n0 v U'.heap L ∧ FrameEnd s o U' L ({ frames := 0, cells := 0, slots := 0, locals := 0 } : Room).cells ({ frames := 0, cells := 0, slots := 0, locals := 0 } : Room).slots
set_option maxRecDepth 65536 in
set_option maxHeartbeats 40000000 in
theorem rmcp (l : Launch) (Z : State) (a0 : Array Value) (hw : ∀ d ∈ tables_1, d.before a0 Z = true) (ws : List Jvm.Cond) (a1 : Addr) (k : ClassId) (c0 : Int32) (h0 : Heap) (n0 : Nat) (Z0 : n0 ≤ h0.size) (V_a1 : Arv Z h0 a1 k .byte (1 : Int32) [(.int c0)] (.int (0 : Int32))) (hc : ¬ c0 < (0 : Int32)) :
    MetFree l (⟨"java/lang/StringCoding", "countPositives", "([BII)I"⟩ : MethodName) (head1 (Jvm.Cond.code (⟨"java/lang/StringCoding", "countPositives", "([BII)I"⟩ : MethodName) jdk_123_method_3_code 5 (some .int) :: ws) ({ frames := 0, cells := 0, slots := 0, locals := 0 } : Room)) (fun a U => a = #[(.ref a1), (.int (0 : Int32)), (.int (1 : Int32))] ∧ Z.Warmed39 U.vm ∧ U.heap = h0) (fun _ _ _ _ _ => True) (fun _ U o U' => ∃ v L, o = .returned v ∧ Qcp Z a1 k c0 h0 n0 v U'.heap L ∧ FrameEnd U o U' L ({ frames := 0, cells := 0, slots := 0, locals := 0 } : Room).cells ({ frames := 0, cells := 0, slots := 0, locals := 0 } : Room).slots) := by
  refine MetFree.of_bodySF (plainFor_of_name pn_java_lang_StringCoding) hisR ?_
  intro p e s m args below meth c s₁ Bd hml0 hP hK
  obtain ⟨rfl, hZ, hh⟩ := hP
  have hx := Bd.exec
  have hby := Bd.bytes
  have hml : c.maxLocals = 5 := hml0
  have hown : s.vm.findClass "java/lang/StringCoding" = some m.cls := findClass_of_methodNamed Bd.named
  have hnm := (name_of_methodNamed Bd.named Bd.method).1
  have X0 : Stand p l e ({ frames := 0, cells := 0, slots := 0, locals := 0 } : Room) s m #[(.ref a1), (.int (0 : Int32)), (.int (1 : Int32))] below meth c s₁ [] 0 0 := Stand.of_body Bd
  have e0 : s₁.heap = h0 := by rw [← hh, Bd.state]; rfl
  have es0 : s.heap = h0 := hh
  have N0 := Fr.nil n0
  show own_Fin p e below (Gcp Z a1 k c0 h0 n0 s) (s₁.setTop (entryFrame m #[(.ref a1), (.int (0 : Int32)), (.int (1 : Int32))] 5))
  rw [ef_cp m a1 (0 : Int32) (1 : Int32)]
  refine own_go (XS.iloadN X0.here hx rfl (hb hby d26_0) rfl (Steps.refl _)) ?_
  show own_Fin _ _ _ _ (s₁.setTop (mkF m 1 #[rv a1, iv (0 : Int32), iv (1 : Int32), .unset, .unset] [(.int (0 : Int32))]))
  refine own_go (XS.iloadN X0.here hx rfl (hb hby d26_1) rfl (Steps.refl _)) ?_
  show own_Fin _ _ _ _ (s₁.setTop (mkF m 2 #[rv a1, iv (0 : Int32), iv (1 : Int32), .unset, .unset] [(.int (1 : Int32)), (.int (0 : Int32))]))
  refine own_go (XS.iadd X0.here hx rfl (hb hby d26_2) rfl (Steps.refl _)) ?_
  show own_Fin _ _ _ _ (s₁.setTop (mkF m 3 #[rv a1, iv (0 : Int32), iv (1 : Int32), .unset, .unset] [(.int (1 : Int32))]))
  refine own_go (XS.istoreN X0.here hx rfl (hb hby d26_3) rfl rfl (Steps.refl _)) ?_
  show own_Fin _ _ _ _ (s₁.setTop (mkF m 4 #[rv a1, iv (0 : Int32), iv (1 : Int32), iv (1 : Int32), .unset] []))
  refine own_go (XS.iloadN X0.here hx rfl (hb hby d26_4) rfl (Steps.refl _)) ?_
  show own_Fin _ _ _ _ (s₁.setTop (mkF m 5 #[rv a1, iv (0 : Int32), iv (1 : Int32), iv (1 : Int32), .unset] [(.int (0 : Int32))]))
  refine own_go (XS.istore X0.here hx rfl (hb hby d26_5) rfl rfl (Steps.refl _)) ?_
  show own_Fin _ _ _ _ (s₁.setTop (mkF m 7 #[rv a1, iv (0 : Int32), iv (1 : Int32), iv (1 : Int32), iv (0 : Int32)] []))
  refine own_go (XS.iload X0.here hx rfl (hb hby d26_7) rfl (Steps.refl _)) ?_
  show own_Fin _ _ _ _ (s₁.setTop (mkF m 9 #[rv a1, iv (0 : Int32), iv (1 : Int32), iv (1 : Int32), iv (0 : Int32)] [(.int (0 : Int32))]))
  refine own_go (XS.iloadN X0.here hx rfl (hb hby d26_9) rfl (Steps.refl _)) ?_
  show own_Fin _ _ _ _ (s₁.setTop (mkF m 10 #[rv a1, iv (0 : Int32), iv (1 : Int32), iv (1 : Int32), iv (0 : Int32)] [(.int (1 : Int32)), (.int (0 : Int32))]))
  refine own_go (XS.icmpNo X0.here hx rfl (hb hby d26_10) rfl (tlt (by decide : (0 : Int32) < (1 : Int32))).2.1 (Steps.refl _)) ?_
  show own_Fin _ _ _ _ (s₁.setTop (mkF m 13 #[rv a1, iv (0 : Int32), iv (1 : Int32), iv (1 : Int32), iv (0 : Int32)] []))
  refine own_go (XS.aloadN X0.here hx rfl (hb hby d26_13) rfl rfl (Steps.refl _)) ?_
  show own_Fin _ _ _ _ (s₁.setTop (mkF m 14 #[rv a1, iv (0 : Int32), iv (1 : Int32), iv (1 : Int32), iv (0 : Int32)] [(.ref a1)]))
  refine own_go (XS.iload X0.here hx rfl (hb hby d26_14) rfl (Steps.refl _)) ?_
  show own_Fin _ _ _ _ (s₁.setTop (mkF m 16 #[rv a1, iv (0 : Int32), iv (1 : Int32), iv (1 : Int32), iv (0 : Int32)] [(.int (0 : Int32)), (.ref a1)]))
  obtain ⟨cl103, Ar103, qa103, Sa103, Na103, Ha103, Ga103⟩ := id V_a1
  have hin103 : ¬ ((0 : Int32) < 0 ∨ cl103.slots.size ≤ ((0 : Int32)).toNatClampNeg) := inb_of Sa103 ⟨by decide, by decide⟩
  have hat103 : cl103.slots[((0 : Int32)).toNatClampNeg]? = some (.int c0) := Has.at Ha103 hin103 rfl
  refine own_by (X0.baloadBytes hx (j := (0 : Int32)) (v := (.int c0)) (by rw [e0]; exact Ar103.1) (State.isArrayOf_alike hZ.alike Ar103.2.1) Ar103.2.2 hin103 hat103 (g := (mkF m 16 #[rv a1, iv (0 : Int32), iv (1 : Int32), iv (1 : Int32), iv (0 : Int32)] [(.int (0 : Int32)), (.ref a1)])) rfl rfl (hb hby d26_16)) ?_
  show own_Fin _ _ _ _ (s₁.setTop (mkF m 17 #[rv a1, iv (0 : Int32), iv (1 : Int32), iv (1 : Int32), iv (0 : Int32)] [(.int c0)]))
  refine own_go (XS.ifYes X0.here hx rfl (pc0 := 17) (pc' := 25) rfl (hb hby d26_17) rfl ((if0 _ _).trans (flt (show ¬ (c0 < (0 : Int32)) from hc)).2.1) (by decide) (by decide) (Steps.refl _)) ?_
  show own_Fin _ _ _ _ (s₁.setTop (mkF m 25 #[rv a1, iv (0 : Int32), iv (1 : Int32), iv (1 : Int32), iv (0 : Int32)] []))
  refine own_go (XS.iinc X0.here hx rfl (hb hby d26_25) rfl rfl (Steps.refl _)) ?_
  show own_Fin _ _ _ _ (s₁.setTop (mkF m 28 #[rv a1, iv (0 : Int32), iv (1 : Int32), iv (1 : Int32), iv (1 : Int32)] []))
  refine own_go (XS.goto X0.here hx rfl (pc0 := 28) (pc' := 7) rfl (hb hby d26_28) (by decide) (by decide) (Steps.refl _)) ?_
  show own_Fin _ _ _ _ (s₁.setTop (mkF m 7 #[rv a1, iv (0 : Int32), iv (1 : Int32), iv (1 : Int32), iv (1 : Int32)] []))
  refine own_go (XS.iload X0.here hx rfl (hb hby d26_7) rfl (Steps.refl _)) ?_
  show own_Fin _ _ _ _ (s₁.setTop (mkF m 9 #[rv a1, iv (0 : Int32), iv (1 : Int32), iv (1 : Int32), iv (1 : Int32)] [(.int (1 : Int32))]))
  refine own_go (XS.iloadN X0.here hx rfl (hb hby d26_9) rfl (Steps.refl _)) ?_
  show own_Fin _ _ _ _ (s₁.setTop (mkF m 10 #[rv a1, iv (0 : Int32), iv (1 : Int32), iv (1 : Int32), iv (1 : Int32)] [(.int (1 : Int32)), (.int (1 : Int32))]))
  refine own_go (XS.icmpYes X0.here hx rfl (pc0 := 10) (pc' := 31) rfl (hb hby d26_10) rfl (flt (by decide : ¬ ((1 : Int32) < (1 : Int32)))).2.1 (by decide) (by decide) (Steps.refl _)) ?_
  show own_Fin _ _ _ _ (s₁.setTop (mkF m 31 #[rv a1, iv (0 : Int32), iv (1 : Int32), iv (1 : Int32), iv (1 : Int32)] []))
  refine own_go (XS.iloadN X0.here hx rfl (hb hby d26_31) rfl (Steps.refl _)) ?_
  show own_Fin _ _ _ _ (s₁.setTop (mkF m 32 #[rv a1, iv (0 : Int32), iv (1 : Int32), iv (1 : Int32), iv (1 : Int32)] [(.int (1 : Int32))]))
  obtain ⟨fs104, hr104, hrun104, hended104, hW104, hsame104⟩ := X0.leave (v := some (.int (1 : Int32))) (fun h => by rw [Bd.returns] at h; cases h)
  refine own_done (own_retI X0 hx Bd.returns (hb hby d26_32) hr104) hrun104 hended104 ⟨_, _, rfl, ?_, ⟨_, rfl⟩, hW104, hsame104.mono (by decide) (by decide)⟩
  show Qcp Z a1 k c0 h0 n0 _ s₁.heap _
  rw [e0]
  exact ⟨rfl, N0, rfl⟩
theorem d25_0 : decode jdk_123_method_2_code 0 = .ok (.aload_n 0, 1) := by decide +kernel
theorem d25_1 : decode jdk_123_method_2_code 1 = .ok (.iload_n 1, 1) := by decide +kernel
theorem d25_2 : decode jdk_123_method_2_code 2 = .ok (.iload_n 2, 1) := by decide +kernel
theorem d25_3 : decode jdk_123_method_2_code 3 = .ok (.invokestatic 7, 3) := by decide +kernel
theorem d25_6 : decode jdk_123_method_2_code 6 = .ok (.iload_n 2, 1) := by decide +kernel
theorem d25_7 : decode jdk_123_method_2_code 7 = .ok (.if_icmp .eq 7, 3) := by decide +kernel
theorem d25_10 : decode jdk_123_method_2_code 10 = .ok (.iconst 1, 1) := by decide +kernel
theorem d25_11 : decode jdk_123_method_2_code 11 = .ok (.goto 4, 3) := by decide +kernel
theorem d25_14 : decode jdk_123_method_2_code 14 = .ok (.iconst 0, 1) := by decide +kernel
theorem d25_15 : decode jdk_123_method_2_code 15 = .ok (.ireturn, 1) := by decide +kernel
theorem ef_hn (m : MethodId) (x0 : Addr) (x1 : Int32) (x2 : Int32) : entryFrame m #[(.ref x0), (.int x1), (.int x2)] 3 = mkF m 0 #[.val (.ref x0), .val (.int x1), .val (.int x2)] [] := by first | (simp [entryFrame, mkF, argsToLocals, Value.category]; done) | rfl
def Qhn (Z : State) (a1 : Addr) (k : ClassId) (c0 : Int32) (h0 : Heap) (n0 : Nat) (v : Option Value) (h : Heap) (L : List Loc) : Prop := v = some (.int (0 : Int32)) ∧ Fr n0 L ∧ h = h0
abbrev Ghn (Z : State) (a1 : Addr) (k : ClassId) (c0 : Int32) (h0 : Heap) (n0 : Nat) (s : State) : Outcome → State → Prop := fun o U' => ∃ v L, o = .returned v ∧ Qhn Z a1 k c0 h0 n0 v U'.heap L ∧ FrameEnd s o U' L ({ frames := 1, cells := 0, slots := 0, locals := 20 } : Room).cells ({ frames := 1, cells := 0, slots := 0, locals := 20 } : Room).slots
theorem pd__28__5b_BII_29_I : parseMethodDescriptor "([BII)I" = some ⟨[(.array .byte), .int, .int], some .int⟩ := by decide +kernel
set_option maxRecDepth 65536 in
set_option maxHeartbeats 40000000 in
theorem rmhn (l : Launch) (Z : State) (a0 : Array Value) (hw : ∀ d ∈ tables_1, d.before a0 Z = true) (ws : List Jvm.Cond) (a1 : Addr) (k : ClassId) (c0 : Int32) (h0 : Heap) (n0 : Nat) (Z0 : n0 ≤ h0.size) (V_a1 : Arv Z h0 a1 k .byte (1 : Int32) [(.int c0)] (.int (0 : Int32))) (hc : ¬ c0 < (0 : Int32)) :
    MetFree l (⟨"java/lang/StringCoding", "hasNegatives", "([BII)Z"⟩ : MethodName) (head1 (Jvm.Cond.code (⟨"java/lang/StringCoding", "hasNegatives", "([BII)Z"⟩ : MethodName) jdk_123_method_2_code 3 (some .boolean) :: ws) ({ frames := 1, cells := 0, slots := 0, locals := 20 } : Room)) (fun a U => a = #[(.ref a1), (.int (0 : Int32)), (.int (1 : Int32))] ∧ Z.Warmed39 U.vm ∧ U.heap = h0) (fun _ _ _ _ _ => True) (fun _ U o U' => ∃ v L, o = .returned v ∧ Qhn Z a1 k c0 h0 n0 v U'.heap L ∧ FrameEnd U o U' L ({ frames := 1, cells := 0, slots := 0, locals := 20 } : Room).cells ({ frames := 1, cells := 0, slots := 0, locals := 20 } : Room).slots) := by
  refine MetFree.of_bodySF (plainFor_of_name pn_java_lang_StringCoding) hisR ?_
  intro p e s m args below meth c s₁ Bd hml0 hP hK
  obtain ⟨rfl, hZ, hh⟩ := hP
  have hx := Bd.exec
  have hby := Bd.bytes
  have hml : c.maxLocals = 3 := hml0
  have hown : s.vm.findClass "java/lang/StringCoding" = some m.cls := findClass_of_methodNamed Bd.named
  have hnm := (name_of_methodNamed Bd.named Bd.method).1
  have X0 : Stand p l e ({ frames := 1, cells := 0, slots := 0, locals := 20 } : Room) s m #[(.ref a1), (.int (0 : Int32)), (.int (1 : Int32))] below meth c s₁ [] 0 0 := Stand.of_body Bd
  have e0 : s₁.heap = h0 := by rw [← hh, Bd.state]; rfl
  have es0 : s.heap = h0 := hh
  have N0 := Fr.nil n0
  show own_Fin p e below (Ghn Z a1 k c0 h0 n0 s) (s₁.setTop (entryFrame m #[(.ref a1), (.int (0 : Int32)), (.int (1 : Int32))] 3))
  rw [ef_hn m a1 (0 : Int32) (1 : Int32)]
  refine own_go (XS.aloadN X0.here hx rfl (hb hby d25_0) rfl rfl (Steps.refl _)) ?_
  show own_Fin _ _ _ _ (s₁.setTop (mkF m 1 #[rv a1, iv (0 : Int32), iv (1 : Int32)] [(.ref a1)]))
  refine own_go (XS.iloadN X0.here hx rfl (hb hby d25_1) rfl (Steps.refl _)) ?_
  show own_Fin _ _ _ _ (s₁.setTop (mkF m 2 #[rv a1, iv (0 : Int32), iv (1 : Int32)] [(.int (0 : Int32)), (.ref a1)]))
  refine own_go (XS.iloadN X0.here hx rfl (hb hby d25_2) rfl (Steps.refl _)) ?_
  show own_Fin _ _ _ _ (s₁.setTop (mkF m 3 #[rv a1, iv (0 : Int32), iv (1 : Int32)] [(.int (1 : Int32)), (.int (0 : Int32)), (.ref a1)]))
  obtain ⟨_, _, ⟨T105, L105, k105, n105⟩, -, X105, ⟨Lc105, hQ105, l105, y105, z105⟩, st105⟩ := Jvm.LawKit.callS X0 hx (y := (⟨"java/lang/StringCoding", "countPositives", "([BII)I"⟩ : MethodName)) hown (mvT hZ (hw _ (List.mem_of_getElem? (i := 166) rfl))) (mvT hZ (hw _ (List.mem_of_getElem? (i := 167) rfl))) (mvT hZ (hw _ (List.mem_of_getElem? (i := 164) rfl))) (mvT hZ (hw _ (List.mem_of_getElem? (i := 168) rfl))) (by decide) (backOf (W := 0) (rmcp l Z a0 hw [] a1 k c0 h0 n0 Z0 V_a1 hc) hZ (hw _ (List.mem_of_getElem? (i := 168) rfl)) (hw _ (List.mem_of_getElem? (i := 164) rfl)) (by decide) (by decide)) (g := (mkF m 3 #[rv a1, iv (0 : Int32), iv (1 : Int32)] [(.int (1 : Int32)), (.int (0 : Int32)), (.ref a1)])) rfl (by rw [hml]; rfl) (argsL := [(.ref a1), (.int (0 : Int32)), (.int (1 : Int32))]) (rest := []) (lenOf pd__28__5b_BII_29_I rfl) rfl (by show 2 * 0 + _ ≤ _; exact Nat.le_of_eq rfl) (hb hby d25_3) (fun _ _ => ⟨rfl, e0, (by decide : 0 + 0 ≤ _), (by decide : 0 + 0 ≤ _)⟩)
  dsimp only [Pt.U, Pt.locs, Pt.cells, Pt.slots] at X105 l105 y105 z105 st105 hQ105
  subst l105 y105 z105
  obtain ⟨rfl, Nq105, e105⟩ := hQ105
  refine own_by st105 ?_
  have N105 := Fr.app N0 Nq105
  show own_Fin _ _ _ _ (T105.setTop (mkF m 6 #[rv a1, iv (0 : Int32), iv (1 : Int32)] [(.int (1 : Int32))]))
  refine own_go (XS.iloadN X105.here hx rfl (hb hby d25_6) rfl (Steps.refl _)) ?_
  show own_Fin _ _ _ _ (T105.setTop (mkF m 7 #[rv a1, iv (0 : Int32), iv (1 : Int32)] [(.int (1 : Int32)), (.int (1 : Int32))]))
  refine own_go (XS.icmpYes X105.here hx rfl (pc0 := 7) (pc' := 14) rfl (hb hby d25_7) rfl (teq (by decide : (1 : Int32) = (1 : Int32))).1 (by decide) (by decide) (Steps.refl _)) ?_
  show own_Fin _ _ _ _ (T105.setTop (mkF m 14 #[rv a1, iv (0 : Int32), iv (1 : Int32)] []))
  refine own_go (XS.iconst X105.here hx rfl (hb hby d25_14) (Steps.refl _)) ?_
  show own_Fin _ _ _ _ (T105.setTop (mkF m 15 #[rv a1, iv (0 : Int32), iv (1 : Int32)] [(.int (0 : Int32))]))
  obtain ⟨fs106, hr106, hrun106, hended106, hW106, hsame106⟩ := X105.leave (v := some (.int (0 : Int32))) (fun h => by rw [Bd.returns] at h; cases h)
  refine own_done (retN X105 hx (t := .boolean) Bd.returns (by simp) (hb hby d25_15) hr106) hrun106 hended106 ⟨_, _, rfl, ?_, ⟨_, rfl⟩, hW106, hsame106.mono (by decide) (by decide)⟩
  show Qhn Z a1 k c0 h0 n0 _ T105.heap _
  rw [e105]
  exact ⟨rfl, N105, rfl⟩
theorem d24_0 : decode jdk_42_method_46_code 0 = .ok (.iload_n 0, 1) := by decide +kernel
theorem d24_1 : decode jdk_42_method_46_code 1 = .ok (.iconst 1, 1) := by decide +kernel
theorem d24_2 : decode jdk_42_method_46_code 2 = .ok (.if_icmp .ne 9, 3) := by decide +kernel
theorem d24_5 : decode jdk_42_method_46_code 5 = .ok (.aload_n 1, 1) := by decide +kernel
theorem d24_6 : decode jdk_42_method_46_code 6 = .ok (.iload_n 2, 1) := by decide +kernel
theorem d24_7 : decode jdk_42_method_46_code 7 = .ok (.invokestatic 473, 3) := by decide +kernel
theorem d24_10 : decode jdk_42_method_46_code 10 = .ok (.areturn, 1) := by decide +kernel
theorem d24_11 : decode jdk_42_method_46_code 11 = .ok (.aload_n 1, 1) := by decide +kernel
theorem d24_12 : decode jdk_42_method_46_code 12 = .ok (.iconst 0, 1) := by decide +kernel
theorem d24_13 : decode jdk_42_method_46_code 13 = .ok (.aload_n 1, 1) := by decide +kernel
theorem d24_14 : decode jdk_42_method_46_code 14 = .ok (.arraylength, 1) := by decide +kernel
theorem d24_15 : decode jdk_42_method_46_code 15 = .ok (.invokestatic 128, 3) := by decide +kernel
theorem d24_18 : decode jdk_42_method_46_code 18 = .ok (.ifCond .ne 11, 3) := by decide +kernel
theorem d24_21 : decode jdk_42_method_46_code 21 = .ok (.aload_n 1, 1) := by decide +kernel
theorem d24_22 : decode jdk_42_method_46_code 22 = .ok (.invokevirtual 279, 3) := by decide +kernel
theorem d24_25 : decode jdk_42_method_46_code 25 = .ok (.checkcast 280, 3) := by decide +kernel
theorem d24_28 : decode jdk_42_method_46_code 28 = .ok (.areturn, 1) := by decide +kernel
theorem d24_29 : decode jdk_42_method_46_code 29 = .ok (.iconst 0, 1) := by decide +kernel
theorem d24_30 : decode jdk_42_method_46_code 30 = .ok (.istore_n 3, 1) := by decide +kernel
theorem d24_31 : decode jdk_42_method_46_code 31 = .ok (.aload_n 1, 1) := by decide +kernel
theorem d24_32 : decode jdk_42_method_46_code 32 = .ok (.arraylength, 1) := by decide +kernel
theorem d24_33 : decode jdk_42_method_46_code 33 = .ok (.invokestatic 60, 3) := by decide +kernel
theorem d24_36 : decode jdk_42_method_46_code 36 = .ok (.astore 4, 2) := by decide +kernel
theorem d24_38 : decode jdk_42_method_46_code 38 = .ok (.aload_n 1, 1) := by decide +kernel
theorem d24_39 : decode jdk_42_method_46_code 39 = .ok (.astore 5, 2) := by decide +kernel
theorem d24_41 : decode jdk_42_method_46_code 41 = .ok (.aload 5, 2) := by decide +kernel
theorem d24_43 : decode jdk_42_method_46_code 43 = .ok (.arraylength, 1) := by decide +kernel
theorem d24_44 : decode jdk_42_method_46_code 44 = .ok (.istore 6, 2) := by decide +kernel
theorem d24_46 : decode jdk_42_method_46_code 46 = .ok (.iconst 0, 1) := by decide +kernel
theorem d24_47 : decode jdk_42_method_46_code 47 = .ok (.istore 7, 2) := by decide +kernel
theorem d24_49 : decode jdk_42_method_46_code 49 = .ok (.iload 7, 2) := by decide +kernel
theorem d24_51 : decode jdk_42_method_46_code 51 = .ok (.iload 6, 2) := by decide +kernel
theorem d24_53 : decode jdk_42_method_46_code 53 = .ok (.if_icmp .ge 71, 3) := by decide +kernel
theorem d24_56 : decode jdk_42_method_46_code 56 = .ok (.aload 5, 2) := by decide +kernel
theorem d24_58 : decode jdk_42_method_46_code 58 = .ok (.iload 7, 2) := by decide +kernel
theorem d24_60 : decode jdk_42_method_46_code 60 = .ok (.baload, 1) := by decide +kernel
theorem d24_61 : decode jdk_42_method_46_code 61 = .ok (.istore 8, 2) := by decide +kernel
theorem d24_63 : decode jdk_42_method_46_code 63 = .ok (.iload 8, 2) := by decide +kernel
theorem d24_65 : decode jdk_42_method_46_code 65 = .ok (.ifCond .ge 44, 3) := by decide +kernel
theorem d24_68 : decode jdk_42_method_46_code 68 = .ok (.aload 4, 2) := by decide +kernel
theorem d24_70 : decode jdk_42_method_46_code 70 = .ok (.iload_n 3, 1) := by decide +kernel
theorem d24_71 : decode jdk_42_method_46_code 71 = .ok (.iinc 3 1, 3) := by decide +kernel
theorem d24_74 : decode jdk_42_method_46_code 74 = .ok (.sipush 192, 3) := by decide +kernel
theorem d24_77 : decode jdk_42_method_46_code 77 = .ok (.iload 8, 2) := by decide +kernel
theorem d24_79 : decode jdk_42_method_46_code 79 = .ok (.sipush 255, 3) := by decide +kernel
theorem d24_82 : decode jdk_42_method_46_code 82 = .ok (.iand, 1) := by decide +kernel
theorem d24_83 : decode jdk_42_method_46_code 83 = .ok (.bipush 6, 2) := by decide +kernel
theorem d24_85 : decode jdk_42_method_46_code 85 = .ok (.ishr, 1) := by decide +kernel
theorem d24_86 : decode jdk_42_method_46_code 86 = .ok (.ior, 1) := by decide +kernel
theorem d24_87 : decode jdk_42_method_46_code 87 = .ok (.i2b, 1) := by decide +kernel
theorem d24_88 : decode jdk_42_method_46_code 88 = .ok (.bastore, 1) := by decide +kernel
theorem d24_89 : decode jdk_42_method_46_code 89 = .ok (.aload 4, 2) := by decide +kernel
theorem d24_91 : decode jdk_42_method_46_code 91 = .ok (.iload_n 3, 1) := by decide +kernel
theorem d24_92 : decode jdk_42_method_46_code 92 = .ok (.iinc 3 1, 3) := by decide +kernel
theorem d24_95 : decode jdk_42_method_46_code 95 = .ok (.sipush 128, 3) := by decide +kernel
theorem d24_98 : decode jdk_42_method_46_code 98 = .ok (.iload 8, 2) := by decide +kernel
theorem d24_100 : decode jdk_42_method_46_code 100 = .ok (.bipush 63, 2) := by decide +kernel
theorem d24_102 : decode jdk_42_method_46_code 102 = .ok (.iand, 1) := by decide +kernel
theorem d24_103 : decode jdk_42_method_46_code 103 = .ok (.ior, 1) := by decide +kernel
theorem d24_104 : decode jdk_42_method_46_code 104 = .ok (.i2b, 1) := by decide +kernel
theorem d24_105 : decode jdk_42_method_46_code 105 = .ok (.bastore, 1) := by decide +kernel
theorem d24_106 : decode jdk_42_method_46_code 106 = .ok (.goto 12, 3) := by decide +kernel
theorem d24_109 : decode jdk_42_method_46_code 109 = .ok (.aload 4, 2) := by decide +kernel
theorem d24_111 : decode jdk_42_method_46_code 111 = .ok (.iload_n 3, 1) := by decide +kernel
theorem d24_112 : decode jdk_42_method_46_code 112 = .ok (.iinc 3 1, 3) := by decide +kernel
theorem d24_115 : decode jdk_42_method_46_code 115 = .ok (.iload 8, 2) := by decide +kernel
theorem d24_117 : decode jdk_42_method_46_code 117 = .ok (.bastore, 1) := by decide +kernel
theorem d24_118 : decode jdk_42_method_46_code 118 = .ok (.iinc 7 1, 3) := by decide +kernel
theorem d24_121 : decode jdk_42_method_46_code 121 = .ok (.goto (-72), 3) := by decide +kernel
theorem d24_124 : decode jdk_42_method_46_code 124 = .ok (.iload_n 3, 1) := by decide +kernel
theorem d24_125 : decode jdk_42_method_46_code 125 = .ok (.aload 4, 2) := by decide +kernel
theorem d24_127 : decode jdk_42_method_46_code 127 = .ok (.arraylength, 1) := by decide +kernel
theorem d24_128 : decode jdk_42_method_46_code 128 = .ok (.if_icmp .ne 6, 3) := by decide +kernel
theorem d24_131 : decode jdk_42_method_46_code 131 = .ok (.aload 4, 2) := by decide +kernel
theorem d24_133 : decode jdk_42_method_46_code 133 = .ok (.areturn, 1) := by decide +kernel
theorem d24_134 : decode jdk_42_method_46_code 134 = .ok (.aload 4, 2) := by decide +kernel
theorem d24_136 : decode jdk_42_method_46_code 136 = .ok (.iload_n 3, 1) := by decide +kernel
theorem d24_137 : decode jdk_42_method_46_code 137 = .ok (.invokestatic 102, 3) := by decide +kernel
theorem d24_140 : decode jdk_42_method_46_code 140 = .ok (.areturn, 1) := by decide +kernel
theorem pn_java_lang_String : plainName "java/lang/String" = true := by first | (simp [plainName, overriddenIn]; done) | decide +kernel
theorem ef_eu (m : MethodId) (x0 : Int32) (x1 : Addr) (x2 : Int32) : entryFrame m #[(.int x0), (.ref x1), (.int x2)] 9 = mkF m 0 #[.val (.int x0), .val (.ref x1), .val (.int x2), .unset, .unset, .unset, .unset, .unset, .unset] [] := by first | (simp [entryFrame, mkF, argsToLocals, Value.category]; done) | rfl
def Qeu (Z : State) (a2 : Addr) (k : ClassId) (c0 : Int32) (h0 : Heap) (n0 : Nat) (v : Option Value) (h : Heap) (L : List Loc) : Prop := ∃ (b : Addr), v = some (.ref b) ∧ Fr n0 L ∧ Keep h0 h [] ∧ n0 ≤ b ∧ h0.size ≤ b ∧ Arv Z h b k .byte (1 : Int32) [(.int c0)] (.int (0 : Int32)) ∧ Exa Z h b "[B"
abbrev Geu (Z : State) (a2 : Addr) (k : ClassId) (c0 : Int32) (h0 : Heap) (n0 : Nat) (s : State) : Outcome → State → Prop := fun o U' => ∃ v L, o = .returned v ∧ Qeu Z a2 k c0 h0 n0 v U'.heap L ∧ FrameEnd s o U' L ({ frames := 2, cells := 1, slots := 1, locals := 44 } : Room).cells ({ frames := 2, cells := 1, slots := 1, locals := 44 } : Room).slots
theorem pd__28__5b_BII_29_Z : parseMethodDescriptor "([BII)Z" = some ⟨[(.array .byte), .int, .int], some .boolean⟩ := by decide +kernel
set_option maxRecDepth 65536 in
set_option maxHeartbeats 40000000 in
theorem rmeu (l : Launch) (Z : State) (a0 : Array Value) (hw : ∀ d ∈ tables_1, d.before a0 Z = true) (ws : List Jvm.Cond) (a2 : Addr) (k : ClassId) (c0 : Int32) (h0 : Heap) (n0 : Nat) (Z0 : n0 ≤ h0.size) (V_a2 : Arv Z h0 a2 k .byte (1 : Int32) [(.int c0)] (.int (0 : Int32))) (E_a2 : Exa Z h0 a2 "[B") (hc : ¬ c0 < (0 : Int32)) :
    MetFree l (⟨"java/lang/String", "encodeUTF8", "(B[BZ)[B"⟩ : MethodName) (head1 (Jvm.Cond.code (⟨"java/lang/String", "encodeUTF8", "(B[BZ)[B"⟩ : MethodName) jdk_42_method_46_code 9 (some (.array .byte)) :: ws) ({ frames := 2, cells := 1, slots := 1, locals := 44 } : Room)) (fun a U => a = #[(.int (0 : Int32)), (.ref a2), (.int (1 : Int32))] ∧ Z.Warmed39 U.vm ∧ U.heap = h0) (fun _ _ _ _ _ => True) (fun _ U o U' => ∃ v L, o = .returned v ∧ Qeu Z a2 k c0 h0 n0 v U'.heap L ∧ FrameEnd U o U' L ({ frames := 2, cells := 1, slots := 1, locals := 44 } : Room).cells ({ frames := 2, cells := 1, slots := 1, locals := 44 } : Room).slots) := by
  refine MetFree.of_bodySF (plainFor_of_name pn_java_lang_String) hisR ?_
  intro p e s m args below meth c s₁ Bd hml0 hP hK
  obtain ⟨rfl, hZ, hh⟩ := hP
  have hx := Bd.exec
  have hby := Bd.bytes
  have hml : c.maxLocals = 9 := hml0
  have hown : s.vm.findClass "java/lang/String" = some m.cls := findClass_of_methodNamed Bd.named
  have hnm := (name_of_methodNamed Bd.named Bd.method).1
  have X0 : Stand p l e ({ frames := 2, cells := 1, slots := 1, locals := 44 } : Room) s m #[(.int (0 : Int32)), (.ref a2), (.int (1 : Int32))] below meth c s₁ [] 0 0 := Stand.of_body Bd
  have e0 : s₁.heap = h0 := by rw [← hh, Bd.state]; rfl
  have es0 : s.heap = h0 := hh
  have N0 := Fr.nil n0
  show own_Fin p e below (Geu Z a2 k c0 h0 n0 s) (s₁.setTop (entryFrame m #[(.int (0 : Int32)), (.ref a2), (.int (1 : Int32))] 9))
  rw [ef_eu m (0 : Int32) a2 (1 : Int32)]
  have Kz := Keep.refl h0 []
  refine own_go (XS.iloadN X0.here hx rfl (hb hby d24_0) rfl (Steps.refl _)) ?_
  show own_Fin _ _ _ _ (s₁.setTop (mkF m 1 #[iv (0 : Int32), rv a2, iv (1 : Int32), .unset, .unset, .unset, .unset, .unset, .unset] [(.int (0 : Int32))]))
  refine own_go (XS.iconst X0.here hx rfl (hb hby d24_1) (Steps.refl _)) ?_
  show own_Fin _ _ _ _ (s₁.setTop (mkF m 2 #[iv (0 : Int32), rv a2, iv (1 : Int32), .unset, .unset, .unset, .unset, .unset, .unset] [(.int (1 : Int32)), (.int (0 : Int32))]))
  refine own_go (XS.icmpYes X0.here hx rfl (pc0 := 2) (pc' := 11) rfl (hb hby d24_2) rfl (feq (by decide : ¬ ((0 : Int32) = (1 : Int32)))).2 (by decide) (by decide) (Steps.refl _)) ?_
  show own_Fin _ _ _ _ (s₁.setTop (mkF m 11 #[iv (0 : Int32), rv a2, iv (1 : Int32), .unset, .unset, .unset, .unset, .unset, .unset] []))
  refine own_go (XS.aloadN X0.here hx rfl (hb hby d24_11) rfl rfl (Steps.refl _)) ?_
  show own_Fin _ _ _ _ (s₁.setTop (mkF m 12 #[iv (0 : Int32), rv a2, iv (1 : Int32), .unset, .unset, .unset, .unset, .unset, .unset] [(.ref a2)]))
  refine own_go (XS.iconst X0.here hx rfl (hb hby d24_12) (Steps.refl _)) ?_
  show own_Fin _ _ _ _ (s₁.setTop (mkF m 13 #[iv (0 : Int32), rv a2, iv (1 : Int32), .unset, .unset, .unset, .unset, .unset, .unset] [(.int (0 : Int32)), (.ref a2)]))
  refine own_go (XS.aloadN X0.here hx rfl (hb hby d24_13) rfl rfl (Steps.refl _)) ?_
  show own_Fin _ _ _ _ (s₁.setTop (mkF m 14 #[iv (0 : Int32), rv a2, iv (1 : Int32), .unset, .unset, .unset, .unset, .unset, .unset] [(.ref a2), (.int (0 : Int32)), (.ref a2)]))
  obtain ⟨cl107, Ar107, qa107, Sa107, Na107, Ha107, Ga107⟩ := id V_a2
  refine own_by (X0.arraylength hx (by rw [e0]; exact Ar107.1) (State.isArrayOf_alike hZ.alike Ar107.2.1) (g := (mkF m 14 #[iv (0 : Int32), rv a2, iv (1 : Int32), .unset, .unset, .unset, .unset, .unset, .unset] [(.ref a2), (.int (0 : Int32)), (.ref a2)])) rfl rfl (hb hby d24_14)) ?_
  rw [len_of Sa107 Na107]
  show own_Fin _ _ _ _ (s₁.setTop (mkF m 15 #[iv (0 : Int32), rv a2, iv (1 : Int32), .unset, .unset, .unset, .unset, .unset, .unset] [(.int (1 : Int32)), (.int (0 : Int32)), (.ref a2)]))
  obtain ⟨_, _, ⟨T108, L108, k108, n108⟩, -, X108, ⟨Lc108, hQ108, l108, y108, z108⟩, st108⟩ := Jvm.LawKit.callS X0 hx (y := (⟨"java/lang/StringCoding", "hasNegatives", "([BII)Z"⟩ : MethodName)) hown (mvT hZ (hw _ (List.mem_of_getElem? (i := 162) rfl))) (mvT hZ (hw _ (List.mem_of_getElem? (i := 163) rfl))) (mvT hZ (hw _ (List.mem_of_getElem? (i := 164) rfl))) (mvT hZ (hw _ (List.mem_of_getElem? (i := 165) rfl))) (by decide) (backOf (W := 0) (rmhn l Z a0 hw [] a2 k c0 h0 n0 Z0 V_a2 hc) hZ (hw _ (List.mem_of_getElem? (i := 165) rfl)) (hw _ (List.mem_of_getElem? (i := 164) rfl)) (by decide) (by decide)) (g := (mkF m 15 #[iv (0 : Int32), rv a2, iv (1 : Int32), .unset, .unset, .unset, .unset, .unset, .unset] [(.int (1 : Int32)), (.int (0 : Int32)), (.ref a2)])) rfl (by rw [hml]; rfl) (argsL := [(.ref a2), (.int (0 : Int32)), (.int (1 : Int32))]) (rest := []) (lenOf pd__28__5b_BII_29_Z rfl) rfl (by show 2 * 0 + _ ≤ _; exact Nat.le_of_eq rfl) (hb hby d24_15) (fun _ _ => ⟨rfl, e0, (by decide : 0 + 0 ≤ _), (by decide : 0 + 0 ≤ _)⟩)
  dsimp only [Pt.U, Pt.locs, Pt.cells, Pt.slots] at X108 l108 y108 z108 st108 hQ108
  subst l108 y108 z108
  obtain ⟨rfl, Nq108, e108⟩ := hQ108
  refine own_by st108 ?_
  have N108 := Fr.app N0 Nq108
  show own_Fin _ _ _ _ (T108.setTop (mkF m 18 #[iv (0 : Int32), rv a2, iv (1 : Int32), .unset, .unset, .unset, .unset, .unset, .unset] [(.int (0 : Int32))]))
  refine own_go (XS.ifNo X108.here hx rfl (hb hby d24_18) rfl ((if0 _ _).trans (teq (by decide : (0 : Int32) = (0 : Int32))).2) (Steps.refl _)) ?_
  show own_Fin _ _ _ _ (T108.setTop (mkF m 21 #[iv (0 : Int32), rv a2, iv (1 : Int32), .unset, .unset, .unset, .unset, .unset, .unset] []))
  refine own_go (XS.aloadN X108.here hx rfl (hb hby d24_21) rfl rfl (Steps.refl _)) ?_
  show own_Fin _ _ _ _ (T108.setTop (mkF m 22 #[iv (0 : Int32), rv a2, iv (1 : Int32), .unset, .unset, .unset, .unset, .unset, .unset] [(.ref a2)]))
  obtain ⟨T109, h109, X109, e109, E109, V109, B109, st109⟩ := cloneH X108 hx hZ hown (hw _ (List.mem_of_getElem? (i := 169) rfl)) (hw _ (List.mem_of_getElem? (i := 170) rfl)) (hw _ (List.mem_of_getElem? (i := 174) rfl)) (hw _ (List.mem_of_getElem? (i := 172) rfl)) (hw _ (List.mem_of_getElem? (i := 173) rfl)) (hw _ (List.mem_of_getElem? (i := 175) rfl)) e108 (Arv.arh V_a2) E_a2 (g := (mkF m 22 #[iv (0 : Int32), rv a2, iv (1 : Int32), .unset, .unset, .unset, .unset, .unset, .unset] [(.ref a2)])) rfl (by rw [hml]; rfl) rfl (hb hby d24_22) (by decide) (W := 0) (by show 2 * 0 + _ ≤ _; exact Nat.le_of_eq rfl) (by decide) (cap := 1) (by first | decide | assumption) (by decide) (by decide)
  obtain ⟨b109, g109⟩ : ∃ z, z = h0.size := ⟨_, rfl⟩
  rw [← g109] at V109 B109 st109
  refine own_by st109 ?_
  have ne_a2_b109 : a2 ≠ b109 := Nat.ne_of_lt (Nat.lt_of_lt_of_eq V_a2.lt g109.symm)
  have V_a2_109 := V_a2.ext E109
  have E_a2_109 := E_a2.ext E109
  have g_b109 : n0 ≤ b109 := Nat.le_trans Z0 (Nat.le_of_eq g109.symm)
  have sz_b109 : h0.size ≤ b109 := Nat.le_trans Kz.1 (Nat.le_of_eq g109.symm)
  have K109 := Kz.ext E109
  have Z109 : n0 ≤ h109.size := Nat.le_trans Z0 E109.1
  have V_b109 : Arv Z h109 b109 k .byte (1 : Int32) [(.int c0)] (.int (0 : Int32)) := V109
  have E_b109 := B109
  show own_Fin _ _ _ _ (T109.setTop (mkF m 25 #[iv (0 : Int32), rv a2, iv (1 : Int32), .unset, .unset, .unset, .unset, .unset, .unset] [(.ref b109)]))
  obtain ⟨T110, X110, e110, st110⟩ := castY X109 hx hZ hown (hw _ (List.mem_of_getElem? (i := 176) rfl)) e109 (Ins.self E_b109) (g := (mkF m 25 #[iv (0 : Int32), rv a2, iv (1 : Int32), .unset, .unset, .unset, .unset, .unset, .unset] [(.ref b109)])) rfl rfl (hb hby d24_25)
  refine own_by st110 ?_
  show own_Fin _ _ _ _ (T110.setTop (mkF m 28 #[iv (0 : Int32), rv a2, iv (1 : Int32), .unset, .unset, .unset, .unset, .unset, .unset] [(.ref b109)]))
  obtain ⟨fs111, hr111, hrun111, hended111, hW111, hsame111⟩ := X110.leave (v := some (.ref b109)) (fun h => by rw [Bd.returns] at h; cases h)
  refine own_done (retOut X110 hx Bd.returns rfl (Or.inr (Or.inr (Or.inr (Or.inr ⟨rfl, rfl, rfl⟩)))) (hb hby d24_28) hr111) hrun111 hended111 ⟨_, _, rfl, ?_, ⟨_, rfl⟩, hW111, hsame111.mono (by decide) (by decide)⟩
  show Qeu Z a2 k c0 h0 n0 _ T110.heap _
  rw [e110]
  exact ⟨b109, rfl, N108, K109, g_b109, sz_b109, V_b109, E_b109⟩
theorem d23_0 : decode jdk_42_method_18_code 0 = .ok (.aload_n 0, 1) := by decide +kernel
theorem d23_1 : decode jdk_42_method_18_code 1 = .ok (.getstatic 86, 3) := by decide +kernel
theorem d23_4 : decode jdk_42_method_18_code 4 = .ok (.if_acmp .ne 10, 3) := by decide +kernel
theorem d23_7 : decode jdk_42_method_18_code 7 = .ok (.iload_n 1, 1) := by decide +kernel
theorem d23_8 : decode jdk_42_method_18_code 8 = .ok (.aload_n 2, 1) := by decide +kernel
theorem d23_9 : decode jdk_42_method_18_code 9 = .ok (.iconst 1, 1) := by decide +kernel
theorem d23_10 : decode jdk_42_method_18_code 10 = .ok (.invokestatic 252, 3) := by decide +kernel
theorem d23_13 : decode jdk_42_method_18_code 13 = .ok (.areturn, 1) := by decide +kernel
theorem d23_14 : decode jdk_42_method_18_code 14 = .ok (.aload_n 0, 1) := by decide +kernel
theorem d23_15 : decode jdk_42_method_18_code 15 = .ok (.getstatic 116, 3) := by decide +kernel
theorem d23_18 : decode jdk_42_method_18_code 18 = .ok (.if_acmp .ne 9, 3) := by decide +kernel
theorem d23_21 : decode jdk_42_method_18_code 21 = .ok (.iload_n 1, 1) := by decide +kernel
theorem d23_22 : decode jdk_42_method_18_code 22 = .ok (.aload_n 2, 1) := by decide +kernel
theorem d23_23 : decode jdk_42_method_18_code 23 = .ok (.invokestatic 256, 3) := by decide +kernel
theorem d23_26 : decode jdk_42_method_18_code 26 = .ok (.areturn, 1) := by decide +kernel
theorem d23_27 : decode jdk_42_method_18_code 27 = .ok (.aload_n 0, 1) := by decide +kernel
theorem d23_28 : decode jdk_42_method_18_code 28 = .ok (.getstatic 123, 3) := by decide +kernel
theorem d23_31 : decode jdk_42_method_18_code 31 = .ok (.if_acmp .ne 9, 3) := by decide +kernel
theorem d23_34 : decode jdk_42_method_18_code 34 = .ok (.iload_n 1, 1) := by decide +kernel
theorem d23_35 : decode jdk_42_method_18_code 35 = .ok (.aload_n 2, 1) := by decide +kernel
theorem d23_36 : decode jdk_42_method_18_code 36 = .ok (.invokestatic 260, 3) := by decide +kernel
theorem d23_39 : decode jdk_42_method_18_code 39 = .ok (.areturn, 1) := by decide +kernel
theorem d23_40 : decode jdk_42_method_18_code 40 = .ok (.aload_n 0, 1) := by decide +kernel
theorem d23_41 : decode jdk_42_method_18_code 41 = .ok (.iload_n 1, 1) := by decide +kernel
theorem d23_42 : decode jdk_42_method_18_code 42 = .ok (.aload_n 2, 1) := by decide +kernel
theorem d23_43 : decode jdk_42_method_18_code 43 = .ok (.iconst 1, 1) := by decide +kernel
theorem d23_44 : decode jdk_42_method_18_code 44 = .ok (.invokestatic 263, 3) := by decide +kernel
theorem d23_47 : decode jdk_42_method_18_code 47 = .ok (.areturn, 1) := by decide +kernel
theorem ef_en (m : MethodId) (x0 : Addr) (x1 : Int32) (x2 : Addr) : entryFrame m #[(.ref x0), (.int x1), (.ref x2)] 3 = mkF m 0 #[.val (.ref x0), .val (.int x1), .val (.ref x2)] [] := by first | (simp [entryFrame, mkF, argsToLocals, Value.category]; done) | rfl
def Qen (Z : State) (u : Addr) (a3 : Addr) (k : ClassId) (c0 : Int32) (h0 : Heap) (n0 : Nat) (v : Option Value) (h : Heap) (L : List Loc) : Prop := ∃ (b : Addr), v = some (.ref b) ∧ Fr n0 L ∧ Keep h0 h [] ∧ n0 ≤ b ∧ h0.size ≤ b ∧ Arv Z h b k .byte (1 : Int32) [(.int c0)] (.int (0 : Int32)) ∧ Exa Z h b "[B"
abbrev Gen (Z : State) (u : Addr) (a3 : Addr) (k : ClassId) (c0 : Int32) (h0 : Heap) (n0 : Nat) (s : State) : Outcome → State → Prop := fun o U' => ∃ v L, o = .returned v ∧ Qen Z u a3 k c0 h0 n0 v U'.heap L ∧ FrameEnd s o U' L ({ frames := 3, cells := 1, slots := 1, locals := 68 } : Room).cells ({ frames := 3, cells := 1, slots := 1, locals := 68 } : Room).slots
theorem pd__28_B_5b_BZ_29__5b_B : parseMethodDescriptor "(B[BZ)[B" = some ⟨[.byte, (.array .byte), .boolean], some (.array .byte)⟩ := by decide +kernel
set_option maxRecDepth 65536 in
set_option maxHeartbeats 40000000 in
theorem rmen (l : Launch) (Z : State) (a0 : Array Value) (hw : ∀ d ∈ tables_1, d.before a0 Z = true) (ws : List Jvm.Cond) (u : Addr) (a3 : Addr) (k : ClassId) (c0 : Int32) (h0 : Heap) (n0 : Nat) (Z0 : n0 ≤ h0.size) (V_a3 : Arv Z h0 a3 k .byte (1 : Int32) [(.int c0)] (.int (0 : Int32))) (E_a3 : Exa Z h0 a3 "[B") (hc : ¬ c0 < (0 : Int32)) (S_INSTANCE : Sta Z Z.heap "sun/nio/cs/UTF_8" "INSTANCE" "Lsun/nio/cs/UTF_8;" (.ref u)) (O0 : Old Z n0 h0) :
    MetFree l (⟨"java/lang/String", "encode", "(Ljava/nio/charset/Charset;B[B)[B"⟩ : MethodName) (head1 (Jvm.Cond.code (⟨"java/lang/String", "encode", "(Ljava/nio/charset/Charset;B[B)[B"⟩ : MethodName) jdk_42_method_18_code 3 (some (.array .byte)) :: ws) ({ frames := 3, cells := 1, slots := 1, locals := 68 } : Room)) (fun a U => a = #[(.ref u), (.int (0 : Int32)), (.ref a3)] ∧ Z.Warmed39 U.vm ∧ U.heap = h0) (fun _ _ _ _ _ => True) (fun _ U o U' => ∃ v L, o = .returned v ∧ Qen Z u a3 k c0 h0 n0 v U'.heap L ∧ FrameEnd U o U' L ({ frames := 3, cells := 1, slots := 1, locals := 68 } : Room).cells ({ frames := 3, cells := 1, slots := 1, locals := 68 } : Room).slots) := by
  refine MetFree.of_bodySF (plainFor_of_name pn_java_lang_String) hisR ?_
  intro p e s m args below meth c s₁ Bd hml0 hP hK
  obtain ⟨rfl, hZ, hh⟩ := hP
  have hx := Bd.exec
  have hby := Bd.bytes
  have hml : c.maxLocals = 3 := hml0
  have hown : s.vm.findClass "java/lang/String" = some m.cls := findClass_of_methodNamed Bd.named
  have hnm := (name_of_methodNamed Bd.named Bd.method).1
  have X0 : Stand p l e ({ frames := 3, cells := 1, slots := 1, locals := 68 } : Room) s m #[(.ref u), (.int (0 : Int32)), (.ref a3)] below meth c s₁ [] 0 0 := Stand.of_body Bd
  have e0 : s₁.heap = h0 := by rw [← hh, Bd.state]; rfl
  have es0 : s.heap = h0 := hh
  have N0 := Fr.nil n0
  show own_Fin p e below (Gen Z u a3 k c0 h0 n0 s) (s₁.setTop (entryFrame m #[(.ref u), (.int (0 : Int32)), (.ref a3)] 3))
  rw [ef_en m u (0 : Int32) a3]
  have Kz := Keep.refl h0 []
  refine own_go (XS.aloadN X0.here hx rfl (hb hby d23_0) rfl rfl (Steps.refl _)) ?_
  show own_Fin _ _ _ _ (s₁.setTop (mkF m 1 #[rv u, iv (0 : Int32), rv a3] [(.ref u)]))
  obtain ⟨T112, X112, e112, st112⟩ := getS2 X0 hx hZ hown (host := "") (Or.inl (hw _ (List.mem_of_getElem? (i := 157) rfl))) Via.refl e0 (S_INSTANCE.ext O0.2) (g := (mkF m 1 #[rv u, iv (0 : Int32), rv a3] [(.ref u)])) rfl (hb hby d23_1)
  refine own_by st112 ?_
  show own_Fin _ _ _ _ (T112.setTop (mkF m 4 #[rv u, iv (0 : Int32), rv a3] [(.ref u), (.ref u)]))
  refine own_go (Jvm.RoadKit.acmp (g := (mkF m 4 #[rv u, iv (0 : Int32), rv a3] [(.ref u), (.ref u)])) X112 hx rfl rfl rfl (pc0 := 4) (pc' := 7) (same := true) rfl (hb hby d23_4) rfl (decide_eq_true rfl) (by decide) (by decide) (Steps.refl _)) ?_
  show own_Fin _ _ _ _ (T112.setTop (mkF m 7 #[rv u, iv (0 : Int32), rv a3] []))
  refine own_go (XS.iloadN X112.here hx rfl (hb hby d23_7) rfl (Steps.refl _)) ?_
  show own_Fin _ _ _ _ (T112.setTop (mkF m 8 #[rv u, iv (0 : Int32), rv a3] [(.int (0 : Int32))]))
  refine own_go (XS.aloadN X112.here hx rfl (hb hby d23_8) rfl rfl (Steps.refl _)) ?_
  show own_Fin _ _ _ _ (T112.setTop (mkF m 9 #[rv u, iv (0 : Int32), rv a3] [(.ref a3), (.int (0 : Int32))]))
  refine own_go (XS.iconst X112.here hx rfl (hb hby d23_9) (Steps.refl _)) ?_
  show own_Fin _ _ _ _ (T112.setTop (mkF m 10 #[rv u, iv (0 : Int32), rv a3] [(.int (1 : Int32)), (.ref a3), (.int (0 : Int32))]))
  obtain ⟨_, _, ⟨T113, L113, k113, n113⟩, -, X113, ⟨Lc113, hQ113, l113, y113, z113⟩, st113⟩ := Jvm.LawKit.callS X112 hx (y := (⟨"java/lang/String", "encodeUTF8", "(B[BZ)[B"⟩ : MethodName)) hown (mvT hZ (hw _ (List.mem_of_getElem? (i := 159) rfl))) (mvT hZ (hw _ (List.mem_of_getElem? (i := 160) rfl))) (mvT hZ (hw _ (List.mem_of_getElem? (i := 78) rfl))) (mvT hZ (hw _ (List.mem_of_getElem? (i := 161) rfl))) (by decide) (backOf (W := 0) (rmeu l Z a0 hw [] a3 k c0 h0 n0 Z0 V_a3 E_a3 hc) hZ (hw _ (List.mem_of_getElem? (i := 161) rfl)) (hw _ (List.mem_of_getElem? (i := 78) rfl)) (by decide) (by decide)) (g := (mkF m 10 #[rv u, iv (0 : Int32), rv a3] [(.int (1 : Int32)), (.ref a3), (.int (0 : Int32))])) rfl (by rw [hml]; rfl) (argsL := [(.int (0 : Int32)), (.ref a3), (.int (1 : Int32))]) (rest := []) (lenOf pd__28_B_5b_BZ_29__5b_B rfl) rfl (by show 2 * 0 + _ ≤ _; exact Nat.le_of_eq rfl) (hb hby d23_10) (fun _ _ => ⟨rfl, e112, (by decide : 0 + 1 ≤ _), (by decide : 0 + 1 ≤ _)⟩)
  dsimp only [Pt.U, Pt.locs, Pt.cells, Pt.slots] at X113 l113 y113 z113 st113 hQ113
  subst l113 y113 z113
  refine own_by st113 ?_
  obtain ⟨b_113, rfl, Nq113, K113, g_b_113, sb_b_113, r113_0, r113_1⟩ := hQ113
  have ne_a3_b_113 : a3 ≠ b_113 := Nat.ne_of_lt (Nat.lt_of_lt_of_le V_a3.lt sb_b_113)
  have sz_b_113 : h0.size ≤ b_113 := Nat.le_trans Kz.1 sb_b_113
  have Od113 := O0.keep K113 all0
  have V_a3_113 := V_a3.keep K113 nin0
  have E_a3_113 := E_a3.keep K113
  have Z113 : n0 ≤ T113.heap.size := Nat.le_trans Z0 K113.1
  have Kt113 := Kz.trans K113 all0
  have N113 := Fr.app N0 Nq113
  show own_Fin _ _ _ _ (T113.setTop (mkF m 13 #[rv u, iv (0 : Int32), rv a3] [(.ref b_113)]))
  obtain ⟨fs114, hr114, hrun114, hended114, hW114, hsame114⟩ := X113.leave (v := some (.ref b_113)) (fun h => by rw [Bd.returns] at h; cases h)
  refine own_done (retOut X113 hx Bd.returns rfl (Or.inr (Or.inr (Or.inr (Or.inr ⟨rfl, rfl, rfl⟩)))) (hb hby d23_13) hr114) hrun114 hended114 ⟨_, _, rfl, ?_, ⟨_, rfl⟩, hW114, hsame114.mono (by decide) (by decide)⟩
  show Qen Z u a3 k c0 h0 n0 _ T113.heap _
  exact ⟨b_113, rfl, N113, Kt113, g_b_113, sz_b_113, r113_0, r113_1⟩
theorem d22_0 : decode jdk_42_method_152_code 0 = .ok (.getstatic 38, 3) := by decide +kernel
theorem d22_3 : decode jdk_42_method_152_code 3 = .ok (.ifCond .eq 10, 3) := by decide +kernel
theorem d22_6 : decode jdk_42_method_152_code 6 = .ok (.aload_n 0, 1) := by decide +kernel
theorem d22_7 : decode jdk_42_method_152_code 7 = .ok (.getfield 15, 3) := by decide +kernel
theorem d22_10 : decode jdk_42_method_152_code 10 = .ok (.goto 4, 3) := by decide +kernel
theorem d22_13 : decode jdk_42_method_152_code 13 = .ok (.iconst 1, 1) := by decide +kernel
theorem d22_14 : decode jdk_42_method_152_code 14 = .ok (.ireturn, 1) := by decide +kernel
theorem ef_co (m : MethodId) (x0 : Addr) : entryFrame m #[(.ref x0)] 1 = mkF m 0 #[.val (.ref x0)] [] := by first | (simp [entryFrame, mkF, argsToLocals, Value.category]; done) | rfl
def Qco (Z : State) (a1 : Addr) (cs : Int32) (h0 : Heap) (n0 : Nat) (v : Option Value) (h : Heap) (L : List Loc) : Prop := v = some (.int (0 : Int32)) ∧ Fr n0 L ∧ h = h0
abbrev Gco (Z : State) (a1 : Addr) (cs : Int32) (h0 : Heap) (n0 : Nat) (s : State) : Outcome → State → Prop := fun o U' => ∃ v L, o = .returned v ∧ Qco Z a1 cs h0 n0 v U'.heap L ∧ FrameEnd s o U' L ({ frames := 0, cells := 0, slots := 0, locals := 0 } : Room).cells ({ frames := 0, cells := 0, slots := 0, locals := 0 } : Room).slots
set_option maxRecDepth 65536 in
set_option maxHeartbeats 40000000 in
theorem rmco (l : Launch) (Z : State) (a0 : Array Value) (hw : ∀ d ∈ tables_1, d.before a0 Z = true) (ws : List Jvm.Cond) (a1 : Addr) (cs : Int32) (h0 : Heap) (n0 : Nat) (Z0 : n0 ≤ h0.size) (F_coder_a1 : Fld Z h0 a1 "java/lang/String" "coder" "B" (.int (0 : Int32))) (S_COMPACT_STRINGS : Sta Z Z.heap "java/lang/String" "COMPACT_STRINGS" "Z" (.int cs)) (O0 : Old Z n0 h0) (hcs : ¬ cs = (0 : Int32)) :
    MetFree l (⟨"java/lang/String", "coder", "()B"⟩ : MethodName) (head1 (Jvm.Cond.code (⟨"java/lang/String", "coder", "()B"⟩ : MethodName) jdk_42_method_152_code 1 (some .byte) :: ws) ({ frames := 0, cells := 0, slots := 0, locals := 0 } : Room)) (fun a U => a = #[(.ref a1)] ∧ Z.Warmed39 U.vm ∧ U.heap = h0) (fun _ _ _ _ _ => True) (fun _ U o U' => ∃ v L, o = .returned v ∧ Qco Z a1 cs h0 n0 v U'.heap L ∧ FrameEnd U o U' L ({ frames := 0, cells := 0, slots := 0, locals := 0 } : Room).cells ({ frames := 0, cells := 0, slots := 0, locals := 0 } : Room).slots) := by
  refine MetFree.of_bodySF (plainFor_of_name pn_java_lang_String) hisR ?_
  intro p e s m args below meth c s₁ Bd hml0 hP hK
  obtain ⟨rfl, hZ, hh⟩ := hP
  have hx := Bd.exec
  have hby := Bd.bytes
  have hml : c.maxLocals = 1 := hml0
  have hown : s.vm.findClass "java/lang/String" = some m.cls := findClass_of_methodNamed Bd.named
  have hnm := (name_of_methodNamed Bd.named Bd.method).1
  have X0 : Stand p l e ({ frames := 0, cells := 0, slots := 0, locals := 0 } : Room) s m #[(.ref a1)] below meth c s₁ [] 0 0 := Stand.of_body Bd
  have e0 : s₁.heap = h0 := by rw [← hh, Bd.state]; rfl
  have es0 : s.heap = h0 := hh
  have N0 := Fr.nil n0
  show own_Fin p e below (Gco Z a1 cs h0 n0 s) (s₁.setTop (entryFrame m #[(.ref a1)] 1))
  rw [ef_co m a1]
  obtain ⟨T115, X115, e115, st115⟩ := getS2 X0 hx hZ hown (host := "") (Or.inl (hw _ (List.mem_of_getElem? (i := 151) rfl))) Via.refl e0 (S_COMPACT_STRINGS.ext O0.2) (g := (mkF m 0 #[rv a1] [])) rfl (hb hby d22_0)
  refine own_by st115 ?_
  show own_Fin _ _ _ _ (T115.setTop (mkF m 3 #[rv a1] [(.int cs)]))
  refine own_go (XS.ifNo X115.here hx rfl (hb hby d22_3) rfl ((if0 _ _).trans (feq (show ¬ (cs = (0 : Int32)) from hcs)).1) (Steps.refl _)) ?_
  show own_Fin _ _ _ _ (T115.setTop (mkF m 6 #[rv a1] []))
  refine own_go (XS.aloadN X115.here hx rfl (hb hby d22_6) rfl rfl (Steps.refl _)) ?_
  show own_Fin _ _ _ _ (T115.setTop (mkF m 7 #[rv a1] [(.ref a1)]))
  obtain ⟨T116, X116, e116, st116⟩ := getF X115 hx hZ hown (host := "") (Or.inl (hw _ (List.mem_of_getElem? (i := 152) rfl))) Via.refl e115 F_coder_a1 (g := (mkF m 7 #[rv a1] [(.ref a1)])) rfl rfl (hb hby d22_7)
  refine own_by st116 ?_
  show own_Fin _ _ _ _ (T116.setTop (mkF m 10 #[rv a1] [(.int (0 : Int32))]))
  refine own_go (XS.goto X116.here hx rfl (pc0 := 10) (pc' := 14) rfl (hb hby d22_10) (by decide) (by decide) (Steps.refl _)) ?_
  show own_Fin _ _ _ _ (T116.setTop (mkF m 14 #[rv a1] [(.int (0 : Int32))]))
  obtain ⟨fs117, hr117, hrun117, hended117, hW117, hsame117⟩ := X116.leave (v := some (.int (0 : Int32))) (fun h => by rw [Bd.returns] at h; cases h)
  refine own_done (retN X116 hx (t := .byte) Bd.returns (by simp) (hb hby d22_14) hr117) hrun117 hended117 ⟨_, _, rfl, ?_, ⟨_, rfl⟩, hW117, hsame117.mono (by decide) (by decide)⟩
  show Qco Z a1 cs h0 n0 _ T116.heap _
  rw [e116]
  exact ⟨rfl, N0, rfl⟩
theorem d21_0 : decode jdk_42_method_64_code 0 = .ok (.aload_n 1, 1) := by decide +kernel
theorem d21_1 : decode jdk_42_method_64_code 1 = .ok (.ifnonnull 11, 3) := by decide +kernel
theorem d21_4 : decode jdk_42_method_64_code 4 = .ok (.new 538, 3) := by decide +kernel
theorem d21_7 : decode jdk_42_method_64_code 7 = .ok (.dup, 1) := by decide +kernel
theorem d21_8 : decode jdk_42_method_64_code 8 = .ok (.invokespecial 540, 3) := by decide +kernel
theorem d21_11 : decode jdk_42_method_64_code 11 = .ok (.athrow, 1) := by decide +kernel
theorem d21_12 : decode jdk_42_method_64_code 12 = .ok (.aload_n 1, 1) := by decide +kernel
theorem d21_13 : decode jdk_42_method_64_code 13 = .ok (.aload_n 0, 1) := by decide +kernel
theorem d21_14 : decode jdk_42_method_64_code 14 = .ok (.invokevirtual 335, 3) := by decide +kernel
theorem d21_17 : decode jdk_42_method_64_code 17 = .ok (.aload_n 0, 1) := by decide +kernel
theorem d21_18 : decode jdk_42_method_64_code 18 = .ok (.getfield 9, 3) := by decide +kernel
theorem d21_21 : decode jdk_42_method_64_code 21 = .ok (.invokestatic 535, 3) := by decide +kernel
theorem d21_24 : decode jdk_42_method_64_code 24 = .ok (.areturn, 1) := by decide +kernel
theorem ef_gb (m : MethodId) (x0 : Addr) (x1 : Addr) : entryFrame m #[(.ref x0), (.ref x1)] 2 = mkF m 0 #[.val (.ref x0), .val (.ref x1)] [] := by first | (simp [entryFrame, mkF, argsToLocals, Value.category]; done) | rfl
def Qgb (Z : State) (a1 : Addr) (u : Addr) (va : Addr) (k : ClassId) (c0 : Int32) (cs : Int32) (h0 : Heap) (n0 : Nat) (v : Option Value) (h : Heap) (L : List Loc) : Prop := ∃ (b : Addr), v = some (.ref b) ∧ Fr n0 L ∧ Keep h0 h [] ∧ n0 ≤ b ∧ h0.size ≤ b ∧ Arv Z h b k .byte (1 : Int32) [(.int c0)] (.int (0 : Int32)) ∧ Exa Z h b "[B"
abbrev Ggb (Z : State) (a1 : Addr) (u : Addr) (va : Addr) (k : ClassId) (c0 : Int32) (cs : Int32) (h0 : Heap) (n0 : Nat) (s : State) : Outcome → State → Prop := fun o U' => ∃ v L, o = .returned v ∧ Qgb Z a1 u va k c0 cs h0 n0 v U'.heap L ∧ FrameEnd s o U' L ({ frames := 4, cells := 1, slots := 1, locals := 88 } : Room).cells ({ frames := 4, cells := 1, slots := 1, locals := 88 } : Room).slots
theorem pd__28__29_B : parseMethodDescriptor "()B" = some ⟨[], some .byte⟩ := by decide +kernel
theorem pd__28_Ljava_2f_nio_2f_charset_2f_Charset_3b_B_5b_B_29__5b_B : parseMethodDescriptor "(Ljava/nio/charset/Charset;B[B)[B" = some ⟨[(.object "java/nio/charset/Charset"), .byte, (.array .byte)], some (.array .byte)⟩ := by decide +kernel
set_option maxRecDepth 65536 in
set_option maxHeartbeats 40000000 in
theorem rmgb (l : Launch) (Z : State) (a0 : Array Value) (hw : ∀ d ∈ tables_1, d.before a0 Z = true) (ws : List Jvm.Cond) (a1 : Addr) (u : Addr) (va : Addr) (k : ClassId) (c0 : Int32) (cs : Int32) (h0 : Heap) (n0 : Nat) (Z0 : n0 ≤ h0.size) (E_a1 : Exa Z h0 a1 "java/lang/String") (F_coder_a1 : Fld Z h0 a1 "java/lang/String" "coder" "B" (.int (0 : Int32))) (F_value_a1 : Fld Z h0 a1 "java/lang/String" "value" "[B" (.ref va)) (V_va : Arv Z h0 va k .byte (1 : Int32) [(.int c0)] (.int (0 : Int32))) (E_va : Exa Z h0 va "[B") (hc : ¬ c0 < (0 : Int32)) (S_INSTANCE : Sta Z Z.heap "sun/nio/cs/UTF_8" "INSTANCE" "Lsun/nio/cs/UTF_8;" (.ref u)) (S_COMPACT_STRINGS : Sta Z Z.heap "java/lang/String" "COMPACT_STRINGS" "Z" (.int cs)) (O0 : Old Z n0 h0) (hcs : ¬ cs = (0 : Int32)) :
    MetFree l (⟨"java/lang/String", "getBytes", "(Ljava/nio/charset/Charset;)[B"⟩ : MethodName) (head1 (Jvm.Cond.code (⟨"java/lang/String", "getBytes", "(Ljava/nio/charset/Charset;)[B"⟩ : MethodName) jdk_42_method_64_code 2 (some (.array .byte)) :: ws) ({ frames := 4, cells := 1, slots := 1, locals := 88 } : Room)) (fun a U => a = #[(.ref a1), (.ref u)] ∧ Z.Warmed39 U.vm ∧ U.heap = h0) (fun _ _ _ _ _ => True) (fun _ U o U' => ∃ v L, o = .returned v ∧ Qgb Z a1 u va k c0 cs h0 n0 v U'.heap L ∧ FrameEnd U o U' L ({ frames := 4, cells := 1, slots := 1, locals := 88 } : Room).cells ({ frames := 4, cells := 1, slots := 1, locals := 88 } : Room).slots) := by
  refine MetFree.of_bodySF (plainFor_of_name pn_java_lang_String) hisR ?_
  intro p e s m args below meth c s₁ Bd hml0 hP hK
  obtain ⟨rfl, hZ, hh⟩ := hP
  have hx := Bd.exec
  have hby := Bd.bytes
  have hml : c.maxLocals = 2 := hml0
  have hown : s.vm.findClass "java/lang/String" = some m.cls := findClass_of_methodNamed Bd.named
  have hnm := (name_of_methodNamed Bd.named Bd.method).1
  have X0 : Stand p l e ({ frames := 4, cells := 1, slots := 1, locals := 88 } : Room) s m #[(.ref a1), (.ref u)] below meth c s₁ [] 0 0 := Stand.of_body Bd
  have e0 : s₁.heap = h0 := by rw [← hh, Bd.state]; rfl
  have es0 : s.heap = h0 := hh
  have N0 := Fr.nil n0
  show own_Fin p e below (Ggb Z a1 u va k c0 cs h0 n0 s) (s₁.setTop (entryFrame m #[(.ref a1), (.ref u)] 2))
  rw [ef_gb m a1 u]
  have Kz := Keep.refl h0 []
  refine own_go (XS.aloadN X0.here hx rfl (hb hby d21_0) rfl rfl (Steps.refl _)) ?_
  show own_Fin _ _ _ _ (s₁.setTop (mkF m 1 #[rv a1, rv u] [(.ref u)]))
  refine own_go (XS.ifnonnullYes X0.here hx rfl (pc0 := 1) (pc' := 12) rfl (hb hby d21_1) rfl (by decide) (by decide) (Steps.refl _)) ?_
  show own_Fin _ _ _ _ (s₁.setTop (mkF m 12 #[rv a1, rv u] []))
  refine own_go (XS.aloadN X0.here hx rfl (hb hby d21_12) rfl rfl (Steps.refl _)) ?_
  show own_Fin _ _ _ _ (s₁.setTop (mkF m 13 #[rv a1, rv u] [(.ref u)]))
  refine own_go (XS.aloadN X0.here hx rfl (hb hby d21_13) rfl rfl (Steps.refl _)) ?_
  show own_Fin _ _ _ _ (s₁.setTop (mkF m 14 #[rv a1, rv u] [(.ref a1), (.ref u)]))
  obtain ⟨cq118, kq118, q118a, q118b, q118c⟩ := isOf hZ e0 E_a1
  obtain ⟨_, _, ⟨T118, L118, k118, n118⟩, -, X118, ⟨Lc118, hQ118, l118, y118, z118⟩, st118⟩ := X0.virtualBack hx (y := (⟨"java/lang/String", "coder", "()B"⟩ : MethodName)) (z := (⟨"java/lang/String", "coder", "()B"⟩ : MethodName)) hown (mvT hZ (hw _ (List.mem_of_getElem? (i := 146) rfl))) (mvT hZ (hw _ (List.mem_of_getElem? (i := 147) rfl))) (notFace_of_selects (args := #[]) (mvT hZ (hw _ (List.mem_of_getElem? (i := 149) rfl)))) (mvT hZ (hw _ (List.mem_of_getElem? (i := 149) rfl))) (mvT hZ (hw _ (List.mem_of_getElem? (i := 148) rfl))) (by decide) (backOf (W := 1) (rmco l Z a0 hw [] a1 cs h0 n0 Z0 F_coder_a1 S_COMPACT_STRINGS O0 hcs) hZ (hw _ (List.mem_of_getElem? (i := 150) rfl)) (hw _ (List.mem_of_getElem? (i := 78) rfl)) (by decide) (by decide)) q118a q118c (g := (mkF m 14 #[rv a1, rv u] [(.ref a1), (.ref u)])) rfl (by rw [hml]; rfl) (Steps.refl _) (argsL := []) (rest := [(.ref u)]) (lenOf pd__28__29_B rfl) rfl (by show 2 * 0 + _ ≤ _; exact Nat.le_of_eq rfl) (hb hby d21_14) (fun _ _ => ⟨rfl, e0, (by decide : 0 + 0 ≤ _), (by decide : 0 + 0 ≤ _)⟩)
  dsimp only [Pt.U, Pt.locs, Pt.cells, Pt.slots] at X118 l118 y118 z118 st118 hQ118
  subst l118 y118 z118
  obtain ⟨rfl, Nq118, e118⟩ := hQ118
  refine own_go st118 ?_
  have N118 := Fr.app N0 Nq118
  show own_Fin _ _ _ _ (T118.setTop (mkF m 17 #[rv a1, rv u] [(.int (0 : Int32)), (.ref u)]))
  refine own_go (XS.aloadN X118.here hx rfl (hb hby d21_17) rfl rfl (Steps.refl _)) ?_
  show own_Fin _ _ _ _ (T118.setTop (mkF m 18 #[rv a1, rv u] [(.ref a1), (.int (0 : Int32)), (.ref u)]))
  obtain ⟨T119, X119, e119, st119⟩ := getF X118 hx hZ hown (host := "") (Or.inl (hw _ (List.mem_of_getElem? (i := 153) rfl))) Via.refl e118 F_value_a1 (g := (mkF m 18 #[rv a1, rv u] [(.ref a1), (.int (0 : Int32)), (.ref u)])) rfl rfl (hb hby d21_18)
  refine own_by st119 ?_
  show own_Fin _ _ _ _ (T119.setTop (mkF m 21 #[rv a1, rv u] [(.ref va), (.int (0 : Int32)), (.ref u)]))
  obtain ⟨_, _, ⟨T120, L120, k120, n120⟩, -, X120, ⟨Lc120, hQ120, l120, y120, z120⟩, st120⟩ := Jvm.LawKit.callS X119 hx (y := (⟨"java/lang/String", "encode", "(Ljava/nio/charset/Charset;B[B)[B"⟩ : MethodName)) hown (mvT hZ (hw _ (List.mem_of_getElem? (i := 154) rfl))) (mvT hZ (hw _ (List.mem_of_getElem? (i := 155) rfl))) (mvT hZ (hw _ (List.mem_of_getElem? (i := 78) rfl))) (mvT hZ (hw _ (List.mem_of_getElem? (i := 156) rfl))) (by decide) (backOf (W := 0) (rmen l Z a0 hw [] u va k c0 h0 n0 Z0 V_va E_va hc S_INSTANCE O0) hZ (hw _ (List.mem_of_getElem? (i := 156) rfl)) (hw _ (List.mem_of_getElem? (i := 78) rfl)) (by decide) (by decide)) (g := (mkF m 21 #[rv a1, rv u] [(.ref va), (.int (0 : Int32)), (.ref u)])) rfl (by rw [hml]; rfl) (argsL := [(.ref u), (.int (0 : Int32)), (.ref va)]) (rest := []) (lenOf pd__28_Ljava_2f_nio_2f_charset_2f_Charset_3b_B_5b_B_29__5b_B rfl) rfl (by show 2 * 0 + _ ≤ _; exact Nat.le_of_eq rfl) (hb hby d21_21) (fun _ _ => ⟨rfl, e119, (by decide : 0 + 1 ≤ _), (by decide : 0 + 1 ≤ _)⟩)
  dsimp only [Pt.U, Pt.locs, Pt.cells, Pt.slots] at X120 l120 y120 z120 st120 hQ120
  subst l120 y120 z120
  refine own_by st120 ?_
  obtain ⟨b_120, rfl, Nq120, K120, g_b_120, sb_b_120, r120_0, r120_1⟩ := hQ120
  have ne_a1_b_120 : a1 ≠ b_120 := Nat.ne_of_lt (Nat.lt_of_lt_of_le E_a1.lt sb_b_120)
  have ne_va_b_120 : va ≠ b_120 := Nat.ne_of_lt (Nat.lt_of_lt_of_le V_va.lt sb_b_120)
  have sz_b_120 : h0.size ≤ b_120 := Nat.le_trans Kz.1 sb_b_120
  have Od120 := O0.keep K120 all0
  have E_a1_120 := E_a1.keep K120
  have F_coder_a1_120 := F_coder_a1.keep K120 nin0
  have F_value_a1_120 := F_value_a1.keep K120 nin0
  have V_va_120 := V_va.keep K120 nin0
  have E_va_120 := E_va.keep K120
  have Z120 : n0 ≤ T120.heap.size := Nat.le_trans Z0 K120.1
  have Kt120 := Kz.trans K120 all0
  have N120 := Fr.app N118 Nq120
  show own_Fin _ _ _ _ (T120.setTop (mkF m 24 #[rv a1, rv u] [(.ref b_120)]))
  obtain ⟨fs121, hr121, hrun121, hended121, hW121, hsame121⟩ := X120.leave (v := some (.ref b_120)) (fun h => by rw [Bd.returns] at h; cases h)
  refine own_done (retOut X120 hx Bd.returns rfl (Or.inr (Or.inr (Or.inr (Or.inr ⟨rfl, rfl, rfl⟩)))) (hb hby d21_24) hr121) hrun121 hended121 ⟨_, _, rfl, ?_, ⟨_, rfl⟩, hW121, hsame121.mono (by decide) (by decide)⟩
  show Qgb Z a1 u va k c0 cs h0 n0 _ T120.heap _
  exact ⟨b_120, rfl, N120, Kt120, g_b_120, sz_b_120, r120_0, r120_1⟩
theorem d7_0 : decode jdk_65_method_103_code 0 = .ok (.iconst 0, 1) := by decide +kernel
theorem d7_1 : decode jdk_65_method_103_code 1 = .ok (.istore_n 2, 1) := by decide +kernel
theorem d7_2 : decode jdk_65_method_103_code 2 = .ok (.aload_n 0, 1) := by decide +kernel
theorem d7_3 : decode jdk_65_method_103_code 3 = .ok (.arraylength, 1) := by decide +kernel
theorem d7_4 : decode jdk_65_method_103_code 4 = .ok (.istore_n 3, 1) := by decide +kernel
theorem d7_5 : decode jdk_65_method_103_code 5 = .ok (.iload_n 2, 1) := by decide +kernel
theorem d7_6 : decode jdk_65_method_103_code 6 = .ok (.iload_n 3, 1) := by decide +kernel
theorem d7_7 : decode jdk_65_method_103_code 7 = .ok (.if_icmp .ge 13, 3) := by decide +kernel
theorem d7_10 : decode jdk_65_method_103_code 10 = .ok (.aload_n 0, 1) := by decide +kernel
theorem d7_11 : decode jdk_65_method_103_code 11 = .ok (.iload_n 2, 1) := by decide +kernel
theorem d7_12 : decode jdk_65_method_103_code 12 = .ok (.iload_n 1, 1) := by decide +kernel
theorem d7_13 : decode jdk_65_method_103_code 13 = .ok (.iastore, 1) := by decide +kernel
theorem d7_14 : decode jdk_65_method_103_code 14 = .ok (.iinc 2 1, 3) := by decide +kernel
theorem d7_17 : decode jdk_65_method_103_code 17 = .ok (.goto (-12), 3) := by decide +kernel
theorem d7_20 : decode jdk_65_method_103_code 20 = .ok (.return_, 1) := by decide +kernel
theorem pn_java_util_Arrays : plainName "java/util/Arrays" = true := by first | (simp [plainName, overriddenIn]; done) | decide +kernel
theorem ef_fill_1 (m : MethodId) (x0 : Addr) (x1 : Int32) : entryFrame m #[(.ref x0), (.int x1)] 4 = mkF m 0 #[.val (.ref x0), .val (.int x1), .unset, .unset] [] := by first | (simp [entryFrame, mkF, argsToLocals, Value.category]; done) | rfl
def Qfill_1 (Z : State) (a1 : Addr) (k : ClassId) (h0 : Heap) (n0 : Nat) (v : Option Value) (h : Heap) (L : List Loc) : Prop := v = none ∧ Fr n0 L ∧ Keep h0 h [a1] ∧ Arv Z h a1 k .int (1 : Int32) [(.int (-1 : Int32))] (.int (0 : Int32))
abbrev Gfill_1 (Z : State) (a1 : Addr) (k : ClassId) (h0 : Heap) (n0 : Nat) (s : State) : Outcome → State → Prop := fun o U' => ∃ v L, o = .returned v ∧ Qfill_1 Z a1 k h0 n0 v U'.heap L ∧ FrameEnd s o U' L ({ frames := 0, cells := 0, slots := 0, locals := 0 } : Room).cells ({ frames := 0, cells := 0, slots := 0, locals := 0 } : Room).slots
set_option maxRecDepth 65536 in
set_option maxHeartbeats 40000000 in
theorem rmfill_1 (l : Launch) (Z : State) (a0 : Array Value) (hw : ∀ d ∈ tables_1, d.before a0 Z = true) (ws : List Jvm.Cond) (a1 : Addr) (k : ClassId) (h0 : Heap) (n0 : Nat) (Z0 : n0 ≤ h0.size) (V_a1 : Arv Z h0 a1 k .int (1 : Int32) [(.int (0 : Int32))] (.int (0 : Int32))) (g_a1 : n0 ≤ a1) :
    MetFree l (⟨"java/util/Arrays", "fill", "([II)V"⟩ : MethodName) (head1 (Jvm.Cond.code (⟨"java/util/Arrays", "fill", "([II)V"⟩ : MethodName) jdk_65_method_103_code 4 none :: ws) ({ frames := 0, cells := 0, slots := 0, locals := 0 } : Room)) (fun a U => a = #[(.ref a1), (.int (-1 : Int32))] ∧ Z.Warmed39 U.vm ∧ U.heap = h0) (fun _ _ _ _ _ => True) (fun _ U o U' => ∃ v L, o = .returned v ∧ Qfill_1 Z a1 k h0 n0 v U'.heap L ∧ FrameEnd U o U' L ({ frames := 0, cells := 0, slots := 0, locals := 0 } : Room).cells ({ frames := 0, cells := 0, slots := 0, locals := 0 } : Room).slots) := by
  refine MetFree.of_bodySF (plainFor_of_name pn_java_util_Arrays) hisR ?_
  intro p e s m args below meth c s₁ Bd hml0 hP hK
  obtain ⟨rfl, hZ, hh⟩ := hP
  have hx := Bd.exec
  have hby := Bd.bytes
  have hml : c.maxLocals = 4 := hml0
  have hown : s.vm.findClass "java/util/Arrays" = some m.cls := findClass_of_methodNamed Bd.named
  have hnm := (name_of_methodNamed Bd.named Bd.method).1
  have X0 : Stand p l e ({ frames := 0, cells := 0, slots := 0, locals := 0 } : Room) s m #[(.ref a1), (.int (-1 : Int32))] below meth c s₁ [] 0 0 := Stand.of_body Bd
  have e0 : s₁.heap = h0 := by rw [← hh, Bd.state]; rfl
  have es0 : s.heap = h0 := hh
  have N0 := Fr.nil n0
  show own_Fin p e below (Gfill_1 Z a1 k h0 n0 s) (s₁.setTop (entryFrame m #[(.ref a1), (.int (-1 : Int32))] 4))
  rw [ef_fill_1 m a1 (-1 : Int32)]
  have Kz := Keep.refl h0 [a1]
  refine own_go (XS.iconst X0.here hx rfl (hb hby d7_0) (Steps.refl _)) ?_
  show own_Fin _ _ _ _ (s₁.setTop (mkF m 1 #[rv a1, iv (-1 : Int32), .unset, .unset] [(.int (0 : Int32))]))
  refine own_go (XS.istoreN X0.here hx rfl (hb hby d7_1) rfl rfl (Steps.refl _)) ?_
  show own_Fin _ _ _ _ (s₁.setTop (mkF m 2 #[rv a1, iv (-1 : Int32), iv (0 : Int32), .unset] []))
  refine own_go (XS.aloadN X0.here hx rfl (hb hby d7_2) rfl rfl (Steps.refl _)) ?_
  show own_Fin _ _ _ _ (s₁.setTop (mkF m 3 #[rv a1, iv (-1 : Int32), iv (0 : Int32), .unset] [(.ref a1)]))
  obtain ⟨cl122, Ar122, qa122, Sa122, Na122, Ha122, Ga122⟩ := id V_a1
  refine own_by (X0.arraylength hx (by rw [e0]; exact Ar122.1) (State.isArrayOf_alike hZ.alike Ar122.2.1) (g := (mkF m 3 #[rv a1, iv (-1 : Int32), iv (0 : Int32), .unset] [(.ref a1)])) rfl rfl (hb hby d7_3)) ?_
  rw [len_of Sa122 Na122]
  show own_Fin _ _ _ _ (s₁.setTop (mkF m 4 #[rv a1, iv (-1 : Int32), iv (0 : Int32), .unset] [(.int (1 : Int32))]))
  refine own_go (XS.istoreN X0.here hx rfl (hb hby d7_4) rfl rfl (Steps.refl _)) ?_
  show own_Fin _ _ _ _ (s₁.setTop (mkF m 5 #[rv a1, iv (-1 : Int32), iv (0 : Int32), iv (1 : Int32)] []))
  refine own_go (XS.iloadN X0.here hx rfl (hb hby d7_5) rfl (Steps.refl _)) ?_
  show own_Fin _ _ _ _ (s₁.setTop (mkF m 6 #[rv a1, iv (-1 : Int32), iv (0 : Int32), iv (1 : Int32)] [(.int (0 : Int32))]))
  refine own_go (XS.iloadN X0.here hx rfl (hb hby d7_6) rfl (Steps.refl _)) ?_
  show own_Fin _ _ _ _ (s₁.setTop (mkF m 7 #[rv a1, iv (-1 : Int32), iv (0 : Int32), iv (1 : Int32)] [(.int (1 : Int32)), (.int (0 : Int32))]))
  refine own_go (XS.icmpNo X0.here hx rfl (hb hby d7_7) rfl (tlt (by decide : (0 : Int32) < (1 : Int32))).2.1 (Steps.refl _)) ?_
  show own_Fin _ _ _ _ (s₁.setTop (mkF m 10 #[rv a1, iv (-1 : Int32), iv (0 : Int32), iv (1 : Int32)] []))
  refine own_go (XS.aloadN X0.here hx rfl (hb hby d7_10) rfl rfl (Steps.refl _)) ?_
  show own_Fin _ _ _ _ (s₁.setTop (mkF m 11 #[rv a1, iv (-1 : Int32), iv (0 : Int32), iv (1 : Int32)] [(.ref a1)]))
  refine own_go (XS.iloadN X0.here hx rfl (hb hby d7_11) rfl (Steps.refl _)) ?_
  show own_Fin _ _ _ _ (s₁.setTop (mkF m 12 #[rv a1, iv (-1 : Int32), iv (0 : Int32), iv (1 : Int32)] [(.int (0 : Int32)), (.ref a1)]))
  refine own_go (XS.iloadN X0.here hx rfl (hb hby d7_12) rfl (Steps.refl _)) ?_
  show own_Fin _ _ _ _ (s₁.setTop (mkF m 13 #[rv a1, iv (-1 : Int32), iv (0 : Int32), iv (1 : Int32)] [(.int (-1 : Int32)), (.int (0 : Int32)), (.ref a1)]))
  obtain ⟨cl123, Ar123, qa123, Sa123, Na123, Ha123, Ga123⟩ := id V_a1
  have hin123 : ¬ ((0 : Int32) < 0 ∨ cl123.slots.size ≤ ((0 : Int32)).toNatClampNeg) := inb_of Sa123 ⟨by decide, by decide⟩
  obtain ⟨T124, h124, X124, e124, W124, st124⟩ := stI X0 hx hZ e0 Ar123 (j := (0 : Int32)) hin123 (g := (mkF m 13 #[rv a1, iv (-1 : Int32), iv (0 : Int32), iv (1 : Int32)] [(.int (-1 : Int32)), (.int (0 : Int32)), (.ref a1)])) rfl rfl (hb hby d7_13)
  refine own_by st124 ?_
  have V_a1_124 : Arv Z h124 a1 k .int (1 : Int32) [(.int (-1 : Int32))] (.int (0 : Int32)) := Arv.set Ar123 qa123 Sa123 Na123 Ha123 Ga123 rfl W124 0 rfl (Nat.le_of_ble_eq_true rfl)
  have N124 := Fr.snoc X124 N0 g_a1
  have Z124 : n0 ≤ h124.size := Nat.le_trans Z0 (Keep.of_wr W124).1
  have K124 := Kz.wr W124 (Or.inl (List.mem_of_getElem? (i := 0) rfl))
  show own_Fin _ _ _ _ (T124.setTop (mkF m 14 #[rv a1, iv (-1 : Int32), iv (0 : Int32), iv (1 : Int32)] []))
  refine own_go (XS.iinc X124.here hx rfl (hb hby d7_14) rfl rfl (Steps.refl _)) ?_
  show own_Fin _ _ _ _ (T124.setTop (mkF m 17 #[rv a1, iv (-1 : Int32), iv (1 : Int32), iv (1 : Int32)] []))
  refine own_go (XS.goto X124.here hx rfl (pc0 := 17) (pc' := 5) rfl (hb hby d7_17) (by decide) (by decide) (Steps.refl _)) ?_
  show own_Fin _ _ _ _ (T124.setTop (mkF m 5 #[rv a1, iv (-1 : Int32), iv (1 : Int32), iv (1 : Int32)] []))
  refine own_go (XS.iloadN X124.here hx rfl (hb hby d7_5) rfl (Steps.refl _)) ?_
  show own_Fin _ _ _ _ (T124.setTop (mkF m 6 #[rv a1, iv (-1 : Int32), iv (1 : Int32), iv (1 : Int32)] [(.int (1 : Int32))]))
  refine own_go (XS.iloadN X124.here hx rfl (hb hby d7_6) rfl (Steps.refl _)) ?_
  show own_Fin _ _ _ _ (T124.setTop (mkF m 7 #[rv a1, iv (-1 : Int32), iv (1 : Int32), iv (1 : Int32)] [(.int (1 : Int32)), (.int (1 : Int32))]))
  refine own_go (XS.icmpYes X124.here hx rfl (pc0 := 7) (pc' := 20) rfl (hb hby d7_7) rfl (flt (by decide : ¬ ((1 : Int32) < (1 : Int32)))).2.1 (by decide) (by decide) (Steps.refl _)) ?_
  show own_Fin _ _ _ _ (T124.setTop (mkF m 20 #[rv a1, iv (-1 : Int32), iv (1 : Int32), iv (1 : Int32)] []))
  obtain ⟨fs125, hr125, hrun125, hended125, hW125, hsame125⟩ := X124.leave (v := none) (fun _ => rfl)
  refine own_done (X124.returnOut hx Bd.returns (hb hby d7_20) hr125) hrun125 hended125 ⟨_, _, rfl, ?_, ⟨_, rfl⟩, hW125, hsame125.mono (by decide) (by decide)⟩
  show Qfill_1 Z a1 k h0 n0 _ T124.heap _
  rw [e124]
  exact ⟨rfl, N124, K124, V_a1_124⟩
theorem ef_fill_2 (m : MethodId) (x0 : Addr) (x1 : Int32) : entryFrame m #[(.ref x0), (.int x1)] 4 = mkF m 0 #[.val (.ref x0), .val (.int x1), .unset, .unset] [] := by first | (simp [entryFrame, mkF, argsToLocals, Value.category]; done) | rfl
def Qfill_2 (Z : State) (a1 : Addr) (k : ClassId) (h0 : Heap) (n0 : Nat) (v : Option Value) (h : Heap) (L : List Loc) : Prop := v = none ∧ Fr n0 L ∧ Keep h0 h [a1] ∧ Arv Z h a1 k .int (2 : Int32) [(.int (-1 : Int32)), (.int (-1 : Int32))] (.int (0 : Int32))
abbrev Gfill_2 (Z : State) (a1 : Addr) (k : ClassId) (h0 : Heap) (n0 : Nat) (s : State) : Outcome → State → Prop := fun o U' => ∃ v L, o = .returned v ∧ Qfill_2 Z a1 k h0 n0 v U'.heap L ∧ FrameEnd s o U' L ({ frames := 0, cells := 0, slots := 0, locals := 0 } : Room).cells ({ frames := 0, cells := 0, slots := 0, locals := 0 } : Room).slots
set_option maxRecDepth 65536 in
set_option maxHeartbeats 40000000 in
theorem rmfill_2 (l : Launch) (Z : State) (a0 : Array Value) (hw : ∀ d ∈ tables_1, d.before a0 Z = true) (ws : List Jvm.Cond) (a1 : Addr) (k : ClassId) (h0 : Heap) (n0 : Nat) (Z0 : n0 ≤ h0.size) (V_a1 : Arv Z h0 a1 k .int (2 : Int32) [(.int (0 : Int32)), (.int (0 : Int32))] (.int (0 : Int32))) (g_a1 : n0 ≤ a1) :
    MetFree l (⟨"java/util/Arrays", "fill", "([II)V"⟩ : MethodName) (head1 (Jvm.Cond.code (⟨"java/util/Arrays", "fill", "([II)V"⟩ : MethodName) jdk_65_method_103_code 4 none :: ws) ({ frames := 0, cells := 0, slots := 0, locals := 0 } : Room)) (fun a U => a = #[(.ref a1), (.int (-1 : Int32))] ∧ Z.Warmed39 U.vm ∧ U.heap = h0) (fun _ _ _ _ _ => True) (fun _ U o U' => ∃ v L, o = .returned v ∧ Qfill_2 Z a1 k h0 n0 v U'.heap L ∧ FrameEnd U o U' L ({ frames := 0, cells := 0, slots := 0, locals := 0 } : Room).cells ({ frames := 0, cells := 0, slots := 0, locals := 0 } : Room).slots) := by
  refine MetFree.of_bodySF (plainFor_of_name pn_java_util_Arrays) hisR ?_
  intro p e s m args below meth c s₁ Bd hml0 hP hK
  obtain ⟨rfl, hZ, hh⟩ := hP
  have hx := Bd.exec
  have hby := Bd.bytes
  have hml : c.maxLocals = 4 := hml0
  have hown : s.vm.findClass "java/util/Arrays" = some m.cls := findClass_of_methodNamed Bd.named
  have hnm := (name_of_methodNamed Bd.named Bd.method).1
  have X0 : Stand p l e ({ frames := 0, cells := 0, slots := 0, locals := 0 } : Room) s m #[(.ref a1), (.int (-1 : Int32))] below meth c s₁ [] 0 0 := Stand.of_body Bd
  have e0 : s₁.heap = h0 := by rw [← hh, Bd.state]; rfl
  have es0 : s.heap = h0 := hh
  have N0 := Fr.nil n0
  show own_Fin p e below (Gfill_2 Z a1 k h0 n0 s) (s₁.setTop (entryFrame m #[(.ref a1), (.int (-1 : Int32))] 4))
  rw [ef_fill_2 m a1 (-1 : Int32)]
  have Kz := Keep.refl h0 [a1]
  refine own_go (XS.iconst X0.here hx rfl (hb hby d7_0) (Steps.refl _)) ?_
  show own_Fin _ _ _ _ (s₁.setTop (mkF m 1 #[rv a1, iv (-1 : Int32), .unset, .unset] [(.int (0 : Int32))]))
  refine own_go (XS.istoreN X0.here hx rfl (hb hby d7_1) rfl rfl (Steps.refl _)) ?_
  show own_Fin _ _ _ _ (s₁.setTop (mkF m 2 #[rv a1, iv (-1 : Int32), iv (0 : Int32), .unset] []))
  refine own_go (XS.aloadN X0.here hx rfl (hb hby d7_2) rfl rfl (Steps.refl _)) ?_
  show own_Fin _ _ _ _ (s₁.setTop (mkF m 3 #[rv a1, iv (-1 : Int32), iv (0 : Int32), .unset] [(.ref a1)]))
  obtain ⟨cl126, Ar126, qa126, Sa126, Na126, Ha126, Ga126⟩ := id V_a1
  refine own_by (X0.arraylength hx (by rw [e0]; exact Ar126.1) (State.isArrayOf_alike hZ.alike Ar126.2.1) (g := (mkF m 3 #[rv a1, iv (-1 : Int32), iv (0 : Int32), .unset] [(.ref a1)])) rfl rfl (hb hby d7_3)) ?_
  rw [len_of Sa126 Na126]
  show own_Fin _ _ _ _ (s₁.setTop (mkF m 4 #[rv a1, iv (-1 : Int32), iv (0 : Int32), .unset] [(.int (2 : Int32))]))
  refine own_go (XS.istoreN X0.here hx rfl (hb hby d7_4) rfl rfl (Steps.refl _)) ?_
  show own_Fin _ _ _ _ (s₁.setTop (mkF m 5 #[rv a1, iv (-1 : Int32), iv (0 : Int32), iv (2 : Int32)] []))
  refine own_go (XS.iloadN X0.here hx rfl (hb hby d7_5) rfl (Steps.refl _)) ?_
  show own_Fin _ _ _ _ (s₁.setTop (mkF m 6 #[rv a1, iv (-1 : Int32), iv (0 : Int32), iv (2 : Int32)] [(.int (0 : Int32))]))
  refine own_go (XS.iloadN X0.here hx rfl (hb hby d7_6) rfl (Steps.refl _)) ?_
  show own_Fin _ _ _ _ (s₁.setTop (mkF m 7 #[rv a1, iv (-1 : Int32), iv (0 : Int32), iv (2 : Int32)] [(.int (2 : Int32)), (.int (0 : Int32))]))
  refine own_go (XS.icmpNo X0.here hx rfl (hb hby d7_7) rfl (tlt (by decide : (0 : Int32) < (2 : Int32))).2.1 (Steps.refl _)) ?_
  show own_Fin _ _ _ _ (s₁.setTop (mkF m 10 #[rv a1, iv (-1 : Int32), iv (0 : Int32), iv (2 : Int32)] []))
  refine own_go (XS.aloadN X0.here hx rfl (hb hby d7_10) rfl rfl (Steps.refl _)) ?_
  show own_Fin _ _ _ _ (s₁.setTop (mkF m 11 #[rv a1, iv (-1 : Int32), iv (0 : Int32), iv (2 : Int32)] [(.ref a1)]))
  refine own_go (XS.iloadN X0.here hx rfl (hb hby d7_11) rfl (Steps.refl _)) ?_
  show own_Fin _ _ _ _ (s₁.setTop (mkF m 12 #[rv a1, iv (-1 : Int32), iv (0 : Int32), iv (2 : Int32)] [(.int (0 : Int32)), (.ref a1)]))
  refine own_go (XS.iloadN X0.here hx rfl (hb hby d7_12) rfl (Steps.refl _)) ?_
  show own_Fin _ _ _ _ (s₁.setTop (mkF m 13 #[rv a1, iv (-1 : Int32), iv (0 : Int32), iv (2 : Int32)] [(.int (-1 : Int32)), (.int (0 : Int32)), (.ref a1)]))
  obtain ⟨cl127, Ar127, qa127, Sa127, Na127, Ha127, Ga127⟩ := id V_a1
  have hin127 : ¬ ((0 : Int32) < 0 ∨ cl127.slots.size ≤ ((0 : Int32)).toNatClampNeg) := inb_of Sa127 ⟨by decide, by decide⟩
  obtain ⟨T128, h128, X128, e128, W128, st128⟩ := stI X0 hx hZ e0 Ar127 (j := (0 : Int32)) hin127 (g := (mkF m 13 #[rv a1, iv (-1 : Int32), iv (0 : Int32), iv (2 : Int32)] [(.int (-1 : Int32)), (.int (0 : Int32)), (.ref a1)])) rfl rfl (hb hby d7_13)
  refine own_by st128 ?_
  have V_a1_128 : Arv Z h128 a1 k .int (2 : Int32) [(.int (-1 : Int32)), (.int (0 : Int32))] (.int (0 : Int32)) := Arv.set Ar127 qa127 Sa127 Na127 Ha127 Ga127 rfl W128 0 rfl (Nat.le_of_ble_eq_true rfl)
  have N128 := Fr.snoc X128 N0 g_a1
  have Z128 : n0 ≤ h128.size := Nat.le_trans Z0 (Keep.of_wr W128).1
  have K128 := Kz.wr W128 (Or.inl (List.mem_of_getElem? (i := 0) rfl))
  show own_Fin _ _ _ _ (T128.setTop (mkF m 14 #[rv a1, iv (-1 : Int32), iv (0 : Int32), iv (2 : Int32)] []))
  refine own_go (XS.iinc X128.here hx rfl (hb hby d7_14) rfl rfl (Steps.refl _)) ?_
  show own_Fin _ _ _ _ (T128.setTop (mkF m 17 #[rv a1, iv (-1 : Int32), iv (1 : Int32), iv (2 : Int32)] []))
  refine own_go (XS.goto X128.here hx rfl (pc0 := 17) (pc' := 5) rfl (hb hby d7_17) (by decide) (by decide) (Steps.refl _)) ?_
  show own_Fin _ _ _ _ (T128.setTop (mkF m 5 #[rv a1, iv (-1 : Int32), iv (1 : Int32), iv (2 : Int32)] []))
  refine own_go (XS.iloadN X128.here hx rfl (hb hby d7_5) rfl (Steps.refl _)) ?_
  show own_Fin _ _ _ _ (T128.setTop (mkF m 6 #[rv a1, iv (-1 : Int32), iv (1 : Int32), iv (2 : Int32)] [(.int (1 : Int32))]))
  refine own_go (XS.iloadN X128.here hx rfl (hb hby d7_6) rfl (Steps.refl _)) ?_
  show own_Fin _ _ _ _ (T128.setTop (mkF m 7 #[rv a1, iv (-1 : Int32), iv (1 : Int32), iv (2 : Int32)] [(.int (2 : Int32)), (.int (1 : Int32))]))
  refine own_go (XS.icmpNo X128.here hx rfl (hb hby d7_7) rfl (tlt (by decide : (1 : Int32) < (2 : Int32))).2.1 (Steps.refl _)) ?_
  show own_Fin _ _ _ _ (T128.setTop (mkF m 10 #[rv a1, iv (-1 : Int32), iv (1 : Int32), iv (2 : Int32)] []))
  refine own_go (XS.aloadN X128.here hx rfl (hb hby d7_10) rfl rfl (Steps.refl _)) ?_
  show own_Fin _ _ _ _ (T128.setTop (mkF m 11 #[rv a1, iv (-1 : Int32), iv (1 : Int32), iv (2 : Int32)] [(.ref a1)]))
  refine own_go (XS.iloadN X128.here hx rfl (hb hby d7_11) rfl (Steps.refl _)) ?_
  show own_Fin _ _ _ _ (T128.setTop (mkF m 12 #[rv a1, iv (-1 : Int32), iv (1 : Int32), iv (2 : Int32)] [(.int (1 : Int32)), (.ref a1)]))
  refine own_go (XS.iloadN X128.here hx rfl (hb hby d7_12) rfl (Steps.refl _)) ?_
  show own_Fin _ _ _ _ (T128.setTop (mkF m 13 #[rv a1, iv (-1 : Int32), iv (1 : Int32), iv (2 : Int32)] [(.int (-1 : Int32)), (.int (1 : Int32)), (.ref a1)]))
  obtain ⟨cl129, Ar129, qa129, Sa129, Na129, Ha129, Ga129⟩ := id V_a1_128
  have hin129 : ¬ ((1 : Int32) < 0 ∨ cl129.slots.size ≤ ((1 : Int32)).toNatClampNeg) := inb_of Sa129 ⟨by decide, by decide⟩
  obtain ⟨T130, h130, X130, e130, W130, st130⟩ := stI X128 hx hZ e128 Ar129 (j := (1 : Int32)) hin129 (g := (mkF m 13 #[rv a1, iv (-1 : Int32), iv (1 : Int32), iv (2 : Int32)] [(.int (-1 : Int32)), (.int (1 : Int32)), (.ref a1)])) rfl rfl (hb hby d7_13)
  refine own_by st130 ?_
  have V_a1_130 : Arv Z h130 a1 k .int (2 : Int32) [(.int (-1 : Int32)), (.int (-1 : Int32))] (.int (0 : Int32)) := Arv.set Ar129 qa129 Sa129 Na129 Ha129 Ga129 rfl W130 1 rfl (Nat.le_of_ble_eq_true rfl)
  have N130 := Fr.snoc X130 N128 g_a1
  have Z130 : n0 ≤ h130.size := Nat.le_trans Z128 (Keep.of_wr W130).1
  have K130 := K128.wr W130 (Or.inl (List.mem_of_getElem? (i := 0) rfl))
  show own_Fin _ _ _ _ (T130.setTop (mkF m 14 #[rv a1, iv (-1 : Int32), iv (1 : Int32), iv (2 : Int32)] []))
  refine own_go (XS.iinc X130.here hx rfl (hb hby d7_14) rfl rfl (Steps.refl _)) ?_
  show own_Fin _ _ _ _ (T130.setTop (mkF m 17 #[rv a1, iv (-1 : Int32), iv (2 : Int32), iv (2 : Int32)] []))
  refine own_go (XS.goto X130.here hx rfl (pc0 := 17) (pc' := 5) rfl (hb hby d7_17) (by decide) (by decide) (Steps.refl _)) ?_
  show own_Fin _ _ _ _ (T130.setTop (mkF m 5 #[rv a1, iv (-1 : Int32), iv (2 : Int32), iv (2 : Int32)] []))
  refine own_go (XS.iloadN X130.here hx rfl (hb hby d7_5) rfl (Steps.refl _)) ?_
  show own_Fin _ _ _ _ (T130.setTop (mkF m 6 #[rv a1, iv (-1 : Int32), iv (2 : Int32), iv (2 : Int32)] [(.int (2 : Int32))]))
  refine own_go (XS.iloadN X130.here hx rfl (hb hby d7_6) rfl (Steps.refl _)) ?_
  show own_Fin _ _ _ _ (T130.setTop (mkF m 7 #[rv a1, iv (-1 : Int32), iv (2 : Int32), iv (2 : Int32)] [(.int (2 : Int32)), (.int (2 : Int32))]))
  refine own_go (XS.icmpYes X130.here hx rfl (pc0 := 7) (pc' := 20) rfl (hb hby d7_7) rfl (flt (by decide : ¬ ((2 : Int32) < (2 : Int32)))).2.1 (by decide) (by decide) (Steps.refl _)) ?_
  show own_Fin _ _ _ _ (T130.setTop (mkF m 20 #[rv a1, iv (-1 : Int32), iv (2 : Int32), iv (2 : Int32)] []))
  obtain ⟨fs131, hr131, hrun131, hended131, hW131, hsame131⟩ := X130.leave (v := none) (fun _ => rfl)
  refine own_done (X130.returnOut hx Bd.returns (hb hby d7_20) hr131) hrun131 hended131 ⟨_, _, rfl, ?_, ⟨_, rfl⟩, hW131, hsame131.mono (by decide) (by decide)⟩
  show Qfill_2 Z a1 k h0 n0 _ T130.heap _
  rw [e130]
  exact ⟨rfl, N130, K130, V_a1_130⟩
theorem ef_fill_3 (m : MethodId) (x0 : Addr) (x1 : Int32) : entryFrame m #[(.ref x0), (.int x1)] 4 = mkF m 0 #[.val (.ref x0), .val (.int x1), .unset, .unset] [] := by first | (simp [entryFrame, mkF, argsToLocals, Value.category]; done) | rfl
def Qfill_3 (Z : State) (a1 : Addr) (k : ClassId) (h0 : Heap) (n0 : Nat) (v : Option Value) (h : Heap) (L : List Loc) : Prop := v = none ∧ Fr n0 L ∧ Keep h0 h [a1] ∧ Arv Z h a1 k .int (3 : Int32) [(.int (-1 : Int32)), (.int (-1 : Int32)), (.int (-1 : Int32))] (.int (0 : Int32))
abbrev Gfill_3 (Z : State) (a1 : Addr) (k : ClassId) (h0 : Heap) (n0 : Nat) (s : State) : Outcome → State → Prop := fun o U' => ∃ v L, o = .returned v ∧ Qfill_3 Z a1 k h0 n0 v U'.heap L ∧ FrameEnd s o U' L ({ frames := 0, cells := 0, slots := 0, locals := 0 } : Room).cells ({ frames := 0, cells := 0, slots := 0, locals := 0 } : Room).slots
set_option maxRecDepth 65536 in
set_option maxHeartbeats 40000000 in
theorem rmfill_3 (l : Launch) (Z : State) (a0 : Array Value) (hw : ∀ d ∈ tables_1, d.before a0 Z = true) (ws : List Jvm.Cond) (a1 : Addr) (k : ClassId) (h0 : Heap) (n0 : Nat) (Z0 : n0 ≤ h0.size) (V_a1 : Arv Z h0 a1 k .int (3 : Int32) [(.int (0 : Int32)), (.int (0 : Int32)), (.int (0 : Int32))] (.int (0 : Int32))) (g_a1 : n0 ≤ a1) :
    MetFree l (⟨"java/util/Arrays", "fill", "([II)V"⟩ : MethodName) (head1 (Jvm.Cond.code (⟨"java/util/Arrays", "fill", "([II)V"⟩ : MethodName) jdk_65_method_103_code 4 none :: ws) ({ frames := 0, cells := 0, slots := 0, locals := 0 } : Room)) (fun a U => a = #[(.ref a1), (.int (-1 : Int32))] ∧ Z.Warmed39 U.vm ∧ U.heap = h0) (fun _ _ _ _ _ => True) (fun _ U o U' => ∃ v L, o = .returned v ∧ Qfill_3 Z a1 k h0 n0 v U'.heap L ∧ FrameEnd U o U' L ({ frames := 0, cells := 0, slots := 0, locals := 0 } : Room).cells ({ frames := 0, cells := 0, slots := 0, locals := 0 } : Room).slots) := by
  refine MetFree.of_bodySF (plainFor_of_name pn_java_util_Arrays) hisR ?_
  intro p e s m args below meth c s₁ Bd hml0 hP hK
  obtain ⟨rfl, hZ, hh⟩ := hP
  have hx := Bd.exec
  have hby := Bd.bytes
  have hml : c.maxLocals = 4 := hml0
  have hown : s.vm.findClass "java/util/Arrays" = some m.cls := findClass_of_methodNamed Bd.named
  have hnm := (name_of_methodNamed Bd.named Bd.method).1
  have X0 : Stand p l e ({ frames := 0, cells := 0, slots := 0, locals := 0 } : Room) s m #[(.ref a1), (.int (-1 : Int32))] below meth c s₁ [] 0 0 := Stand.of_body Bd
  have e0 : s₁.heap = h0 := by rw [← hh, Bd.state]; rfl
  have es0 : s.heap = h0 := hh
  have N0 := Fr.nil n0
  show own_Fin p e below (Gfill_3 Z a1 k h0 n0 s) (s₁.setTop (entryFrame m #[(.ref a1), (.int (-1 : Int32))] 4))
  rw [ef_fill_3 m a1 (-1 : Int32)]
  have Kz := Keep.refl h0 [a1]
  refine own_go (XS.iconst X0.here hx rfl (hb hby d7_0) (Steps.refl _)) ?_
  show own_Fin _ _ _ _ (s₁.setTop (mkF m 1 #[rv a1, iv (-1 : Int32), .unset, .unset] [(.int (0 : Int32))]))
  refine own_go (XS.istoreN X0.here hx rfl (hb hby d7_1) rfl rfl (Steps.refl _)) ?_
  show own_Fin _ _ _ _ (s₁.setTop (mkF m 2 #[rv a1, iv (-1 : Int32), iv (0 : Int32), .unset] []))
  refine own_go (XS.aloadN X0.here hx rfl (hb hby d7_2) rfl rfl (Steps.refl _)) ?_
  show own_Fin _ _ _ _ (s₁.setTop (mkF m 3 #[rv a1, iv (-1 : Int32), iv (0 : Int32), .unset] [(.ref a1)]))
  obtain ⟨cl132, Ar132, qa132, Sa132, Na132, Ha132, Ga132⟩ := id V_a1
  refine own_by (X0.arraylength hx (by rw [e0]; exact Ar132.1) (State.isArrayOf_alike hZ.alike Ar132.2.1) (g := (mkF m 3 #[rv a1, iv (-1 : Int32), iv (0 : Int32), .unset] [(.ref a1)])) rfl rfl (hb hby d7_3)) ?_
  rw [len_of Sa132 Na132]
  show own_Fin _ _ _ _ (s₁.setTop (mkF m 4 #[rv a1, iv (-1 : Int32), iv (0 : Int32), .unset] [(.int (3 : Int32))]))
  refine own_go (XS.istoreN X0.here hx rfl (hb hby d7_4) rfl rfl (Steps.refl _)) ?_
  show own_Fin _ _ _ _ (s₁.setTop (mkF m 5 #[rv a1, iv (-1 : Int32), iv (0 : Int32), iv (3 : Int32)] []))
  refine own_go (XS.iloadN X0.here hx rfl (hb hby d7_5) rfl (Steps.refl _)) ?_
  show own_Fin _ _ _ _ (s₁.setTop (mkF m 6 #[rv a1, iv (-1 : Int32), iv (0 : Int32), iv (3 : Int32)] [(.int (0 : Int32))]))
  refine own_go (XS.iloadN X0.here hx rfl (hb hby d7_6) rfl (Steps.refl _)) ?_
  show own_Fin _ _ _ _ (s₁.setTop (mkF m 7 #[rv a1, iv (-1 : Int32), iv (0 : Int32), iv (3 : Int32)] [(.int (3 : Int32)), (.int (0 : Int32))]))
  refine own_go (XS.icmpNo X0.here hx rfl (hb hby d7_7) rfl (tlt (by decide : (0 : Int32) < (3 : Int32))).2.1 (Steps.refl _)) ?_
  show own_Fin _ _ _ _ (s₁.setTop (mkF m 10 #[rv a1, iv (-1 : Int32), iv (0 : Int32), iv (3 : Int32)] []))
  refine own_go (XS.aloadN X0.here hx rfl (hb hby d7_10) rfl rfl (Steps.refl _)) ?_
  show own_Fin _ _ _ _ (s₁.setTop (mkF m 11 #[rv a1, iv (-1 : Int32), iv (0 : Int32), iv (3 : Int32)] [(.ref a1)]))
  refine own_go (XS.iloadN X0.here hx rfl (hb hby d7_11) rfl (Steps.refl _)) ?_
  show own_Fin _ _ _ _ (s₁.setTop (mkF m 12 #[rv a1, iv (-1 : Int32), iv (0 : Int32), iv (3 : Int32)] [(.int (0 : Int32)), (.ref a1)]))
  refine own_go (XS.iloadN X0.here hx rfl (hb hby d7_12) rfl (Steps.refl _)) ?_
  show own_Fin _ _ _ _ (s₁.setTop (mkF m 13 #[rv a1, iv (-1 : Int32), iv (0 : Int32), iv (3 : Int32)] [(.int (-1 : Int32)), (.int (0 : Int32)), (.ref a1)]))
  obtain ⟨cl133, Ar133, qa133, Sa133, Na133, Ha133, Ga133⟩ := id V_a1
  have hin133 : ¬ ((0 : Int32) < 0 ∨ cl133.slots.size ≤ ((0 : Int32)).toNatClampNeg) := inb_of Sa133 ⟨by decide, by decide⟩
  obtain ⟨T134, h134, X134, e134, W134, st134⟩ := stI X0 hx hZ e0 Ar133 (j := (0 : Int32)) hin133 (g := (mkF m 13 #[rv a1, iv (-1 : Int32), iv (0 : Int32), iv (3 : Int32)] [(.int (-1 : Int32)), (.int (0 : Int32)), (.ref a1)])) rfl rfl (hb hby d7_13)
  refine own_by st134 ?_
  have V_a1_134 : Arv Z h134 a1 k .int (3 : Int32) [(.int (-1 : Int32)), (.int (0 : Int32)), (.int (0 : Int32))] (.int (0 : Int32)) := Arv.set Ar133 qa133 Sa133 Na133 Ha133 Ga133 rfl W134 0 rfl (Nat.le_of_ble_eq_true rfl)
  have N134 := Fr.snoc X134 N0 g_a1
  have Z134 : n0 ≤ h134.size := Nat.le_trans Z0 (Keep.of_wr W134).1
  have K134 := Kz.wr W134 (Or.inl (List.mem_of_getElem? (i := 0) rfl))
  show own_Fin _ _ _ _ (T134.setTop (mkF m 14 #[rv a1, iv (-1 : Int32), iv (0 : Int32), iv (3 : Int32)] []))
  refine own_go (XS.iinc X134.here hx rfl (hb hby d7_14) rfl rfl (Steps.refl _)) ?_
  show own_Fin _ _ _ _ (T134.setTop (mkF m 17 #[rv a1, iv (-1 : Int32), iv (1 : Int32), iv (3 : Int32)] []))
  refine own_go (XS.goto X134.here hx rfl (pc0 := 17) (pc' := 5) rfl (hb hby d7_17) (by decide) (by decide) (Steps.refl _)) ?_
  show own_Fin _ _ _ _ (T134.setTop (mkF m 5 #[rv a1, iv (-1 : Int32), iv (1 : Int32), iv (3 : Int32)] []))
  refine own_go (XS.iloadN X134.here hx rfl (hb hby d7_5) rfl (Steps.refl _)) ?_
  show own_Fin _ _ _ _ (T134.setTop (mkF m 6 #[rv a1, iv (-1 : Int32), iv (1 : Int32), iv (3 : Int32)] [(.int (1 : Int32))]))
  refine own_go (XS.iloadN X134.here hx rfl (hb hby d7_6) rfl (Steps.refl _)) ?_
  show own_Fin _ _ _ _ (T134.setTop (mkF m 7 #[rv a1, iv (-1 : Int32), iv (1 : Int32), iv (3 : Int32)] [(.int (3 : Int32)), (.int (1 : Int32))]))
  refine own_go (XS.icmpNo X134.here hx rfl (hb hby d7_7) rfl (tlt (by decide : (1 : Int32) < (3 : Int32))).2.1 (Steps.refl _)) ?_
  show own_Fin _ _ _ _ (T134.setTop (mkF m 10 #[rv a1, iv (-1 : Int32), iv (1 : Int32), iv (3 : Int32)] []))
  refine own_go (XS.aloadN X134.here hx rfl (hb hby d7_10) rfl rfl (Steps.refl _)) ?_
  show own_Fin _ _ _ _ (T134.setTop (mkF m 11 #[rv a1, iv (-1 : Int32), iv (1 : Int32), iv (3 : Int32)] [(.ref a1)]))
  refine own_go (XS.iloadN X134.here hx rfl (hb hby d7_11) rfl (Steps.refl _)) ?_
  show own_Fin _ _ _ _ (T134.setTop (mkF m 12 #[rv a1, iv (-1 : Int32), iv (1 : Int32), iv (3 : Int32)] [(.int (1 : Int32)), (.ref a1)]))
  refine own_go (XS.iloadN X134.here hx rfl (hb hby d7_12) rfl (Steps.refl _)) ?_
  show own_Fin _ _ _ _ (T134.setTop (mkF m 13 #[rv a1, iv (-1 : Int32), iv (1 : Int32), iv (3 : Int32)] [(.int (-1 : Int32)), (.int (1 : Int32)), (.ref a1)]))
  obtain ⟨cl135, Ar135, qa135, Sa135, Na135, Ha135, Ga135⟩ := id V_a1_134
  have hin135 : ¬ ((1 : Int32) < 0 ∨ cl135.slots.size ≤ ((1 : Int32)).toNatClampNeg) := inb_of Sa135 ⟨by decide, by decide⟩
  obtain ⟨T136, h136, X136, e136, W136, st136⟩ := stI X134 hx hZ e134 Ar135 (j := (1 : Int32)) hin135 (g := (mkF m 13 #[rv a1, iv (-1 : Int32), iv (1 : Int32), iv (3 : Int32)] [(.int (-1 : Int32)), (.int (1 : Int32)), (.ref a1)])) rfl rfl (hb hby d7_13)
  refine own_by st136 ?_
  have V_a1_136 : Arv Z h136 a1 k .int (3 : Int32) [(.int (-1 : Int32)), (.int (-1 : Int32)), (.int (0 : Int32))] (.int (0 : Int32)) := Arv.set Ar135 qa135 Sa135 Na135 Ha135 Ga135 rfl W136 1 rfl (Nat.le_of_ble_eq_true rfl)
  have N136 := Fr.snoc X136 N134 g_a1
  have Z136 : n0 ≤ h136.size := Nat.le_trans Z134 (Keep.of_wr W136).1
  have K136 := K134.wr W136 (Or.inl (List.mem_of_getElem? (i := 0) rfl))
  show own_Fin _ _ _ _ (T136.setTop (mkF m 14 #[rv a1, iv (-1 : Int32), iv (1 : Int32), iv (3 : Int32)] []))
  refine own_go (XS.iinc X136.here hx rfl (hb hby d7_14) rfl rfl (Steps.refl _)) ?_
  show own_Fin _ _ _ _ (T136.setTop (mkF m 17 #[rv a1, iv (-1 : Int32), iv (2 : Int32), iv (3 : Int32)] []))
  refine own_go (XS.goto X136.here hx rfl (pc0 := 17) (pc' := 5) rfl (hb hby d7_17) (by decide) (by decide) (Steps.refl _)) ?_
  show own_Fin _ _ _ _ (T136.setTop (mkF m 5 #[rv a1, iv (-1 : Int32), iv (2 : Int32), iv (3 : Int32)] []))
  refine own_go (XS.iloadN X136.here hx rfl (hb hby d7_5) rfl (Steps.refl _)) ?_
  show own_Fin _ _ _ _ (T136.setTop (mkF m 6 #[rv a1, iv (-1 : Int32), iv (2 : Int32), iv (3 : Int32)] [(.int (2 : Int32))]))
  refine own_go (XS.iloadN X136.here hx rfl (hb hby d7_6) rfl (Steps.refl _)) ?_
  show own_Fin _ _ _ _ (T136.setTop (mkF m 7 #[rv a1, iv (-1 : Int32), iv (2 : Int32), iv (3 : Int32)] [(.int (3 : Int32)), (.int (2 : Int32))]))
  refine own_go (XS.icmpNo X136.here hx rfl (hb hby d7_7) rfl (tlt (by decide : (2 : Int32) < (3 : Int32))).2.1 (Steps.refl _)) ?_
  show own_Fin _ _ _ _ (T136.setTop (mkF m 10 #[rv a1, iv (-1 : Int32), iv (2 : Int32), iv (3 : Int32)] []))
  refine own_go (XS.aloadN X136.here hx rfl (hb hby d7_10) rfl rfl (Steps.refl _)) ?_
  show own_Fin _ _ _ _ (T136.setTop (mkF m 11 #[rv a1, iv (-1 : Int32), iv (2 : Int32), iv (3 : Int32)] [(.ref a1)]))
  refine own_go (XS.iloadN X136.here hx rfl (hb hby d7_11) rfl (Steps.refl _)) ?_
  show own_Fin _ _ _ _ (T136.setTop (mkF m 12 #[rv a1, iv (-1 : Int32), iv (2 : Int32), iv (3 : Int32)] [(.int (2 : Int32)), (.ref a1)]))
  refine own_go (XS.iloadN X136.here hx rfl (hb hby d7_12) rfl (Steps.refl _)) ?_
  show own_Fin _ _ _ _ (T136.setTop (mkF m 13 #[rv a1, iv (-1 : Int32), iv (2 : Int32), iv (3 : Int32)] [(.int (-1 : Int32)), (.int (2 : Int32)), (.ref a1)]))
  obtain ⟨cl137, Ar137, qa137, Sa137, Na137, Ha137, Ga137⟩ := id V_a1_136
  have hin137 : ¬ ((2 : Int32) < 0 ∨ cl137.slots.size ≤ ((2 : Int32)).toNatClampNeg) := inb_of Sa137 ⟨by decide, by decide⟩
  obtain ⟨T138, h138, X138, e138, W138, st138⟩ := stI X136 hx hZ e136 Ar137 (j := (2 : Int32)) hin137 (g := (mkF m 13 #[rv a1, iv (-1 : Int32), iv (2 : Int32), iv (3 : Int32)] [(.int (-1 : Int32)), (.int (2 : Int32)), (.ref a1)])) rfl rfl (hb hby d7_13)
  refine own_by st138 ?_
  have V_a1_138 : Arv Z h138 a1 k .int (3 : Int32) [(.int (-1 : Int32)), (.int (-1 : Int32)), (.int (-1 : Int32))] (.int (0 : Int32)) := Arv.set Ar137 qa137 Sa137 Na137 Ha137 Ga137 rfl W138 2 rfl (Nat.le_of_ble_eq_true rfl)
  have N138 := Fr.snoc X138 N136 g_a1
  have Z138 : n0 ≤ h138.size := Nat.le_trans Z136 (Keep.of_wr W138).1
  have K138 := K136.wr W138 (Or.inl (List.mem_of_getElem? (i := 0) rfl))
  show own_Fin _ _ _ _ (T138.setTop (mkF m 14 #[rv a1, iv (-1 : Int32), iv (2 : Int32), iv (3 : Int32)] []))
  refine own_go (XS.iinc X138.here hx rfl (hb hby d7_14) rfl rfl (Steps.refl _)) ?_
  show own_Fin _ _ _ _ (T138.setTop (mkF m 17 #[rv a1, iv (-1 : Int32), iv (3 : Int32), iv (3 : Int32)] []))
  refine own_go (XS.goto X138.here hx rfl (pc0 := 17) (pc' := 5) rfl (hb hby d7_17) (by decide) (by decide) (Steps.refl _)) ?_
  show own_Fin _ _ _ _ (T138.setTop (mkF m 5 #[rv a1, iv (-1 : Int32), iv (3 : Int32), iv (3 : Int32)] []))
  refine own_go (XS.iloadN X138.here hx rfl (hb hby d7_5) rfl (Steps.refl _)) ?_
  show own_Fin _ _ _ _ (T138.setTop (mkF m 6 #[rv a1, iv (-1 : Int32), iv (3 : Int32), iv (3 : Int32)] [(.int (3 : Int32))]))
  refine own_go (XS.iloadN X138.here hx rfl (hb hby d7_6) rfl (Steps.refl _)) ?_
  show own_Fin _ _ _ _ (T138.setTop (mkF m 7 #[rv a1, iv (-1 : Int32), iv (3 : Int32), iv (3 : Int32)] [(.int (3 : Int32)), (.int (3 : Int32))]))
  refine own_go (XS.icmpYes X138.here hx rfl (pc0 := 7) (pc' := 20) rfl (hb hby d7_7) rfl (flt (by decide : ¬ ((3 : Int32) < (3 : Int32)))).2.1 (by decide) (by decide) (Steps.refl _)) ?_
  show own_Fin _ _ _ _ (T138.setTop (mkF m 20 #[rv a1, iv (-1 : Int32), iv (3 : Int32), iv (3 : Int32)] []))
  obtain ⟨fs139, hr139, hrun139, hended139, hW139, hsame139⟩ := X138.leave (v := none) (fun _ => rfl)
  refine own_done (X138.returnOut hx Bd.returns (hb hby d7_20) hr139) hrun139 hended139 ⟨_, _, rfl, ?_, ⟨_, rfl⟩, hW139, hsame139.mono (by decide) (by decide)⟩
  show Qfill_3 Z a1 k h0 n0 _ T138.heap _
  rw [e138]
  exact ⟨rfl, N138, K138, V_a1_138⟩
theorem ef_fill_4 (m : MethodId) (x0 : Addr) (x1 : Int32) : entryFrame m #[(.ref x0), (.int x1)] 4 = mkF m 0 #[.val (.ref x0), .val (.int x1), .unset, .unset] [] := by first | (simp [entryFrame, mkF, argsToLocals, Value.category]; done) | rfl
def Qfill_4 (Z : State) (a1 : Addr) (k : ClassId) (h0 : Heap) (n0 : Nat) (v : Option Value) (h : Heap) (L : List Loc) : Prop := v = none ∧ Fr n0 L ∧ Keep h0 h [a1] ∧ Arv Z h a1 k .int (4 : Int32) [(.int (-1 : Int32)), (.int (-1 : Int32)), (.int (-1 : Int32)), (.int (-1 : Int32))] (.int (0 : Int32))
abbrev Gfill_4 (Z : State) (a1 : Addr) (k : ClassId) (h0 : Heap) (n0 : Nat) (s : State) : Outcome → State → Prop := fun o U' => ∃ v L, o = .returned v ∧ Qfill_4 Z a1 k h0 n0 v U'.heap L ∧ FrameEnd s o U' L ({ frames := 0, cells := 0, slots := 0, locals := 0 } : Room).cells ({ frames := 0, cells := 0, slots := 0, locals := 0 } : Room).slots
set_option maxRecDepth 65536 in
set_option maxHeartbeats 40000000 in
theorem rmfill_4 (l : Launch) (Z : State) (a0 : Array Value) (hw : ∀ d ∈ tables_1, d.before a0 Z = true) (ws : List Jvm.Cond) (a1 : Addr) (k : ClassId) (h0 : Heap) (n0 : Nat) (Z0 : n0 ≤ h0.size) (V_a1 : Arv Z h0 a1 k .int (4 : Int32) [(.int (0 : Int32)), (.int (0 : Int32)), (.int (0 : Int32)), (.int (0 : Int32))] (.int (0 : Int32))) (g_a1 : n0 ≤ a1) :
    MetFree l (⟨"java/util/Arrays", "fill", "([II)V"⟩ : MethodName) (head1 (Jvm.Cond.code (⟨"java/util/Arrays", "fill", "([II)V"⟩ : MethodName) jdk_65_method_103_code 4 none :: ws) ({ frames := 0, cells := 0, slots := 0, locals := 0 } : Room)) (fun a U => a = #[(.ref a1), (.int (-1 : Int32))] ∧ Z.Warmed39 U.vm ∧ U.heap = h0) (fun _ _ _ _ _ => True) (fun _ U o U' => ∃ v L, o = .returned v ∧ Qfill_4 Z a1 k h0 n0 v U'.heap L ∧ FrameEnd U o U' L ({ frames := 0, cells := 0, slots := 0, locals := 0 } : Room).cells ({ frames := 0, cells := 0, slots := 0, locals := 0 } : Room).slots) := by
  refine MetFree.of_bodySF (plainFor_of_name pn_java_util_Arrays) hisR ?_
  intro p e s m args below meth c s₁ Bd hml0 hP hK
  obtain ⟨rfl, hZ, hh⟩ := hP
  have hx := Bd.exec
  have hby := Bd.bytes
  have hml : c.maxLocals = 4 := hml0
  have hown : s.vm.findClass "java/util/Arrays" = some m.cls := findClass_of_methodNamed Bd.named
  have hnm := (name_of_methodNamed Bd.named Bd.method).1
  have X0 : Stand p l e ({ frames := 0, cells := 0, slots := 0, locals := 0 } : Room) s m #[(.ref a1), (.int (-1 : Int32))] below meth c s₁ [] 0 0 := Stand.of_body Bd
  have e0 : s₁.heap = h0 := by rw [← hh, Bd.state]; rfl
  have es0 : s.heap = h0 := hh
  have N0 := Fr.nil n0
  show own_Fin p e below (Gfill_4 Z a1 k h0 n0 s) (s₁.setTop (entryFrame m #[(.ref a1), (.int (-1 : Int32))] 4))
  rw [ef_fill_4 m a1 (-1 : Int32)]
  have Kz := Keep.refl h0 [a1]
  refine own_go (XS.iconst X0.here hx rfl (hb hby d7_0) (Steps.refl _)) ?_
  show own_Fin _ _ _ _ (s₁.setTop (mkF m 1 #[rv a1, iv (-1 : Int32), .unset, .unset] [(.int (0 : Int32))]))
  refine own_go (XS.istoreN X0.here hx rfl (hb hby d7_1) rfl rfl (Steps.refl _)) ?_
  show own_Fin _ _ _ _ (s₁.setTop (mkF m 2 #[rv a1, iv (-1 : Int32), iv (0 : Int32), .unset] []))
  refine own_go (XS.aloadN X0.here hx rfl (hb hby d7_2) rfl rfl (Steps.refl _)) ?_
  show own_Fin _ _ _ _ (s₁.setTop (mkF m 3 #[rv a1, iv (-1 : Int32), iv (0 : Int32), .unset] [(.ref a1)]))
  obtain ⟨cl140, Ar140, qa140, Sa140, Na140, Ha140, Ga140⟩ := id V_a1
  refine own_by (X0.arraylength hx (by rw [e0]; exact Ar140.1) (State.isArrayOf_alike hZ.alike Ar140.2.1) (g := (mkF m 3 #[rv a1, iv (-1 : Int32), iv (0 : Int32), .unset] [(.ref a1)])) rfl rfl (hb hby d7_3)) ?_
  rw [len_of Sa140 Na140]
  show own_Fin _ _ _ _ (s₁.setTop (mkF m 4 #[rv a1, iv (-1 : Int32), iv (0 : Int32), .unset] [(.int (4 : Int32))]))
  refine own_go (XS.istoreN X0.here hx rfl (hb hby d7_4) rfl rfl (Steps.refl _)) ?_
  show own_Fin _ _ _ _ (s₁.setTop (mkF m 5 #[rv a1, iv (-1 : Int32), iv (0 : Int32), iv (4 : Int32)] []))
  refine own_go (XS.iloadN X0.here hx rfl (hb hby d7_5) rfl (Steps.refl _)) ?_
  show own_Fin _ _ _ _ (s₁.setTop (mkF m 6 #[rv a1, iv (-1 : Int32), iv (0 : Int32), iv (4 : Int32)] [(.int (0 : Int32))]))
  refine own_go (XS.iloadN X0.here hx rfl (hb hby d7_6) rfl (Steps.refl _)) ?_
  show own_Fin _ _ _ _ (s₁.setTop (mkF m 7 #[rv a1, iv (-1 : Int32), iv (0 : Int32), iv (4 : Int32)] [(.int (4 : Int32)), (.int (0 : Int32))]))
  refine own_go (XS.icmpNo X0.here hx rfl (hb hby d7_7) rfl (tlt (by decide : (0 : Int32) < (4 : Int32))).2.1 (Steps.refl _)) ?_
  show own_Fin _ _ _ _ (s₁.setTop (mkF m 10 #[rv a1, iv (-1 : Int32), iv (0 : Int32), iv (4 : Int32)] []))
  refine own_go (XS.aloadN X0.here hx rfl (hb hby d7_10) rfl rfl (Steps.refl _)) ?_
  show own_Fin _ _ _ _ (s₁.setTop (mkF m 11 #[rv a1, iv (-1 : Int32), iv (0 : Int32), iv (4 : Int32)] [(.ref a1)]))
  refine own_go (XS.iloadN X0.here hx rfl (hb hby d7_11) rfl (Steps.refl _)) ?_
  show own_Fin _ _ _ _ (s₁.setTop (mkF m 12 #[rv a1, iv (-1 : Int32), iv (0 : Int32), iv (4 : Int32)] [(.int (0 : Int32)), (.ref a1)]))
  refine own_go (XS.iloadN X0.here hx rfl (hb hby d7_12) rfl (Steps.refl _)) ?_
  show own_Fin _ _ _ _ (s₁.setTop (mkF m 13 #[rv a1, iv (-1 : Int32), iv (0 : Int32), iv (4 : Int32)] [(.int (-1 : Int32)), (.int (0 : Int32)), (.ref a1)]))
  obtain ⟨cl141, Ar141, qa141, Sa141, Na141, Ha141, Ga141⟩ := id V_a1
  have hin141 : ¬ ((0 : Int32) < 0 ∨ cl141.slots.size ≤ ((0 : Int32)).toNatClampNeg) := inb_of Sa141 ⟨by decide, by decide⟩
  obtain ⟨T142, h142, X142, e142, W142, st142⟩ := stI X0 hx hZ e0 Ar141 (j := (0 : Int32)) hin141 (g := (mkF m 13 #[rv a1, iv (-1 : Int32), iv (0 : Int32), iv (4 : Int32)] [(.int (-1 : Int32)), (.int (0 : Int32)), (.ref a1)])) rfl rfl (hb hby d7_13)
  refine own_by st142 ?_
  have V_a1_142 : Arv Z h142 a1 k .int (4 : Int32) [(.int (-1 : Int32)), (.int (0 : Int32)), (.int (0 : Int32)), (.int (0 : Int32))] (.int (0 : Int32)) := Arv.set Ar141 qa141 Sa141 Na141 Ha141 Ga141 rfl W142 0 rfl (Nat.le_of_ble_eq_true rfl)
  have N142 := Fr.snoc X142 N0 g_a1
  have Z142 : n0 ≤ h142.size := Nat.le_trans Z0 (Keep.of_wr W142).1
  have K142 := Kz.wr W142 (Or.inl (List.mem_of_getElem? (i := 0) rfl))
  show own_Fin _ _ _ _ (T142.setTop (mkF m 14 #[rv a1, iv (-1 : Int32), iv (0 : Int32), iv (4 : Int32)] []))
  refine own_go (XS.iinc X142.here hx rfl (hb hby d7_14) rfl rfl (Steps.refl _)) ?_
  show own_Fin _ _ _ _ (T142.setTop (mkF m 17 #[rv a1, iv (-1 : Int32), iv (1 : Int32), iv (4 : Int32)] []))
  refine own_go (XS.goto X142.here hx rfl (pc0 := 17) (pc' := 5) rfl (hb hby d7_17) (by decide) (by decide) (Steps.refl _)) ?_
  show own_Fin _ _ _ _ (T142.setTop (mkF m 5 #[rv a1, iv (-1 : Int32), iv (1 : Int32), iv (4 : Int32)] []))
  refine own_go (XS.iloadN X142.here hx rfl (hb hby d7_5) rfl (Steps.refl _)) ?_
  show own_Fin _ _ _ _ (T142.setTop (mkF m 6 #[rv a1, iv (-1 : Int32), iv (1 : Int32), iv (4 : Int32)] [(.int (1 : Int32))]))
  refine own_go (XS.iloadN X142.here hx rfl (hb hby d7_6) rfl (Steps.refl _)) ?_
  show own_Fin _ _ _ _ (T142.setTop (mkF m 7 #[rv a1, iv (-1 : Int32), iv (1 : Int32), iv (4 : Int32)] [(.int (4 : Int32)), (.int (1 : Int32))]))
  refine own_go (XS.icmpNo X142.here hx rfl (hb hby d7_7) rfl (tlt (by decide : (1 : Int32) < (4 : Int32))).2.1 (Steps.refl _)) ?_
  show own_Fin _ _ _ _ (T142.setTop (mkF m 10 #[rv a1, iv (-1 : Int32), iv (1 : Int32), iv (4 : Int32)] []))
  refine own_go (XS.aloadN X142.here hx rfl (hb hby d7_10) rfl rfl (Steps.refl _)) ?_
  show own_Fin _ _ _ _ (T142.setTop (mkF m 11 #[rv a1, iv (-1 : Int32), iv (1 : Int32), iv (4 : Int32)] [(.ref a1)]))
  refine own_go (XS.iloadN X142.here hx rfl (hb hby d7_11) rfl (Steps.refl _)) ?_
  show own_Fin _ _ _ _ (T142.setTop (mkF m 12 #[rv a1, iv (-1 : Int32), iv (1 : Int32), iv (4 : Int32)] [(.int (1 : Int32)), (.ref a1)]))
  refine own_go (XS.iloadN X142.here hx rfl (hb hby d7_12) rfl (Steps.refl _)) ?_
  show own_Fin _ _ _ _ (T142.setTop (mkF m 13 #[rv a1, iv (-1 : Int32), iv (1 : Int32), iv (4 : Int32)] [(.int (-1 : Int32)), (.int (1 : Int32)), (.ref a1)]))
  obtain ⟨cl143, Ar143, qa143, Sa143, Na143, Ha143, Ga143⟩ := id V_a1_142
  have hin143 : ¬ ((1 : Int32) < 0 ∨ cl143.slots.size ≤ ((1 : Int32)).toNatClampNeg) := inb_of Sa143 ⟨by decide, by decide⟩
  obtain ⟨T144, h144, X144, e144, W144, st144⟩ := stI X142 hx hZ e142 Ar143 (j := (1 : Int32)) hin143 (g := (mkF m 13 #[rv a1, iv (-1 : Int32), iv (1 : Int32), iv (4 : Int32)] [(.int (-1 : Int32)), (.int (1 : Int32)), (.ref a1)])) rfl rfl (hb hby d7_13)
  refine own_by st144 ?_
  have V_a1_144 : Arv Z h144 a1 k .int (4 : Int32) [(.int (-1 : Int32)), (.int (-1 : Int32)), (.int (0 : Int32)), (.int (0 : Int32))] (.int (0 : Int32)) := Arv.set Ar143 qa143 Sa143 Na143 Ha143 Ga143 rfl W144 1 rfl (Nat.le_of_ble_eq_true rfl)
  have N144 := Fr.snoc X144 N142 g_a1
  have Z144 : n0 ≤ h144.size := Nat.le_trans Z142 (Keep.of_wr W144).1
  have K144 := K142.wr W144 (Or.inl (List.mem_of_getElem? (i := 0) rfl))
  show own_Fin _ _ _ _ (T144.setTop (mkF m 14 #[rv a1, iv (-1 : Int32), iv (1 : Int32), iv (4 : Int32)] []))
  refine own_go (XS.iinc X144.here hx rfl (hb hby d7_14) rfl rfl (Steps.refl _)) ?_
  show own_Fin _ _ _ _ (T144.setTop (mkF m 17 #[rv a1, iv (-1 : Int32), iv (2 : Int32), iv (4 : Int32)] []))
  refine own_go (XS.goto X144.here hx rfl (pc0 := 17) (pc' := 5) rfl (hb hby d7_17) (by decide) (by decide) (Steps.refl _)) ?_
  show own_Fin _ _ _ _ (T144.setTop (mkF m 5 #[rv a1, iv (-1 : Int32), iv (2 : Int32), iv (4 : Int32)] []))
  refine own_go (XS.iloadN X144.here hx rfl (hb hby d7_5) rfl (Steps.refl _)) ?_
  show own_Fin _ _ _ _ (T144.setTop (mkF m 6 #[rv a1, iv (-1 : Int32), iv (2 : Int32), iv (4 : Int32)] [(.int (2 : Int32))]))
  refine own_go (XS.iloadN X144.here hx rfl (hb hby d7_6) rfl (Steps.refl _)) ?_
  show own_Fin _ _ _ _ (T144.setTop (mkF m 7 #[rv a1, iv (-1 : Int32), iv (2 : Int32), iv (4 : Int32)] [(.int (4 : Int32)), (.int (2 : Int32))]))
  refine own_go (XS.icmpNo X144.here hx rfl (hb hby d7_7) rfl (tlt (by decide : (2 : Int32) < (4 : Int32))).2.1 (Steps.refl _)) ?_
  show own_Fin _ _ _ _ (T144.setTop (mkF m 10 #[rv a1, iv (-1 : Int32), iv (2 : Int32), iv (4 : Int32)] []))
  refine own_go (XS.aloadN X144.here hx rfl (hb hby d7_10) rfl rfl (Steps.refl _)) ?_
  show own_Fin _ _ _ _ (T144.setTop (mkF m 11 #[rv a1, iv (-1 : Int32), iv (2 : Int32), iv (4 : Int32)] [(.ref a1)]))
  refine own_go (XS.iloadN X144.here hx rfl (hb hby d7_11) rfl (Steps.refl _)) ?_
  show own_Fin _ _ _ _ (T144.setTop (mkF m 12 #[rv a1, iv (-1 : Int32), iv (2 : Int32), iv (4 : Int32)] [(.int (2 : Int32)), (.ref a1)]))
  refine own_go (XS.iloadN X144.here hx rfl (hb hby d7_12) rfl (Steps.refl _)) ?_
  show own_Fin _ _ _ _ (T144.setTop (mkF m 13 #[rv a1, iv (-1 : Int32), iv (2 : Int32), iv (4 : Int32)] [(.int (-1 : Int32)), (.int (2 : Int32)), (.ref a1)]))
  obtain ⟨cl145, Ar145, qa145, Sa145, Na145, Ha145, Ga145⟩ := id V_a1_144
  have hin145 : ¬ ((2 : Int32) < 0 ∨ cl145.slots.size ≤ ((2 : Int32)).toNatClampNeg) := inb_of Sa145 ⟨by decide, by decide⟩
  obtain ⟨T146, h146, X146, e146, W146, st146⟩ := stI X144 hx hZ e144 Ar145 (j := (2 : Int32)) hin145 (g := (mkF m 13 #[rv a1, iv (-1 : Int32), iv (2 : Int32), iv (4 : Int32)] [(.int (-1 : Int32)), (.int (2 : Int32)), (.ref a1)])) rfl rfl (hb hby d7_13)
  refine own_by st146 ?_
  have V_a1_146 : Arv Z h146 a1 k .int (4 : Int32) [(.int (-1 : Int32)), (.int (-1 : Int32)), (.int (-1 : Int32)), (.int (0 : Int32))] (.int (0 : Int32)) := Arv.set Ar145 qa145 Sa145 Na145 Ha145 Ga145 rfl W146 2 rfl (Nat.le_of_ble_eq_true rfl)
  have N146 := Fr.snoc X146 N144 g_a1
  have Z146 : n0 ≤ h146.size := Nat.le_trans Z144 (Keep.of_wr W146).1
  have K146 := K144.wr W146 (Or.inl (List.mem_of_getElem? (i := 0) rfl))
  show own_Fin _ _ _ _ (T146.setTop (mkF m 14 #[rv a1, iv (-1 : Int32), iv (2 : Int32), iv (4 : Int32)] []))
  refine own_go (XS.iinc X146.here hx rfl (hb hby d7_14) rfl rfl (Steps.refl _)) ?_
  show own_Fin _ _ _ _ (T146.setTop (mkF m 17 #[rv a1, iv (-1 : Int32), iv (3 : Int32), iv (4 : Int32)] []))
  refine own_go (XS.goto X146.here hx rfl (pc0 := 17) (pc' := 5) rfl (hb hby d7_17) (by decide) (by decide) (Steps.refl _)) ?_
  show own_Fin _ _ _ _ (T146.setTop (mkF m 5 #[rv a1, iv (-1 : Int32), iv (3 : Int32), iv (4 : Int32)] []))
  refine own_go (XS.iloadN X146.here hx rfl (hb hby d7_5) rfl (Steps.refl _)) ?_
  show own_Fin _ _ _ _ (T146.setTop (mkF m 6 #[rv a1, iv (-1 : Int32), iv (3 : Int32), iv (4 : Int32)] [(.int (3 : Int32))]))
  refine own_go (XS.iloadN X146.here hx rfl (hb hby d7_6) rfl (Steps.refl _)) ?_
  show own_Fin _ _ _ _ (T146.setTop (mkF m 7 #[rv a1, iv (-1 : Int32), iv (3 : Int32), iv (4 : Int32)] [(.int (4 : Int32)), (.int (3 : Int32))]))
  refine own_go (XS.icmpNo X146.here hx rfl (hb hby d7_7) rfl (tlt (by decide : (3 : Int32) < (4 : Int32))).2.1 (Steps.refl _)) ?_
  show own_Fin _ _ _ _ (T146.setTop (mkF m 10 #[rv a1, iv (-1 : Int32), iv (3 : Int32), iv (4 : Int32)] []))
  refine own_go (XS.aloadN X146.here hx rfl (hb hby d7_10) rfl rfl (Steps.refl _)) ?_
  show own_Fin _ _ _ _ (T146.setTop (mkF m 11 #[rv a1, iv (-1 : Int32), iv (3 : Int32), iv (4 : Int32)] [(.ref a1)]))
  refine own_go (XS.iloadN X146.here hx rfl (hb hby d7_11) rfl (Steps.refl _)) ?_
  show own_Fin _ _ _ _ (T146.setTop (mkF m 12 #[rv a1, iv (-1 : Int32), iv (3 : Int32), iv (4 : Int32)] [(.int (3 : Int32)), (.ref a1)]))
  refine own_go (XS.iloadN X146.here hx rfl (hb hby d7_12) rfl (Steps.refl _)) ?_
  show own_Fin _ _ _ _ (T146.setTop (mkF m 13 #[rv a1, iv (-1 : Int32), iv (3 : Int32), iv (4 : Int32)] [(.int (-1 : Int32)), (.int (3 : Int32)), (.ref a1)]))
  obtain ⟨cl147, Ar147, qa147, Sa147, Na147, Ha147, Ga147⟩ := id V_a1_146
  have hin147 : ¬ ((3 : Int32) < 0 ∨ cl147.slots.size ≤ ((3 : Int32)).toNatClampNeg) := inb_of Sa147 ⟨by decide, by decide⟩
  obtain ⟨T148, h148, X148, e148, W148, st148⟩ := stI X146 hx hZ e146 Ar147 (j := (3 : Int32)) hin147 (g := (mkF m 13 #[rv a1, iv (-1 : Int32), iv (3 : Int32), iv (4 : Int32)] [(.int (-1 : Int32)), (.int (3 : Int32)), (.ref a1)])) rfl rfl (hb hby d7_13)
  refine own_by st148 ?_
  have V_a1_148 : Arv Z h148 a1 k .int (4 : Int32) [(.int (-1 : Int32)), (.int (-1 : Int32)), (.int (-1 : Int32)), (.int (-1 : Int32))] (.int (0 : Int32)) := Arv.set Ar147 qa147 Sa147 Na147 Ha147 Ga147 rfl W148 3 rfl (Nat.le_of_ble_eq_true rfl)
  have N148 := Fr.snoc X148 N146 g_a1
  have Z148 : n0 ≤ h148.size := Nat.le_trans Z146 (Keep.of_wr W148).1
  have K148 := K146.wr W148 (Or.inl (List.mem_of_getElem? (i := 0) rfl))
  show own_Fin _ _ _ _ (T148.setTop (mkF m 14 #[rv a1, iv (-1 : Int32), iv (3 : Int32), iv (4 : Int32)] []))
  refine own_go (XS.iinc X148.here hx rfl (hb hby d7_14) rfl rfl (Steps.refl _)) ?_
  show own_Fin _ _ _ _ (T148.setTop (mkF m 17 #[rv a1, iv (-1 : Int32), iv (4 : Int32), iv (4 : Int32)] []))
  refine own_go (XS.goto X148.here hx rfl (pc0 := 17) (pc' := 5) rfl (hb hby d7_17) (by decide) (by decide) (Steps.refl _)) ?_
  show own_Fin _ _ _ _ (T148.setTop (mkF m 5 #[rv a1, iv (-1 : Int32), iv (4 : Int32), iv (4 : Int32)] []))
  refine own_go (XS.iloadN X148.here hx rfl (hb hby d7_5) rfl (Steps.refl _)) ?_
  show own_Fin _ _ _ _ (T148.setTop (mkF m 6 #[rv a1, iv (-1 : Int32), iv (4 : Int32), iv (4 : Int32)] [(.int (4 : Int32))]))
  refine own_go (XS.iloadN X148.here hx rfl (hb hby d7_6) rfl (Steps.refl _)) ?_
  show own_Fin _ _ _ _ (T148.setTop (mkF m 7 #[rv a1, iv (-1 : Int32), iv (4 : Int32), iv (4 : Int32)] [(.int (4 : Int32)), (.int (4 : Int32))]))
  refine own_go (XS.icmpYes X148.here hx rfl (pc0 := 7) (pc' := 20) rfl (hb hby d7_7) rfl (flt (by decide : ¬ ((4 : Int32) < (4 : Int32)))).2.1 (by decide) (by decide) (Steps.refl _)) ?_
  show own_Fin _ _ _ _ (T148.setTop (mkF m 20 #[rv a1, iv (-1 : Int32), iv (4 : Int32), iv (4 : Int32)] []))
  obtain ⟨fs149, hr149, hrun149, hended149, hW149, hsame149⟩ := X148.leave (v := none) (fun _ => rfl)
  refine own_done (X148.returnOut hx Bd.returns (hb hby d7_20) hr149) hrun149 hended149 ⟨_, _, rfl, ?_, ⟨_, rfl⟩, hW149, hsame149.mono (by decide) (by decide)⟩
  show Qfill_4 Z a1 k h0 n0 _ T148.heap _
  rw [e148]
  exact ⟨rfl, N148, K148, V_a1_148⟩
theorem d5_0 : decode prog_15_method_1_code 0 = .ok (.aload_n 0, 1) := by decide +kernel
theorem d5_1 : decode prog_15_method_1_code 1 = .ok (.invokespecial 1, 3) := by decide +kernel
theorem d5_4 : decode prog_15_method_1_code 4 = .ok (.aload_n 0, 1) := by decide +kernel
theorem d5_5 : decode prog_15_method_1_code 5 = .ok (.aload_n 1, 1) := by decide +kernel
theorem d5_6 : decode prog_15_method_1_code 6 = .ok (.invokeinterface 7 1, 5) := by decide +kernel
theorem d5_11 : decode prog_15_method_1_code 11 = .ok (.anewarray 13, 3) := by decide +kernel
theorem d5_14 : decode prog_15_method_1_code 14 = .ok (.putfield 15, 3) := by decide +kernel
theorem d5_17 : decode prog_15_method_1_code 17 = .ok (.iconst 0, 1) := by decide +kernel
theorem d5_18 : decode prog_15_method_1_code 18 = .ok (.istore_n 2, 1) := by decide +kernel
theorem d5_19 : decode prog_15_method_1_code 19 = .ok (.iload_n 2, 1) := by decide +kernel
theorem d5_20 : decode prog_15_method_1_code 20 = .ok (.aload_n 1, 1) := by decide +kernel
theorem d5_21 : decode prog_15_method_1_code 21 = .ok (.invokeinterface 7 1, 5) := by decide +kernel
theorem d5_26 : decode prog_15_method_1_code 26 = .ok (.if_icmp .ge 31, 3) := by decide +kernel
theorem d5_29 : decode prog_15_method_1_code 29 = .ok (.aload_n 0, 1) := by decide +kernel
theorem d5_30 : decode prog_15_method_1_code 30 = .ok (.getfield 15, 3) := by decide +kernel
theorem d5_33 : decode prog_15_method_1_code 33 = .ok (.iload_n 2, 1) := by decide +kernel
theorem d5_34 : decode prog_15_method_1_code 34 = .ok (.aload_n 1, 1) := by decide +kernel
theorem d5_35 : decode prog_15_method_1_code 35 = .ok (.iload_n 2, 1) := by decide +kernel
theorem d5_36 : decode prog_15_method_1_code 36 = .ok (.invokeinterface 21 2, 5) := by decide +kernel
theorem d5_41 : decode prog_15_method_1_code 41 = .ok (.checkcast 25, 3) := by decide +kernel
theorem d5_44 : decode prog_15_method_1_code 44 = .ok (.getstatic 27, 3) := by decide +kernel
theorem d5_47 : decode prog_15_method_1_code 47 = .ok (.invokevirtual 33, 3) := by decide +kernel
theorem d5_50 : decode prog_15_method_1_code 50 = .ok (.aastore, 1) := by decide +kernel
theorem d5_51 : decode prog_15_method_1_code 51 = .ok (.iinc 2 1, 3) := by decide +kernel
theorem d5_54 : decode prog_15_method_1_code 54 = .ok (.goto (-35), 3) := by decide +kernel
theorem d5_57 : decode prog_15_method_1_code 57 = .ok (.aload_n 0, 1) := by decide +kernel
theorem d5_58 : decode prog_15_method_1_code 58 = .ok (.aload_n 1, 1) := by decide +kernel
theorem d5_59 : decode prog_15_method_1_code 59 = .ok (.invokeinterface 7 1, 5) := by decide +kernel
theorem d5_64 : decode prog_15_method_1_code 64 = .ok (.putfield 37, 3) := by decide +kernel
theorem d5_67 : decode prog_15_method_1_code 67 = .ok (.aload_n 0, 1) := by decide +kernel
theorem d5_68 : decode prog_15_method_1_code 68 = .ok (.aload_n 0, 1) := by decide +kernel
theorem d5_69 : decode prog_15_method_1_code 69 = .ok (.getfield 37, 3) := by decide +kernel
theorem d5_72 : decode prog_15_method_1_code 72 = .ok (.iconst 1, 1) := by decide +kernel
theorem d5_73 : decode prog_15_method_1_code 73 = .ok (.iadd, 1) := by decide +kernel
theorem d5_74 : decode prog_15_method_1_code 74 = .ok (.newarray .int, 2) := by decide +kernel
theorem d5_76 : decode prog_15_method_1_code 76 = .ok (.putfield 41, 3) := by decide +kernel
theorem d5_79 : decode prog_15_method_1_code 79 = .ok (.aload_n 0, 1) := by decide +kernel
theorem d5_80 : decode prog_15_method_1_code 80 = .ok (.getfield 41, 3) := by decide +kernel
theorem d5_83 : decode prog_15_method_1_code 83 = .ok (.iconst (-1), 1) := by decide +kernel
theorem d5_84 : decode prog_15_method_1_code 84 = .ok (.invokestatic 45, 3) := by decide +kernel
theorem d5_87 : decode prog_15_method_1_code 87 = .ok (.aload_n 0, 1) := by decide +kernel
theorem d5_88 : decode prog_15_method_1_code 88 = .ok (.getfield 41, 3) := by decide +kernel
theorem d5_91 : decode prog_15_method_1_code 91 = .ok (.aload_n 0, 1) := by decide +kernel
theorem d5_92 : decode prog_15_method_1_code 92 = .ok (.getfield 37, 3) := by decide +kernel
theorem d5_95 : decode prog_15_method_1_code 95 = .ok (.iconst 0, 1) := by decide +kernel
theorem d5_96 : decode prog_15_method_1_code 96 = .ok (.iastore, 1) := by decide +kernel
theorem d5_97 : decode prog_15_method_1_code 97 = .ok (.aload_n 0, 1) := by decide +kernel
theorem d5_98 : decode prog_15_method_1_code 98 = .ok (.aload_n 0, 1) := by decide +kernel
theorem d5_99 : decode prog_15_method_1_code 99 = .ok (.getfield 37, 3) := by decide +kernel
theorem d5_102 : decode prog_15_method_1_code 102 = .ok (.putfield 51, 3) := by decide +kernel
theorem d5_105 : decode prog_15_method_1_code 105 = .ok (.return_, 1) := by decide +kernel
theorem pn_com_example_gridtally_gridtally_casefile_IdSequence : plainName "com/example/gridtally/gridtally/casefile/IdSequence" = true := by first | (simp [plainName, overriddenIn]; done) | decide +kernel
theorem ef_init_0 (m : MethodId) (x0 : Addr) (x1 : Addr) : entryFrame m #[(.ref x0), (.ref x1)] 3 = mkF m 0 #[.val (.ref x0), .val (.ref x1), .unset] [] := by first | (simp [entryFrame, mkF, argsToLocals, Value.category]; done) | rfl
def Qinit_0 (Z : State) (a1 : Addr) (a2 : Addr) (u : Addr) (cs : Int32) (h0 : Heap) (n0 : Nat) (v : Option Value) (h : Heap) (L : List Loc) : Prop := ∃ (bi : Addr) (bf : Addr) (ki : ClassId) (kf : ClassId), v = none ∧ Fr n0 L ∧ Keep h0 h [a1] ∧ n0 ≤ bi ∧ h0.size ≤ bi ∧ n0 ≤ bf ∧ h0.size ≤ bf ∧ Exa Z h a1 "com/example/gridtally/gridtally/casefile/IdSequence" ∧ Fld Z h a1 "com/example/gridtally/gridtally/casefile/IdSequence" "ids" "[[B" (.ref bi) ∧ Fld Z h a1 "com/example/gridtally/gridtally/casefile/IdSequence" "none" "I" (.int (0 : Int32)) ∧ Fld Z h a1 "com/example/gridtally/gridtally/casefile/IdSequence" "following" "[I" (.ref bf) ∧ Fld Z h a1 "com/example/gridtally/gridtally/casefile/IdSequence" "last" "I" (.int (0 : Int32)) ∧ Arv Z h bi ki (.array .byte) (0 : Int32) [] .null ∧ Arv Z h bf kf .int (1 : Int32) [(.int (0 : Int32))] (.int (0 : Int32))
abbrev Ginit_0 (Z : State) (a1 : Addr) (a2 : Addr) (u : Addr) (cs : Int32) (h0 : Heap) (n0 : Nat) (s : State) : Outcome → State → Prop := fun o U' => ∃ v L, o = .returned v ∧ Qinit_0 Z a1 a2 u cs h0 n0 v U'.heap L ∧ FrameEnd s o U' L ({ frames := 5, cells := 2, slots := 1, locals := 112 } : Room).cells ({ frames := 5, cells := 2, slots := 1, locals := 112 } : Room).slots
theorem pd__28__29_I : parseMethodDescriptor "()I" = some ⟨[], some .int⟩ := by decide +kernel
theorem pd__28__5b_II_29_V : parseMethodDescriptor "([II)V" = some ⟨[(.array .int), .int], none⟩ := by decide +kernel
set_option maxRecDepth 65536 in
set_option maxHeartbeats 40000000 in
theorem rminit_0 (l : Launch) (Z : State) (a0 : Array Value) (hw : ∀ d ∈ tables_1, d.before a0 Z = true) (ws : List Jvm.Cond) (a1 : Addr) (a2 : Addr) (u : Addr) (cs : Int32) (h0 : Heap) (n0 : Nat) (Z0 : n0 ≤ h0.size) (E_a1 : Exa Z h0 a1 "com/example/gridtally/gridtally/casefile/IdSequence") (F_ids_a1 : Fld Z h0 a1 "com/example/gridtally/gridtally/casefile/IdSequence" "ids" "[[B" .null) (F_none_a1 : Fld Z h0 a1 "com/example/gridtally/gridtally/casefile/IdSequence" "none" "I" (.int (0 : Int32))) (F_following_a1 : Fld Z h0 a1 "com/example/gridtally/gridtally/casefile/IdSequence" "following" "[I" .null) (F_last_a1 : Fld Z h0 a1 "com/example/gridtally/gridtally/casefile/IdSequence" "last" "I" (.int (0 : Int32))) (g_a1 : n0 ≤ a1) (O0 : Old Z n0 h0) (S_INSTANCE : Sta Z Z.heap "sun/nio/cs/UTF_8" "INSTANCE" "Lsun/nio/cs/UTF_8;" (.ref u)) (S_UTF_8 : Sta Z Z.heap "java/nio/charset/StandardCharsets" "UTF_8" "Ljava/nio/charset/Charset;" (.ref u)) (S_COMPACT_STRINGS : Sta Z Z.heap "java/lang/String" "COMPACT_STRINGS" "Z" (.int cs)) (hcs : ¬ cs = (0 : Int32)) (E_a2 : Exa Z h0 a2 "java/util/ArrayList") (F_size_a2 : Fld Z h0 a2 "java/util/ArrayList" "size" "I" (.int (0 : Int32))) :
    MetFree l (⟨"com/example/gridtally/gridtally/casefile/IdSequence", "<init>", "(Ljava/util/List;)V"⟩ : MethodName) (head1 (Jvm.Cond.code (⟨"com/example/gridtally/gridtally/casefile/IdSequence", "<init>", "(Ljava/util/List;)V"⟩ : MethodName) prog_15_method_1_code 3 none :: ws) ({ frames := 5, cells := 2, slots := 1, locals := 112 } : Room)) (fun a U => a = #[(.ref a1), (.ref a2)] ∧ Z.Warmed39 U.vm ∧ U.heap = h0) (fun _ _ _ _ _ => True) (fun _ U o U' => ∃ v L, o = .returned v ∧ Qinit_0 Z a1 a2 u cs h0 n0 v U'.heap L ∧ FrameEnd U o U' L ({ frames := 5, cells := 2, slots := 1, locals := 112 } : Room).cells ({ frames := 5, cells := 2, slots := 1, locals := 112 } : Room).slots) := by
  refine MetFree.of_bodySF (plainFor_of_name pn_com_example_gridtally_gridtally_casefile_IdSequence) hisR ?_
  intro p e s m args below meth c s₁ Bd hml0 hP hK
  obtain ⟨rfl, hZ, hh⟩ := hP
  have hx := Bd.exec
  have hby := Bd.bytes
  have hml : c.maxLocals = 3 := hml0
  have hown : s.vm.findClass "com/example/gridtally/gridtally/casefile/IdSequence" = some m.cls := findClass_of_methodNamed Bd.named
  have hnm := (name_of_methodNamed Bd.named Bd.method).1
  have X0 : Stand p l e ({ frames := 5, cells := 2, slots := 1, locals := 112 } : Room) s m #[(.ref a1), (.ref a2)] below meth c s₁ [] 0 0 := Stand.of_body Bd
  have e0 : s₁.heap = h0 := by rw [← hh, Bd.state]; rfl
  have es0 : s.heap = h0 := hh
  have N0 := Fr.nil n0
  show own_Fin p e below (Ginit_0 Z a1 a2 u cs h0 n0 s) (s₁.setTop (entryFrame m #[(.ref a1), (.ref a2)] 3))
  rw [ef_init_0 m a1 a2]
  have Kz := Keep.refl h0 [a1]
  refine own_go (XS.aloadN X0.here hx rfl (hb hby d5_0) rfl rfl (Steps.refl _)) ?_
  show own_Fin _ _ _ _ (s₁.setTop (mkF m 1 #[rv a1, rv a2, .unset] [(.ref a1)]))
  obtain ⟨T150, X150, e150, st150⟩ := initO X0 hx hZ hown (hw _ (List.mem_of_getElem? (i := 32) rfl)) (hw _ (List.mem_of_getElem? (i := 19) rfl)) (hw _ (List.mem_of_getElem? (i := 20) rfl)) e0 (g := (mkF m 1 #[rv a1, rv a2, .unset] [(.ref a1)])) rfl (by rw [hml]; rfl) rfl (hb hby d5_1) (by decide) (W := 0) (by show 2 * 0 + _ ≤ _; exact Nat.le_of_eq rfl) (by decide)
  refine own_by st150 ?_
  show own_Fin _ _ _ _ (T150.setTop (mkF m 4 #[rv a1, rv a2, .unset] []))
  refine own_go (XS.aloadN X150.here hx rfl (hb hby d5_4) rfl rfl (Steps.refl _)) ?_
  show own_Fin _ _ _ _ (T150.setTop (mkF m 5 #[rv a1, rv a2, .unset] [(.ref a1)]))
  refine own_go (XS.aloadN X150.here hx rfl (hb hby d5_5) rfl rfl (Steps.refl _)) ?_
  show own_Fin _ _ _ _ (T150.setTop (mkF m 6 #[rv a1, rv a2, .unset] [(.ref a2), (.ref a1)]))
  obtain ⟨cq151, kq151, q151a, q151b, q151c⟩ := isOf hZ e150 E_a2
  obtain ⟨_, _, ⟨T151, L151, k151, n151⟩, -, X151, ⟨Lc151, hQ151, l151, y151, z151⟩, st151⟩ := X150.interfaceBack hx (xi := (⟨"java/util/List", "size", "()I"⟩ : MethodName)) (y := (⟨"java/util/ArrayList", "size", "()I"⟩ : MethodName)) hown (mvT hZ (hw _ (List.mem_of_getElem? (i := 33) rfl))) (mvT hZ (hw _ (List.mem_of_getElem? (i := 34) rfl))) (mvT hZ (hw _ (List.mem_of_getElem? (i := 35) rfl))) (mvT hZ (hw _ (List.mem_of_getElem? (i := 36) rfl))) (mvT hZ (hw _ (List.mem_of_getElem? (i := 37) rfl))) (mvT hZ (hw _ (List.mem_of_getElem? (i := 38) rfl))) (mvT hZ (hw _ (List.mem_of_getElem? (i := 39) rfl))) (mvT hZ (hw _ (List.mem_of_getElem? (i := 40) rfl))) (by decide) (backOf (W := 1) (rmsize l Z a0 hw [] a2 (0 : Int32) h0 n0 Z0 F_size_a2) hZ (hw _ (List.mem_of_getElem? (i := 41) rfl)) (hw _ (List.mem_of_getElem? (i := 2) rfl)) (by decide) (by decide)) q151a q151b q151c (g := (mkF m 6 #[rv a1, rv a2, .unset] [(.ref a2), (.ref a1)])) rfl (by rw [hml]; rfl) (Steps.refl _) (argsL := []) (rest := [(.ref a1)]) (lenOf pd__28__29_I rfl) rfl (by show 2 * 0 + _ ≤ _; exact Nat.le_of_eq rfl) (hb hby d5_6) (fun _ _ => ⟨rfl, e150, (by decide : 0 + 0 ≤ _), (by decide : 0 + 0 ≤ _)⟩)
  dsimp only [Pt.U, Pt.locs, Pt.cells, Pt.slots] at X151 l151 y151 z151 st151 hQ151
  subst l151 y151 z151
  obtain ⟨rfl, Nq151, e151⟩ := hQ151
  refine own_go st151 ?_
  have N151 := Fr.app N0 Nq151
  show own_Fin _ _ _ _ (T151.setTop (mkF m 11 #[rv a1, rv a2, .unset] [(.int (0 : Int32)), (.ref a1)]))
  obtain ⟨T152, h152, k152, X152, e152, E152, A152, B152, O152, st152⟩ := newRA X151 hx hZ hown (ty := .byte) (by decide) (hw _ (List.mem_of_getElem? (i := 44) rfl)) (hw _ (List.mem_of_getElem? (i := 45) rfl)) e151 (g := (mkF m 11 #[rv a1, rv a2, .unset] [(.int (0 : Int32)), (.ref a1)])) rfl (hb hby d5_11) rfl (by decide) (cap := 0) (by decide) (by decide) (by decide) (by decide) (ad := "[[B") (by decide)
  obtain ⟨b152, g152⟩ : ∃ z, z = h0.size := ⟨_, rfl⟩
  rw [← g152] at A152 B152 st152
  refine own_by st152 ?_
  have ne_a1_b152 : a1 ≠ b152 := Nat.ne_of_lt (Nat.lt_of_lt_of_eq E_a1.lt g152.symm)
  have ne_a2_b152 : a2 ≠ b152 := Nat.ne_of_lt (Nat.lt_of_lt_of_eq E_a2.lt g152.symm)
  have Od152 := O0.ext E152
  have E_a1_152 := E_a1.ext E152
  have F_ids_a1_152 := F_ids_a1.ext E152
  have F_none_a1_152 := F_none_a1.ext E152
  have F_following_a1_152 := F_following_a1.ext E152
  have F_last_a1_152 := F_last_a1.ext E152
  have E_a2_152 := E_a2.ext E152
  have F_size_a2_152 := F_size_a2.ext E152
  have g_b152 : n0 ≤ b152 := Nat.le_trans Z0 (Nat.le_of_eq g152.symm)
  have sz_b152 : h0.size ≤ b152 := Nat.le_trans Kz.1 (Nat.le_of_eq g152.symm)
  have K152 := Kz.ext E152
  have Z152 : n0 ≤ h152.size := Nat.le_trans Z0 E152.1
  have V_b152 : Arv Z h152 b152 k152 (.array .byte) (0 : Int32) [] .null := (Arv.new A152 (by decide)).pad (pad_rep [] .null 0)
  have E_b152 := B152
  show own_Fin _ _ _ _ (T152.setTop (mkF m 14 #[rv a1, rv a2, .unset] [(.ref b152), (.ref a1)]))
  obtain ⟨T153, h153, X153, e153, W153, st153⟩ := putF X152 hx hZ hown (host := "") (Or.inl (hw _ (List.mem_of_getElem? (i := 46) rfl))) Via.refl e152 F_ids_a1_152 E_a1_152 (Or.inr ⟨(hw _ (List.mem_of_getElem? (i := 47) rfl)), rfl, hnm⟩) (hw _ (List.mem_of_getElem? (i := 27) rfl)) (ty := (.array (.array .byte))) (by decide) rfl rfl (g := (mkF m 14 #[rv a1, rv a2, .unset] [(.ref b152), (.ref a1)])) rfl rfl (hb hby d5_14)
  refine own_by st153 ?_
  have F_ids_a1_153 := F_ids_a1_152.same W153
  have Od153 := Od152.wr W153 g_a1
  have E_a1_153 := E_a1_152.wr W153
  have F_none_a1_153 := F_none_a1_152.other W153 (Or.inr (slot_ne (Or.inr (hw _ (List.mem_of_getElem? (i := 49) rfl))) (Or.inr (hw _ (List.mem_of_getElem? (i := 47) rfl))) (by decide) (t := .int) (t' := (.array (.array .byte))) (by decide) (by decide)))
  have F_following_a1_153 := F_following_a1_152.other W153 (Or.inr (slot_ne (Or.inr (hw _ (List.mem_of_getElem? (i := 52) rfl))) (Or.inr (hw _ (List.mem_of_getElem? (i := 47) rfl))) (by decide) (t := (.array .int)) (t' := (.array (.array .byte))) (by decide) (by decide)))
  have F_last_a1_153 := F_last_a1_152.other W153 (Or.inr (slot_ne (Or.inl (hw _ (List.mem_of_getElem? (i := 58) rfl))) (Or.inr (hw _ (List.mem_of_getElem? (i := 47) rfl))) (by decide) (t := .int) (t' := (.array (.array .byte))) (by decide) (by decide)))
  have E_a2_153 := E_a2_152.wr W153
  have F_size_a2_153 := F_size_a2_152.other W153 (Or.inl (Exa.ne E_a2_152 E_a1_152 (by decide)))
  have V_b152_153 := V_b152.other W153 (Ne.symm ne_a1_b152)
  have E_b152_153 := E_b152.wr W153
  have N153 := Fr.snoc X153 N151 g_a1
  have Z153 : n0 ≤ h153.size := Nat.le_trans Z152 (Keep.of_wr W153).1
  have K153 := K152.wr W153 (Or.inl (List.mem_of_getElem? (i := 0) rfl))
  show own_Fin _ _ _ _ (T153.setTop (mkF m 17 #[rv a1, rv a2, .unset] []))
  refine own_go (XS.iconst X153.here hx rfl (hb hby d5_17) (Steps.refl _)) ?_
  show own_Fin _ _ _ _ (T153.setTop (mkF m 18 #[rv a1, rv a2, .unset] [(.int (0 : Int32))]))
  refine own_go (XS.istoreN X153.here hx rfl (hb hby d5_18) rfl rfl (Steps.refl _)) ?_
  show own_Fin _ _ _ _ (T153.setTop (mkF m 19 #[rv a1, rv a2, iv (0 : Int32)] []))
  refine own_go (XS.iloadN X153.here hx rfl (hb hby d5_19) rfl (Steps.refl _)) ?_
  show own_Fin _ _ _ _ (T153.setTop (mkF m 20 #[rv a1, rv a2, iv (0 : Int32)] [(.int (0 : Int32))]))
  refine own_go (XS.aloadN X153.here hx rfl (hb hby d5_20) rfl rfl (Steps.refl _)) ?_
  show own_Fin _ _ _ _ (T153.setTop (mkF m 21 #[rv a1, rv a2, iv (0 : Int32)] [(.ref a2), (.int (0 : Int32))]))
  obtain ⟨cq154, kq154, q154a, q154b, q154c⟩ := isOf hZ e153 E_a2_153
  obtain ⟨_, _, ⟨T154, L154, k154, n154⟩, -, X154, ⟨Lc154, hQ154, l154, y154, z154⟩, st154⟩ := X153.interfaceBack hx (xi := (⟨"java/util/List", "size", "()I"⟩ : MethodName)) (y := (⟨"java/util/ArrayList", "size", "()I"⟩ : MethodName)) hown (mvT hZ (hw _ (List.mem_of_getElem? (i := 33) rfl))) (mvT hZ (hw _ (List.mem_of_getElem? (i := 34) rfl))) (mvT hZ (hw _ (List.mem_of_getElem? (i := 35) rfl))) (mvT hZ (hw _ (List.mem_of_getElem? (i := 36) rfl))) (mvT hZ (hw _ (List.mem_of_getElem? (i := 37) rfl))) (mvT hZ (hw _ (List.mem_of_getElem? (i := 38) rfl))) (mvT hZ (hw _ (List.mem_of_getElem? (i := 39) rfl))) (mvT hZ (hw _ (List.mem_of_getElem? (i := 40) rfl))) (by decide) (backOf (W := 1) (rmsize l Z a0 hw [] a2 (0 : Int32) h153 n0 Z153 F_size_a2_153) hZ (hw _ (List.mem_of_getElem? (i := 41) rfl)) (hw _ (List.mem_of_getElem? (i := 2) rfl)) (by decide) (by decide)) q154a q154b q154c (g := (mkF m 21 #[rv a1, rv a2, iv (0 : Int32)] [(.ref a2), (.int (0 : Int32))])) rfl (by rw [hml]; rfl) (Steps.refl _) (argsL := []) (rest := [(.int (0 : Int32))]) (lenOf pd__28__29_I rfl) rfl (by show 2 * 0 + _ ≤ _; exact Nat.le_of_eq rfl) (hb hby d5_21) (fun _ _ => ⟨rfl, e153, (by decide : 1 + 0 ≤ _), (by decide : 0 + 0 ≤ _)⟩)
  dsimp only [Pt.U, Pt.locs, Pt.cells, Pt.slots] at X154 l154 y154 z154 st154 hQ154
  subst l154 y154 z154
  obtain ⟨rfl, Nq154, e154⟩ := hQ154
  refine own_go st154 ?_
  have N154 := Fr.app N153 Nq154
  show own_Fin _ _ _ _ (T154.setTop (mkF m 26 #[rv a1, rv a2, iv (0 : Int32)] [(.int (0 : Int32)), (.int (0 : Int32))]))
  refine own_go (XS.icmpYes X154.here hx rfl (pc0 := 26) (pc' := 57) rfl (hb hby d5_26) rfl (flt (by decide : ¬ ((0 : Int32) < (0 : Int32)))).2.1 (by decide) (by decide) (Steps.refl _)) ?_
  show own_Fin _ _ _ _ (T154.setTop (mkF m 57 #[rv a1, rv a2, iv (0 : Int32)] []))
  refine own_go (XS.aloadN X154.here hx rfl (hb hby d5_57) rfl rfl (Steps.refl _)) ?_
  show own_Fin _ _ _ _ (T154.setTop (mkF m 58 #[rv a1, rv a2, iv (0 : Int32)] [(.ref a1)]))
  refine own_go (XS.aloadN X154.here hx rfl (hb hby d5_58) rfl rfl (Steps.refl _)) ?_
  show own_Fin _ _ _ _ (T154.setTop (mkF m 59 #[rv a1, rv a2, iv (0 : Int32)] [(.ref a2), (.ref a1)]))
  obtain ⟨cq155, kq155, q155a, q155b, q155c⟩ := isOf hZ e154 E_a2_153
  obtain ⟨_, _, ⟨T155, L155, k155, n155⟩, -, X155, ⟨Lc155, hQ155, l155, y155, z155⟩, st155⟩ := X154.interfaceBack hx (xi := (⟨"java/util/List", "size", "()I"⟩ : MethodName)) (y := (⟨"java/util/ArrayList", "size", "()I"⟩ : MethodName)) hown (mvT hZ (hw _ (List.mem_of_getElem? (i := 33) rfl))) (mvT hZ (hw _ (List.mem_of_getElem? (i := 34) rfl))) (mvT hZ (hw _ (List.mem_of_getElem? (i := 35) rfl))) (mvT hZ (hw _ (List.mem_of_getElem? (i := 36) rfl))) (mvT hZ (hw _ (List.mem_of_getElem? (i := 37) rfl))) (mvT hZ (hw _ (List.mem_of_getElem? (i := 38) rfl))) (mvT hZ (hw _ (List.mem_of_getElem? (i := 39) rfl))) (mvT hZ (hw _ (List.mem_of_getElem? (i := 40) rfl))) (by decide) (backOf (W := 1) (rmsize l Z a0 hw [] a2 (0 : Int32) h153 n0 Z153 F_size_a2_153) hZ (hw _ (List.mem_of_getElem? (i := 41) rfl)) (hw _ (List.mem_of_getElem? (i := 2) rfl)) (by decide) (by decide)) q155a q155b q155c (g := (mkF m 59 #[rv a1, rv a2, iv (0 : Int32)] [(.ref a2), (.ref a1)])) rfl (by rw [hml]; rfl) (Steps.refl _) (argsL := []) (rest := [(.ref a1)]) (lenOf pd__28__29_I rfl) rfl (by show 2 * 0 + _ ≤ _; exact Nat.le_of_eq rfl) (hb hby d5_59) (fun _ _ => ⟨rfl, e154, (by decide : 1 + 0 ≤ _), (by decide : 0 + 0 ≤ _)⟩)
  dsimp only [Pt.U, Pt.locs, Pt.cells, Pt.slots] at X155 l155 y155 z155 st155 hQ155
  subst l155 y155 z155
  obtain ⟨rfl, Nq155, e155⟩ := hQ155
  refine own_go st155 ?_
  have N155 := Fr.app N154 Nq155
  show own_Fin _ _ _ _ (T155.setTop (mkF m 64 #[rv a1, rv a2, iv (0 : Int32)] [(.int (0 : Int32)), (.ref a1)]))
  obtain ⟨T156, h156, X156, e156, W156, st156⟩ := putF X155 hx hZ hown (host := "") (Or.inl (hw _ (List.mem_of_getElem? (i := 48) rfl))) Via.refl e155 F_none_a1_153 E_a1_153 (Or.inr ⟨(hw _ (List.mem_of_getElem? (i := 49) rfl)), rfl, hnm⟩) (hw _ (List.mem_of_getElem? (i := 27) rfl)) (ty := .int) (by decide) rfl rfl (g := (mkF m 64 #[rv a1, rv a2, iv (0 : Int32)] [(.int (0 : Int32)), (.ref a1)])) rfl rfl (hb hby d5_64)
  refine own_by st156 ?_
  have F_none_a1_156 := F_none_a1_153.same W156
  have Od156 := Od153.wr W156 g_a1
  have E_a1_156 := E_a1_153.wr W156
  have F_ids_a1_156 := F_ids_a1_153.other W156 (Or.inr (slot_ne (Or.inr (hw _ (List.mem_of_getElem? (i := 47) rfl))) (Or.inr (hw _ (List.mem_of_getElem? (i := 49) rfl))) (by decide) (t := (.array (.array .byte))) (t' := .int) (by decide) (by decide)))
  have F_following_a1_156 := F_following_a1_153.other W156 (Or.inr (slot_ne (Or.inr (hw _ (List.mem_of_getElem? (i := 52) rfl))) (Or.inr (hw _ (List.mem_of_getElem? (i := 49) rfl))) (by decide) (t := (.array .int)) (t' := .int) (by decide) (by decide)))
  have F_last_a1_156 := F_last_a1_153.other W156 (Or.inr (slot_ne (Or.inl (hw _ (List.mem_of_getElem? (i := 58) rfl))) (Or.inr (hw _ (List.mem_of_getElem? (i := 49) rfl))) (by decide) (t := .int) (t' := .int) (by decide) (by decide)))
  have E_a2_156 := E_a2_153.wr W156
  have F_size_a2_156 := F_size_a2_153.other W156 (Or.inl (Exa.ne E_a2_153 E_a1_153 (by decide)))
  have V_b152_156 := V_b152_153.other W156 (Ne.symm ne_a1_b152)
  have E_b152_156 := E_b152_153.wr W156
  have N156 := Fr.snoc X156 N155 g_a1
  have Z156 : n0 ≤ h156.size := Nat.le_trans Z153 (Keep.of_wr W156).1
  have K156 := K153.wr W156 (Or.inl (List.mem_of_getElem? (i := 0) rfl))
  show own_Fin _ _ _ _ (T156.setTop (mkF m 67 #[rv a1, rv a2, iv (0 : Int32)] []))
  refine own_go (XS.aloadN X156.here hx rfl (hb hby d5_67) rfl rfl (Steps.refl _)) ?_
  show own_Fin _ _ _ _ (T156.setTop (mkF m 68 #[rv a1, rv a2, iv (0 : Int32)] [(.ref a1)]))
  refine own_go (XS.aloadN X156.here hx rfl (hb hby d5_68) rfl rfl (Steps.refl _)) ?_
  show own_Fin _ _ _ _ (T156.setTop (mkF m 69 #[rv a1, rv a2, iv (0 : Int32)] [(.ref a1), (.ref a1)]))
  obtain ⟨T157, X157, e157, st157⟩ := getF X156 hx hZ hown (host := "") (Or.inl (hw _ (List.mem_of_getElem? (i := 48) rfl))) Via.refl e156 F_none_a1_156 (g := (mkF m 69 #[rv a1, rv a2, iv (0 : Int32)] [(.ref a1), (.ref a1)])) rfl rfl (hb hby d5_69)
  refine own_by st157 ?_
  show own_Fin _ _ _ _ (T157.setTop (mkF m 72 #[rv a1, rv a2, iv (0 : Int32)] [(.int (0 : Int32)), (.ref a1)]))
  refine own_go (XS.iconst X157.here hx rfl (hb hby d5_72) (Steps.refl _)) ?_
  show own_Fin _ _ _ _ (T157.setTop (mkF m 73 #[rv a1, rv a2, iv (0 : Int32)] [(.int (1 : Int32)), (.int (0 : Int32)), (.ref a1)]))
  refine own_go (XS.iadd X157.here hx rfl (hb hby d5_73) rfl (Steps.refl _)) ?_
  show own_Fin _ _ _ _ (T157.setTop (mkF m 74 #[rv a1, rv a2, iv (0 : Int32)] [(.int (1 : Int32)), (.ref a1)]))
  obtain ⟨T158, h158, k158, X158, e158, E158, A158, st158⟩ := newP X157 hx hZ (hw _ (List.mem_of_getElem? (i := 50) rfl)) e157 (g := (mkF m 74 #[rv a1, rv a2, iv (0 : Int32)] [(.int (1 : Int32)), (.ref a1)])) rfl (hb hby d5_74) rfl (by decide) (cap := 1) (by decide) (by decide) (by decide) (by decide)
  obtain ⟨b158, g158⟩ : ∃ z, z = h156.size := ⟨_, rfl⟩
  rw [← g158] at A158 st158
  refine own_by st158 ?_
  have ne_a1_b158 : a1 ≠ b158 := Nat.ne_of_lt (Nat.lt_of_lt_of_eq E_a1_156.lt g158.symm)
  have ne_a2_b158 : a2 ≠ b158 := Nat.ne_of_lt (Nat.lt_of_lt_of_eq E_a2_156.lt g158.symm)
  have ne_b152_b158 : b152 ≠ b158 := Nat.ne_of_lt (Nat.lt_of_lt_of_eq V_b152_156.lt g158.symm)
  have Od158 := Od156.ext E158
  have E_a1_158 := E_a1_156.ext E158
  have F_ids_a1_158 := F_ids_a1_156.ext E158
  have F_none_a1_158 := F_none_a1_156.ext E158
  have F_following_a1_158 := F_following_a1_156.ext E158
  have F_last_a1_158 := F_last_a1_156.ext E158
  have E_a2_158 := E_a2_156.ext E158
  have F_size_a2_158 := F_size_a2_156.ext E158
  have V_b152_158 := V_b152_156.ext E158
  have E_b152_158 := E_b152_156.ext E158
  have g_b158 : n0 ≤ b158 := Nat.le_trans Z156 (Nat.le_of_eq g158.symm)
  have sz_b158 : h0.size ≤ b158 := Nat.le_trans K156.1 (Nat.le_of_eq g158.symm)
  have K158 := K156.ext E158
  have Z158 : n0 ≤ h158.size := Nat.le_trans Z156 E158.1
  have V_b158 : Arv Z h158 b158 k158 .int (1 : Int32) [(.int (0 : Int32))] (.int (0 : Int32)) := (Arv.new A158 (by decide)).pad (pad_rep [] (.int (0 : Int32)) 1)
  show own_Fin _ _ _ _ (T158.setTop (mkF m 76 #[rv a1, rv a2, iv (0 : Int32)] [(.ref b158), (.ref a1)]))
  obtain ⟨T159, h159, X159, e159, W159, st159⟩ := putF X158 hx hZ hown (host := "") (Or.inl (hw _ (List.mem_of_getElem? (i := 51) rfl))) Via.refl e158 F_following_a1_158 E_a1_158 (Or.inr ⟨(hw _ (List.mem_of_getElem? (i := 52) rfl)), rfl, hnm⟩) (hw _ (List.mem_of_getElem? (i := 27) rfl)) (ty := (.array .int)) (by decide) rfl rfl (g := (mkF m 76 #[rv a1, rv a2, iv (0 : Int32)] [(.ref b158), (.ref a1)])) rfl rfl (hb hby d5_76)
  refine own_by st159 ?_
  have F_following_a1_159 := F_following_a1_158.same W159
  have Od159 := Od158.wr W159 g_a1
  have E_a1_159 := E_a1_158.wr W159
  have F_ids_a1_159 := F_ids_a1_158.other W159 (Or.inr (slot_ne (Or.inr (hw _ (List.mem_of_getElem? (i := 47) rfl))) (Or.inr (hw _ (List.mem_of_getElem? (i := 52) rfl))) (by decide) (t := (.array (.array .byte))) (t' := (.array .int)) (by decide) (by decide)))
  have F_none_a1_159 := F_none_a1_158.other W159 (Or.inr (slot_ne (Or.inr (hw _ (List.mem_of_getElem? (i := 49) rfl))) (Or.inr (hw _ (List.mem_of_getElem? (i := 52) rfl))) (by decide) (t := .int) (t' := (.array .int)) (by decide) (by decide)))
  have F_last_a1_159 := F_last_a1_158.other W159 (Or.inr (slot_ne (Or.inl (hw _ (List.mem_of_getElem? (i := 58) rfl))) (Or.inr (hw _ (List.mem_of_getElem? (i := 52) rfl))) (by decide) (t := .int) (t' := (.array .int)) (by decide) (by decide)))
  have E_a2_159 := E_a2_158.wr W159
  have F_size_a2_159 := F_size_a2_158.other W159 (Or.inl (Exa.ne E_a2_158 E_a1_158 (by decide)))
  have V_b152_159 := V_b152_158.other W159 (Ne.symm ne_a1_b152)
  have E_b152_159 := E_b152_158.wr W159
  have V_b158_159 := V_b158.other W159 (Ne.symm ne_a1_b158)
  have N159 := Fr.snoc X159 N156 g_a1
  have Z159 : n0 ≤ h159.size := Nat.le_trans Z158 (Keep.of_wr W159).1
  have K159 := K158.wr W159 (Or.inl (List.mem_of_getElem? (i := 0) rfl))
  show own_Fin _ _ _ _ (T159.setTop (mkF m 79 #[rv a1, rv a2, iv (0 : Int32)] []))
  refine own_go (XS.aloadN X159.here hx rfl (hb hby d5_79) rfl rfl (Steps.refl _)) ?_
  show own_Fin _ _ _ _ (T159.setTop (mkF m 80 #[rv a1, rv a2, iv (0 : Int32)] [(.ref a1)]))
  obtain ⟨T160, X160, e160, st160⟩ := getF X159 hx hZ hown (host := "") (Or.inl (hw _ (List.mem_of_getElem? (i := 51) rfl))) Via.refl e159 F_following_a1_159 (g := (mkF m 80 #[rv a1, rv a2, iv (0 : Int32)] [(.ref a1)])) rfl rfl (hb hby d5_80)
  refine own_by st160 ?_
  show own_Fin _ _ _ _ (T160.setTop (mkF m 83 #[rv a1, rv a2, iv (0 : Int32)] [(.ref b158)]))
  refine own_go (XS.iconst X160.here hx rfl (hb hby d5_83) (Steps.refl _)) ?_
  show own_Fin _ _ _ _ (T160.setTop (mkF m 84 #[rv a1, rv a2, iv (0 : Int32)] [(.int (-1 : Int32)), (.ref b158)]))
  obtain ⟨_, _, ⟨T161, L161, k161, n161⟩, -, X161, ⟨Lc161, hQ161, l161, y161, z161⟩, st161⟩ := Jvm.LawKit.callS X160 hx (y := (⟨"java/util/Arrays", "fill", "([II)V"⟩ : MethodName)) hown (mvT hZ (hw _ (List.mem_of_getElem? (i := 53) rfl))) (mvT hZ (hw _ (List.mem_of_getElem? (i := 54) rfl))) (mvT hZ (hw _ (List.mem_of_getElem? (i := 55) rfl))) (mvT hZ (hw _ (List.mem_of_getElem? (i := 56) rfl))) (by decide) (backOf (W := 0) (rmfill_1 l Z a0 hw [] b158 k158 h159 n0 Z159 V_b158_159 g_b158) hZ (hw _ (List.mem_of_getElem? (i := 56) rfl)) (hw _ (List.mem_of_getElem? (i := 55) rfl)) (by decide) (by decide)) (g := (mkF m 84 #[rv a1, rv a2, iv (0 : Int32)] [(.int (-1 : Int32)), (.ref b158)])) rfl (by rw [hml]; rfl) (argsL := [(.ref b158), (.int (-1 : Int32))]) (rest := []) (lenOf pd__28__5b_II_29_V rfl) rfl (by show 2 * 0 + _ ≤ _; exact Nat.le_of_eq rfl) (hb hby d5_84) (fun _ _ => ⟨rfl, e160, (by decide : 2 + 0 ≤ _), (by decide : 1 + 0 ≤ _)⟩)
  dsimp only [Pt.U, Pt.locs, Pt.cells, Pt.slots] at X161 l161 y161 z161 st161 hQ161
  subst l161 y161 z161
  refine own_by st161 ?_
  obtain ⟨rfl, Nq161, K161, r161_0⟩ := hQ161
  have Od161 := Od159.keep K161 (allS g_b158 all0)
  have E_a1_161 := E_a1_159.keep K161
  have F_ids_a1_161 := F_ids_a1_159.keep K161 (ninS ne_a1_b158 nin0)
  have F_none_a1_161 := F_none_a1_159.keep K161 (ninS ne_a1_b158 nin0)
  have F_following_a1_161 := F_following_a1_159.keep K161 (ninS ne_a1_b158 nin0)
  have F_last_a1_161 := F_last_a1_159.keep K161 (ninS ne_a1_b158 nin0)
  have E_a2_161 := E_a2_159.keep K161
  have F_size_a2_161 := F_size_a2_159.keep K161 (ninS ne_a2_b158 nin0)
  have V_b152_161 := V_b152_159.keep K161 (ninS ne_b152_b158 nin0)
  have E_b152_161 := E_b152_159.keep K161
  have Z161 : n0 ≤ T161.heap.size := Nat.le_trans Z159 K161.1
  have Kt161 := K159.trans K161 (allS (P := fun x => x ∈ _ ∨ _ ≤ x) (Or.inr sz_b158) all0)
  have N161 := Fr.app N159 Nq161
  show own_Fin _ _ _ _ (T161.setTop (mkF m 87 #[rv a1, rv a2, iv (0 : Int32)] []))
  refine own_go (XS.aloadN X161.here hx rfl (hb hby d5_87) rfl rfl (Steps.refl _)) ?_
  show own_Fin _ _ _ _ (T161.setTop (mkF m 88 #[rv a1, rv a2, iv (0 : Int32)] [(.ref a1)]))
  obtain ⟨T162, X162, e162, st162⟩ := getF X161 hx hZ hown (host := "") (Or.inl (hw _ (List.mem_of_getElem? (i := 51) rfl))) Via.refl rfl F_following_a1_161 (g := (mkF m 88 #[rv a1, rv a2, iv (0 : Int32)] [(.ref a1)])) rfl rfl (hb hby d5_88)
  refine own_by st162 ?_
  show own_Fin _ _ _ _ (T162.setTop (mkF m 91 #[rv a1, rv a2, iv (0 : Int32)] [(.ref b158)]))
  refine own_go (XS.aloadN X162.here hx rfl (hb hby d5_91) rfl rfl (Steps.refl _)) ?_
  show own_Fin _ _ _ _ (T162.setTop (mkF m 92 #[rv a1, rv a2, iv (0 : Int32)] [(.ref a1), (.ref b158)]))
  obtain ⟨T163, X163, e163, st163⟩ := getF X162 hx hZ hown (host := "") (Or.inl (hw _ (List.mem_of_getElem? (i := 48) rfl))) Via.refl e162 F_none_a1_161 (g := (mkF m 92 #[rv a1, rv a2, iv (0 : Int32)] [(.ref a1), (.ref b158)])) rfl rfl (hb hby d5_92)
  refine own_by st163 ?_
  show own_Fin _ _ _ _ (T163.setTop (mkF m 95 #[rv a1, rv a2, iv (0 : Int32)] [(.int (0 : Int32)), (.ref b158)]))
  refine own_go (XS.iconst X163.here hx rfl (hb hby d5_95) (Steps.refl _)) ?_
  show own_Fin _ _ _ _ (T163.setTop (mkF m 96 #[rv a1, rv a2, iv (0 : Int32)] [(.int (0 : Int32)), (.int (0 : Int32)), (.ref b158)]))
  obtain ⟨cl164, Ar164, qa164, Sa164, Na164, Ha164, Ga164⟩ := id r161_0
  have hin164 : ¬ ((0 : Int32) < 0 ∨ cl164.slots.size ≤ ((0 : Int32)).toNatClampNeg) := inb_of Sa164 ⟨by decide, by decide⟩
  obtain ⟨T165, h165, X165, e165, W165, st165⟩ := stI X163 hx hZ e163 Ar164 (j := (0 : Int32)) hin164 (g := (mkF m 96 #[rv a1, rv a2, iv (0 : Int32)] [(.int (0 : Int32)), (.int (0 : Int32)), (.ref b158)])) rfl rfl (hb hby d5_96)
  refine own_by st165 ?_
  have V_b158_165 : Arv Z h165 b158 k158 .int (1 : Int32) [(.int (0 : Int32))] (.int (0 : Int32)) := Arv.set Ar164 qa164 Sa164 Na164 Ha164 Ga164 rfl W165 0 rfl (Nat.le_of_ble_eq_true rfl)
  have Od165 := Od161.wr W165 g_b158
  have E_a1_165 := E_a1_161.wr W165
  have F_ids_a1_165 := F_ids_a1_161.other W165 (Or.inl ne_a1_b158)
  have F_none_a1_165 := F_none_a1_161.other W165 (Or.inl ne_a1_b158)
  have F_following_a1_165 := F_following_a1_161.other W165 (Or.inl ne_a1_b158)
  have F_last_a1_165 := F_last_a1_161.other W165 (Or.inl ne_a1_b158)
  have E_a2_165 := E_a2_161.wr W165
  have F_size_a2_165 := F_size_a2_161.other W165 (Or.inl ne_a2_b158)
  have V_b152_165 := V_b152_161.other W165 ne_b152_b158
  have E_b152_165 := E_b152_161.wr W165
  have N165 := Fr.snoc X165 N161 g_b158
  have Z165 : n0 ≤ h165.size := Nat.le_trans Z161 (Keep.of_wr W165).1
  have K165 := Kt161.wr W165 (Or.inr sz_b158)
  show own_Fin _ _ _ _ (T165.setTop (mkF m 97 #[rv a1, rv a2, iv (0 : Int32)] []))
  refine own_go (XS.aloadN X165.here hx rfl (hb hby d5_97) rfl rfl (Steps.refl _)) ?_
  show own_Fin _ _ _ _ (T165.setTop (mkF m 98 #[rv a1, rv a2, iv (0 : Int32)] [(.ref a1)]))
  refine own_go (XS.aloadN X165.here hx rfl (hb hby d5_98) rfl rfl (Steps.refl _)) ?_
  show own_Fin _ _ _ _ (T165.setTop (mkF m 99 #[rv a1, rv a2, iv (0 : Int32)] [(.ref a1), (.ref a1)]))
  obtain ⟨T166, X166, e166, st166⟩ := getF X165 hx hZ hown (host := "") (Or.inl (hw _ (List.mem_of_getElem? (i := 48) rfl))) Via.refl e165 F_none_a1_165 (g := (mkF m 99 #[rv a1, rv a2, iv (0 : Int32)] [(.ref a1), (.ref a1)])) rfl rfl (hb hby d5_99)
  refine own_by st166 ?_
  show own_Fin _ _ _ _ (T166.setTop (mkF m 102 #[rv a1, rv a2, iv (0 : Int32)] [(.int (0 : Int32)), (.ref a1)]))
  obtain ⟨T167, h167, X167, e167, W167, st167⟩ := putF X166 hx hZ hown (host := "") (Or.inl (hw _ (List.mem_of_getElem? (i := 57) rfl))) Via.refl e166 F_last_a1_165 E_a1_165 (Or.inl (hw _ (List.mem_of_getElem? (i := 58) rfl))) (hw _ (List.mem_of_getElem? (i := 27) rfl)) (ty := .int) (by decide) rfl rfl (g := (mkF m 102 #[rv a1, rv a2, iv (0 : Int32)] [(.int (0 : Int32)), (.ref a1)])) rfl rfl (hb hby d5_102)
  refine own_by st167 ?_
  have F_last_a1_167 := F_last_a1_165.same W167
  have Od167 := Od165.wr W167 g_a1
  have E_a1_167 := E_a1_165.wr W167
  have F_ids_a1_167 := F_ids_a1_165.other W167 (Or.inr (slot_ne (Or.inr (hw _ (List.mem_of_getElem? (i := 47) rfl))) (Or.inl (hw _ (List.mem_of_getElem? (i := 58) rfl))) (by decide) (t := (.array (.array .byte))) (t' := .int) (by decide) (by decide)))
  have F_none_a1_167 := F_none_a1_165.other W167 (Or.inr (slot_ne (Or.inr (hw _ (List.mem_of_getElem? (i := 49) rfl))) (Or.inl (hw _ (List.mem_of_getElem? (i := 58) rfl))) (by decide) (t := .int) (t' := .int) (by decide) (by decide)))
  have F_following_a1_167 := F_following_a1_165.other W167 (Or.inr (slot_ne (Or.inr (hw _ (List.mem_of_getElem? (i := 52) rfl))) (Or.inl (hw _ (List.mem_of_getElem? (i := 58) rfl))) (by decide) (t := (.array .int)) (t' := .int) (by decide) (by decide)))
  have E_a2_167 := E_a2_165.wr W167
  have F_size_a2_167 := F_size_a2_165.other W167 (Or.inl (Exa.ne E_a2_165 E_a1_165 (by decide)))
  have V_b152_167 := V_b152_165.other W167 (Ne.symm ne_a1_b152)
  have E_b152_167 := E_b152_165.wr W167
  have V_b158_167 := V_b158_165.other W167 (Ne.symm ne_a1_b158)
  have N167 := Fr.snoc X167 N165 g_a1
  have Z167 : n0 ≤ h167.size := Nat.le_trans Z165 (Keep.of_wr W167).1
  have K167 := K165.wr W167 (Or.inl (List.mem_of_getElem? (i := 0) rfl))
  show own_Fin _ _ _ _ (T167.setTop (mkF m 105 #[rv a1, rv a2, iv (0 : Int32)] []))
  obtain ⟨fs168, hr168, hrun168, hended168, hW168, hsame168⟩ := X167.leave (v := none) (fun _ => rfl)
  refine own_done (X167.returnOut hx Bd.returns (hb hby d5_105) hr168) hrun168 hended168 ⟨_, _, rfl, ?_, ⟨_, rfl⟩, hW168, hsame168.mono (by decide) (by decide)⟩
  show Qinit_0 Z a1 a2 u cs h0 n0 _ T167.heap _
  rw [e167]
  exact ⟨b152, b158, k152, k158, rfl, N167, K167, g_b152, sz_b152, g_b158, sz_b158, E_a1_167, F_ids_a1_167, F_none_a1_167, F_following_a1_167, F_last_a1_167, V_b152_167, V_b158_167⟩
theorem ef_init_1 (m : MethodId) (x0 : Addr) (x1 : Addr) : entryFrame m #[(.ref x0), (.ref x1)] 3 = mkF m 0 #[.val (.ref x0), .val (.ref x1), .unset] [] := by first | (simp [entryFrame, mkF, argsToLocals, Value.category]; done) | rfl
def Qinit_1 (Z : State) (a1 : Addr) (a2 : Addr) (u : Addr) (cs : Int32) (ed : Addr) (ke : ClassId) (s0 : Addr) (v0 : Addr) (q0 : ClassId) (h0 : Heap) (n0 : Nat) (v : Option Value) (h : Heap) (L : List Loc) : Prop := ∃ (bi : Addr) (bf : Addr) (x0 : Addr) (ki : ClassId) (kf : ClassId), v = none ∧ Fr n0 L ∧ Keep h0 h [a1] ∧ n0 ≤ bi ∧ h0.size ≤ bi ∧ n0 ≤ bf ∧ h0.size ≤ bf ∧ n0 ≤ x0 ∧ h0.size ≤ x0 ∧ Exa Z h a1 "com/example/gridtally/gridtally/casefile/IdSequence" ∧ Fld Z h a1 "com/example/gridtally/gridtally/casefile/IdSequence" "ids" "[[B" (.ref bi) ∧ Fld Z h a1 "com/example/gridtally/gridtally/casefile/IdSequence" "none" "I" (.int (1 : Int32)) ∧ Fld Z h a1 "com/example/gridtally/gridtally/casefile/IdSequence" "following" "[I" (.ref bf) ∧ Fld Z h a1 "com/example/gridtally/gridtally/casefile/IdSequence" "last" "I" (.int (1 : Int32)) ∧ Arv Z h bi ki (.array .byte) (1 : Int32) [(.ref x0)] .null ∧ Arv Z h bf kf .int (2 : Int32) [(.int (-1 : Int32)), (.int (0 : Int32))] (.int (0 : Int32))
abbrev Ginit_1 (Z : State) (a1 : Addr) (a2 : Addr) (u : Addr) (cs : Int32) (ed : Addr) (ke : ClassId) (s0 : Addr) (v0 : Addr) (q0 : ClassId) (h0 : Heap) (n0 : Nat) (s : State) : Outcome → State → Prop := fun o U' => ∃ v L, o = .returned v ∧ Qinit_1 Z a1 a2 u cs ed ke s0 v0 q0 h0 n0 v U'.heap L ∧ FrameEnd s o U' L ({ frames := 5, cells := 3, slots := 4, locals := 112 } : Room).cells ({ frames := 5, cells := 3, slots := 4, locals := 112 } : Room).slots
theorem pd__28_Ljava_2f_nio_2f_charset_2f_Charset_3b__29__5b_B : parseMethodDescriptor "(Ljava/nio/charset/Charset;)[B" = some ⟨[(.object "java/nio/charset/Charset")], some (.array .byte)⟩ := by decide +kernel
set_option maxRecDepth 65536 in
set_option maxHeartbeats 40000000 in
theorem rminit_1 (l : Launch) (Z : State) (a0 : Array Value) (hw : ∀ d ∈ tables_1, d.before a0 Z = true) (ws : List Jvm.Cond) (a1 : Addr) (a2 : Addr) (u : Addr) (cs : Int32) (ed : Addr) (ke : ClassId) (s0 : Addr) (v0 : Addr) (q0 : ClassId) (h0 : Heap) (n0 : Nat) (Z0 : n0 ≤ h0.size) (E_a1 : Exa Z h0 a1 "com/example/gridtally/gridtally/casefile/IdSequence") (F_ids_a1 : Fld Z h0 a1 "com/example/gridtally/gridtally/casefile/IdSequence" "ids" "[[B" .null) (F_none_a1 : Fld Z h0 a1 "com/example/gridtally/gridtally/casefile/IdSequence" "none" "I" (.int (0 : Int32))) (F_following_a1 : Fld Z h0 a1 "com/example/gridtally/gridtally/casefile/IdSequence" "following" "[I" .null) (F_last_a1 : Fld Z h0 a1 "com/example/gridtally/gridtally/casefile/IdSequence" "last" "I" (.int (0 : Int32))) (g_a1 : n0 ≤ a1) (O0 : Old Z n0 h0) (S_INSTANCE : Sta Z Z.heap "sun/nio/cs/UTF_8" "INSTANCE" "Lsun/nio/cs/UTF_8;" (.ref u)) (S_UTF_8 : Sta Z Z.heap "java/nio/charset/StandardCharsets" "UTF_8" "Ljava/nio/charset/Charset;" (.ref u)) (S_COMPACT_STRINGS : Sta Z Z.heap "java/lang/String" "COMPACT_STRINGS" "Z" (.int cs)) (hcs : ¬ cs = (0 : Int32)) (E_a2 : Exa Z h0 a2 "java/util/ArrayList") (F_size_a2 : Fld Z h0 a2 "java/util/ArrayList" "size" "I" (.int (1 : Int32))) (F_elementData_a2 : Fld Z h0 a2 "java/util/ArrayList" "elementData" "[Ljava/lang/Object;" (.ref ed)) (V_ed : Arv Z h0 ed ke (.object "java/lang/Object") (10 : Int32) [(.ref s0), .null, .null, .null, .null, .null, .null, .null, .null, .null] .null) (E_s0 : Exa Z h0 s0 "java/lang/String") (F_coder_s0 : Fld Z h0 s0 "java/lang/String" "coder" "B" (.int (0 : Int32))) (F_value_s0 : Fld Z h0 s0 "java/lang/String" "value" "[B" (.ref v0)) (V_v0 : Arv Z h0 v0 q0 .byte (1 : Int32) [(.int (97 : Int32))] (.int (0 : Int32))) (E_v0 : Exa Z h0 v0 "[B") :
    MetFree l (⟨"com/example/gridtally/gridtally/casefile/IdSequence", "<init>", "(Ljava/util/List;)V"⟩ : MethodName) (head1 (Jvm.Cond.code (⟨"com/example/gridtally/gridtally/casefile/IdSequence", "<init>", "(Ljava/util/List;)V"⟩ : MethodName) prog_15_method_1_code 3 none :: ws) ({ frames := 5, cells := 3, slots := 4, locals := 112 } : Room)) (fun a U => a = #[(.ref a1), (.ref a2)] ∧ Z.Warmed39 U.vm ∧ U.heap = h0) (fun _ _ _ _ _ => True) (fun _ U o U' => ∃ v L, o = .returned v ∧ Qinit_1 Z a1 a2 u cs ed ke s0 v0 q0 h0 n0 v U'.heap L ∧ FrameEnd U o U' L ({ frames := 5, cells := 3, slots := 4, locals := 112 } : Room).cells ({ frames := 5, cells := 3, slots := 4, locals := 112 } : Room).slots) := by
  refine MetFree.of_bodySF (plainFor_of_name pn_com_example_gridtally_gridtally_casefile_IdSequence) hisR ?_
  intro p e s m args below meth c s₁ Bd hml0 hP hK
  obtain ⟨rfl, hZ, hh⟩ := hP
  have hx := Bd.exec
  have hby := Bd.bytes
  have hml : c.maxLocals = 3 := hml0
  have hown : s.vm.findClass "com/example/gridtally/gridtally/casefile/IdSequence" = some m.cls := findClass_of_methodNamed Bd.named
  have hnm := (name_of_methodNamed Bd.named Bd.method).1
  have X0 : Stand p l e ({ frames := 5, cells := 3, slots := 4, locals := 112 } : Room) s m #[(.ref a1), (.ref a2)] below meth c s₁ [] 0 0 := Stand.of_body Bd
  have e0 : s₁.heap = h0 := by rw [← hh, Bd.state]; rfl
  have es0 : s.heap = h0 := hh
  have N0 := Fr.nil n0
  show own_Fin p e below (Ginit_1 Z a1 a2 u cs ed ke s0 v0 q0 h0 n0 s) (s₁.setTop (entryFrame m #[(.ref a1), (.ref a2)] 3))
  rw [ef_init_1 m a1 a2]
  have Kz := Keep.refl h0 [a1]
  refine own_go (XS.aloadN X0.here hx rfl (hb hby d5_0) rfl rfl (Steps.refl _)) ?_
  show own_Fin _ _ _ _ (s₁.setTop (mkF m 1 #[rv a1, rv a2, .unset] [(.ref a1)]))
  obtain ⟨T169, X169, e169, st169⟩ := initO X0 hx hZ hown (hw _ (List.mem_of_getElem? (i := 32) rfl)) (hw _ (List.mem_of_getElem? (i := 19) rfl)) (hw _ (List.mem_of_getElem? (i := 20) rfl)) e0 (g := (mkF m 1 #[rv a1, rv a2, .unset] [(.ref a1)])) rfl (by rw [hml]; rfl) rfl (hb hby d5_1) (by decide) (W := 0) (by show 2 * 0 + _ ≤ _; exact Nat.le_of_eq rfl) (by decide)
  refine own_by st169 ?_
  show own_Fin _ _ _ _ (T169.setTop (mkF m 4 #[rv a1, rv a2, .unset] []))
  refine own_go (XS.aloadN X169.here hx rfl (hb hby d5_4) rfl rfl (Steps.refl _)) ?_
  show own_Fin _ _ _ _ (T169.setTop (mkF m 5 #[rv a1, rv a2, .unset] [(.ref a1)]))
  refine own_go (XS.aloadN X169.here hx rfl (hb hby d5_5) rfl rfl (Steps.refl _)) ?_
  show own_Fin _ _ _ _ (T169.setTop (mkF m 6 #[rv a1, rv a2, .unset] [(.ref a2), (.ref a1)]))
  obtain ⟨cq170, kq170, q170a, q170b, q170c⟩ := isOf hZ e169 E_a2
  obtain ⟨_, _, ⟨T170, L170, k170, n170⟩, -, X170, ⟨Lc170, hQ170, l170, y170, z170⟩, st170⟩ := X169.interfaceBack hx (xi := (⟨"java/util/List", "size", "()I"⟩ : MethodName)) (y := (⟨"java/util/ArrayList", "size", "()I"⟩ : MethodName)) hown (mvT hZ (hw _ (List.mem_of_getElem? (i := 33) rfl))) (mvT hZ (hw _ (List.mem_of_getElem? (i := 34) rfl))) (mvT hZ (hw _ (List.mem_of_getElem? (i := 35) rfl))) (mvT hZ (hw _ (List.mem_of_getElem? (i := 36) rfl))) (mvT hZ (hw _ (List.mem_of_getElem? (i := 37) rfl))) (mvT hZ (hw _ (List.mem_of_getElem? (i := 38) rfl))) (mvT hZ (hw _ (List.mem_of_getElem? (i := 39) rfl))) (mvT hZ (hw _ (List.mem_of_getElem? (i := 40) rfl))) (by decide) (backOf (W := 1) (rmsize l Z a0 hw [] a2 (1 : Int32) h0 n0 Z0 F_size_a2) hZ (hw _ (List.mem_of_getElem? (i := 41) rfl)) (hw _ (List.mem_of_getElem? (i := 2) rfl)) (by decide) (by decide)) q170a q170b q170c (g := (mkF m 6 #[rv a1, rv a2, .unset] [(.ref a2), (.ref a1)])) rfl (by rw [hml]; rfl) (Steps.refl _) (argsL := []) (rest := [(.ref a1)]) (lenOf pd__28__29_I rfl) rfl (by show 2 * 0 + _ ≤ _; exact Nat.le_of_eq rfl) (hb hby d5_6) (fun _ _ => ⟨rfl, e169, (by decide : 0 + 0 ≤ _), (by decide : 0 + 0 ≤ _)⟩)
  dsimp only [Pt.U, Pt.locs, Pt.cells, Pt.slots] at X170 l170 y170 z170 st170 hQ170
  subst l170 y170 z170
  obtain ⟨rfl, Nq170, e170⟩ := hQ170
  refine own_go st170 ?_
  have N170 := Fr.app N0 Nq170
  show own_Fin _ _ _ _ (T170.setTop (mkF m 11 #[rv a1, rv a2, .unset] [(.int (1 : Int32)), (.ref a1)]))
  obtain ⟨T171, h171, k171, X171, e171, E171, A171, B171, O171, st171⟩ := newRA X170 hx hZ hown (ty := .byte) (by decide) (hw _ (List.mem_of_getElem? (i := 44) rfl)) (hw _ (List.mem_of_getElem? (i := 45) rfl)) e170 (g := (mkF m 11 #[rv a1, rv a2, .unset] [(.int (1 : Int32)), (.ref a1)])) rfl (hb hby d5_11) rfl (by decide) (cap := 1) (by decide) (by decide) (by decide) (by decide) (ad := "[[B") (by decide)
  obtain ⟨b171, g171⟩ : ∃ z, z = h0.size := ⟨_, rfl⟩
  rw [← g171] at A171 B171 st171
  refine own_by st171 ?_
  have ne_a1_b171 : a1 ≠ b171 := Nat.ne_of_lt (Nat.lt_of_lt_of_eq E_a1.lt g171.symm)
  have ne_a2_b171 : a2 ≠ b171 := Nat.ne_of_lt (Nat.lt_of_lt_of_eq E_a2.lt g171.symm)
  have ne_ed_b171 : ed ≠ b171 := Nat.ne_of_lt (Nat.lt_of_lt_of_eq V_ed.lt g171.symm)
  have ne_s0_b171 : s0 ≠ b171 := Nat.ne_of_lt (Nat.lt_of_lt_of_eq E_s0.lt g171.symm)
  have ne_v0_b171 : v0 ≠ b171 := Nat.ne_of_lt (Nat.lt_of_lt_of_eq V_v0.lt g171.symm)
  have Od171 := O0.ext E171
  have E_a1_171 := E_a1.ext E171
  have F_ids_a1_171 := F_ids_a1.ext E171
  have F_none_a1_171 := F_none_a1.ext E171
  have F_following_a1_171 := F_following_a1.ext E171
  have F_last_a1_171 := F_last_a1.ext E171
  have E_a2_171 := E_a2.ext E171
  have F_size_a2_171 := F_size_a2.ext E171
  have F_elementData_a2_171 := F_elementData_a2.ext E171
  have V_ed_171 := V_ed.ext E171
  have E_s0_171 := E_s0.ext E171
  have F_coder_s0_171 := F_coder_s0.ext E171
  have F_value_s0_171 := F_value_s0.ext E171
  have V_v0_171 := V_v0.ext E171
  have E_v0_171 := E_v0.ext E171
  have g_b171 : n0 ≤ b171 := Nat.le_trans Z0 (Nat.le_of_eq g171.symm)
  have sz_b171 : h0.size ≤ b171 := Nat.le_trans Kz.1 (Nat.le_of_eq g171.symm)
  have K171 := Kz.ext E171
  have Z171 : n0 ≤ h171.size := Nat.le_trans Z0 E171.1
  have V_b171 : Arv Z h171 b171 k171 (.array .byte) (1 : Int32) [.null] .null := (Arv.new A171 (by decide)).pad (pad_rep [] .null 1)
  have E_b171 := B171
  show own_Fin _ _ _ _ (T171.setTop (mkF m 14 #[rv a1, rv a2, .unset] [(.ref b171), (.ref a1)]))
  obtain ⟨T172, h172, X172, e172, W172, st172⟩ := putF X171 hx hZ hown (host := "") (Or.inl (hw _ (List.mem_of_getElem? (i := 46) rfl))) Via.refl e171 F_ids_a1_171 E_a1_171 (Or.inr ⟨(hw _ (List.mem_of_getElem? (i := 47) rfl)), rfl, hnm⟩) (hw _ (List.mem_of_getElem? (i := 27) rfl)) (ty := (.array (.array .byte))) (by decide) rfl rfl (g := (mkF m 14 #[rv a1, rv a2, .unset] [(.ref b171), (.ref a1)])) rfl rfl (hb hby d5_14)
  refine own_by st172 ?_
  have F_ids_a1_172 := F_ids_a1_171.same W172
  have Od172 := Od171.wr W172 g_a1
  have E_a1_172 := E_a1_171.wr W172
  have F_none_a1_172 := F_none_a1_171.other W172 (Or.inr (slot_ne (Or.inr (hw _ (List.mem_of_getElem? (i := 49) rfl))) (Or.inr (hw _ (List.mem_of_getElem? (i := 47) rfl))) (by decide) (t := .int) (t' := (.array (.array .byte))) (by decide) (by decide)))
  have F_following_a1_172 := F_following_a1_171.other W172 (Or.inr (slot_ne (Or.inr (hw _ (List.mem_of_getElem? (i := 52) rfl))) (Or.inr (hw _ (List.mem_of_getElem? (i := 47) rfl))) (by decide) (t := (.array .int)) (t' := (.array (.array .byte))) (by decide) (by decide)))
  have F_last_a1_172 := F_last_a1_171.other W172 (Or.inr (slot_ne (Or.inl (hw _ (List.mem_of_getElem? (i := 58) rfl))) (Or.inr (hw _ (List.mem_of_getElem? (i := 47) rfl))) (by decide) (t := .int) (t' := (.array (.array .byte))) (by decide) (by decide)))
  have E_a2_172 := E_a2_171.wr W172
  have F_size_a2_172 := F_size_a2_171.other W172 (Or.inl (Exa.ne E_a2_171 E_a1_171 (by decide)))
  have F_elementData_a2_172 := F_elementData_a2_171.other W172 (Or.inl (Exa.ne E_a2_171 E_a1_171 (by decide)))
  have V_ed_172 := V_ed_171.other W172 (Ne.symm (Exa.neArv E_a1_171 V_ed_171 (hw _ (List.mem_of_getElem? (i := 27) rfl))))
  have E_s0_172 := E_s0_171.wr W172
  have F_coder_s0_172 := F_coder_s0_171.other W172 (Or.inl (Exa.ne E_s0_171 E_a1_171 (by decide)))
  have F_value_s0_172 := F_value_s0_171.other W172 (Or.inl (Exa.ne E_s0_171 E_a1_171 (by decide)))
  have V_v0_172 := V_v0_171.other W172 (Exa.ne E_v0_171 E_a1_171 (by decide))
  have E_v0_172 := E_v0_171.wr W172
  have V_b171_172 := V_b171.other W172 (Ne.symm ne_a1_b171)
  have E_b171_172 := E_b171.wr W172
  have N172 := Fr.snoc X172 N170 g_a1
  have Z172 : n0 ≤ h172.size := Nat.le_trans Z171 (Keep.of_wr W172).1
  have K172 := K171.wr W172 (Or.inl (List.mem_of_getElem? (i := 0) rfl))
  show own_Fin _ _ _ _ (T172.setTop (mkF m 17 #[rv a1, rv a2, .unset] []))
  refine own_go (XS.iconst X172.here hx rfl (hb hby d5_17) (Steps.refl _)) ?_
  show own_Fin _ _ _ _ (T172.setTop (mkF m 18 #[rv a1, rv a2, .unset] [(.int (0 : Int32))]))
  refine own_go (XS.istoreN X172.here hx rfl (hb hby d5_18) rfl rfl (Steps.refl _)) ?_
  show own_Fin _ _ _ _ (T172.setTop (mkF m 19 #[rv a1, rv a2, iv (0 : Int32)] []))
  refine own_go (XS.iloadN X172.here hx rfl (hb hby d5_19) rfl (Steps.refl _)) ?_
  show own_Fin _ _ _ _ (T172.setTop (mkF m 20 #[rv a1, rv a2, iv (0 : Int32)] [(.int (0 : Int32))]))
  refine own_go (XS.aloadN X172.here hx rfl (hb hby d5_20) rfl rfl (Steps.refl _)) ?_
  show own_Fin _ _ _ _ (T172.setTop (mkF m 21 #[rv a1, rv a2, iv (0 : Int32)] [(.ref a2), (.int (0 : Int32))]))
  obtain ⟨cq173, kq173, q173a, q173b, q173c⟩ := isOf hZ e172 E_a2_172
  obtain ⟨_, _, ⟨T173, L173, k173, n173⟩, -, X173, ⟨Lc173, hQ173, l173, y173, z173⟩, st173⟩ := X172.interfaceBack hx (xi := (⟨"java/util/List", "size", "()I"⟩ : MethodName)) (y := (⟨"java/util/ArrayList", "size", "()I"⟩ : MethodName)) hown (mvT hZ (hw _ (List.mem_of_getElem? (i := 33) rfl))) (mvT hZ (hw _ (List.mem_of_getElem? (i := 34) rfl))) (mvT hZ (hw _ (List.mem_of_getElem? (i := 35) rfl))) (mvT hZ (hw _ (List.mem_of_getElem? (i := 36) rfl))) (mvT hZ (hw _ (List.mem_of_getElem? (i := 37) rfl))) (mvT hZ (hw _ (List.mem_of_getElem? (i := 38) rfl))) (mvT hZ (hw _ (List.mem_of_getElem? (i := 39) rfl))) (mvT hZ (hw _ (List.mem_of_getElem? (i := 40) rfl))) (by decide) (backOf (W := 1) (rmsize l Z a0 hw [] a2 (1 : Int32) h172 n0 Z172 F_size_a2_172) hZ (hw _ (List.mem_of_getElem? (i := 41) rfl)) (hw _ (List.mem_of_getElem? (i := 2) rfl)) (by decide) (by decide)) q173a q173b q173c (g := (mkF m 21 #[rv a1, rv a2, iv (0 : Int32)] [(.ref a2), (.int (0 : Int32))])) rfl (by rw [hml]; rfl) (Steps.refl _) (argsL := []) (rest := [(.int (0 : Int32))]) (lenOf pd__28__29_I rfl) rfl (by show 2 * 0 + _ ≤ _; exact Nat.le_of_eq rfl) (hb hby d5_21) (fun _ _ => ⟨rfl, e172, (by decide : 1 + 0 ≤ _), (by decide : 1 + 0 ≤ _)⟩)
  dsimp only [Pt.U, Pt.locs, Pt.cells, Pt.slots] at X173 l173 y173 z173 st173 hQ173
  subst l173 y173 z173
  obtain ⟨rfl, Nq173, e173⟩ := hQ173
  refine own_go st173 ?_
  have N173 := Fr.app N172 Nq173
  show own_Fin _ _ _ _ (T173.setTop (mkF m 26 #[rv a1, rv a2, iv (0 : Int32)] [(.int (1 : Int32)), (.int (0 : Int32))]))
  refine own_go (XS.icmpNo X173.here hx rfl (hb hby d5_26) rfl (tlt (by decide : (0 : Int32) < (1 : Int32))).2.1 (Steps.refl _)) ?_
  show own_Fin _ _ _ _ (T173.setTop (mkF m 29 #[rv a1, rv a2, iv (0 : Int32)] []))
  refine own_go (XS.aloadN X173.here hx rfl (hb hby d5_29) rfl rfl (Steps.refl _)) ?_
  show own_Fin _ _ _ _ (T173.setTop (mkF m 30 #[rv a1, rv a2, iv (0 : Int32)] [(.ref a1)]))
  obtain ⟨T174, X174, e174, st174⟩ := getF X173 hx hZ hown (host := "") (Or.inl (hw _ (List.mem_of_getElem? (i := 46) rfl))) Via.refl e173 F_ids_a1_172 (g := (mkF m 30 #[rv a1, rv a2, iv (0 : Int32)] [(.ref a1)])) rfl rfl (hb hby d5_30)
  refine own_by st174 ?_
  show own_Fin _ _ _ _ (T174.setTop (mkF m 33 #[rv a1, rv a2, iv (0 : Int32)] [(.ref b171)]))
  refine own_go (XS.iloadN X174.here hx rfl (hb hby d5_33) rfl (Steps.refl _)) ?_
  show own_Fin _ _ _ _ (T174.setTop (mkF m 34 #[rv a1, rv a2, iv (0 : Int32)] [(.int (0 : Int32)), (.ref b171)]))
  refine own_go (XS.aloadN X174.here hx rfl (hb hby d5_34) rfl rfl (Steps.refl _)) ?_
  show own_Fin _ _ _ _ (T174.setTop (mkF m 35 #[rv a1, rv a2, iv (0 : Int32)] [(.ref a2), (.int (0 : Int32)), (.ref b171)]))
  refine own_go (XS.iloadN X174.here hx rfl (hb hby d5_35) rfl (Steps.refl _)) ?_
  show own_Fin _ _ _ _ (T174.setTop (mkF m 36 #[rv a1, rv a2, iv (0 : Int32)] [(.int (0 : Int32)), (.ref a2), (.int (0 : Int32)), (.ref b171)]))
  obtain ⟨cq175, kq175, q175a, q175b, q175c⟩ := isOf hZ e174 E_a2_172
  obtain ⟨_, _, ⟨T175, L175, k175, n175⟩, -, X175, ⟨Lc175, hQ175, l175, y175, z175⟩, st175⟩ := X174.interfaceBack hx (xi := (⟨"java/util/List", "get", "(I)Ljava/lang/Object;"⟩ : MethodName)) (y := (⟨"java/util/ArrayList", "get", "(I)Ljava/lang/Object;"⟩ : MethodName)) hown (mvT hZ (hw _ (List.mem_of_getElem? (i := 116) rfl))) (mvT hZ (hw _ (List.mem_of_getElem? (i := 117) rfl))) (mvT hZ (hw _ (List.mem_of_getElem? (i := 118) rfl))) (mvT hZ (hw _ (List.mem_of_getElem? (i := 119) rfl))) (mvT hZ (hw _ (List.mem_of_getElem? (i := 120) rfl))) (mvT hZ (hw _ (List.mem_of_getElem? (i := 121) rfl))) (mvT hZ (hw _ (List.mem_of_getElem? (i := 122) rfl))) (mvT hZ (hw _ (List.mem_of_getElem? (i := 40) rfl))) (by decide) (backOf (W := 2) (rmget_1_0 l Z a0 hw [] a2 ed ke s0 h172 n0 Z172 E_a2_172 F_size_a2_172 F_elementData_a2_172 V_ed_172) hZ (hw _ (List.mem_of_getElem? (i := 123) rfl)) (hw _ (List.mem_of_getElem? (i := 2) rfl)) (by decide) (by decide)) q175a q175b q175c (g := (mkF m 36 #[rv a1, rv a2, iv (0 : Int32)] [(.int (0 : Int32)), (.ref a2), (.int (0 : Int32)), (.ref b171)])) rfl (by rw [hml]; rfl) (Steps.refl _) (argsL := [(.int (0 : Int32))]) (rest := [(.int (0 : Int32)), (.ref b171)]) (lenOf pd__28_I_29_Ljava_2f_lang_2f_Object_3b_ rfl) rfl (by show 2 * 0 + _ ≤ _; exact Nat.le_of_eq rfl) (hb hby d5_36) (fun _ _ => ⟨rfl, e174, (by decide : 1 + 0 ≤ _), (by decide : 1 + 0 ≤ _)⟩)
  dsimp only [Pt.U, Pt.locs, Pt.cells, Pt.slots] at X175 l175 y175 z175 st175 hQ175
  subst l175 y175 z175
  obtain ⟨rfl, Nq175, e175⟩ := hQ175
  refine own_go st175 ?_
  have N175 := Fr.app N173 Nq175
  show own_Fin _ _ _ _ (T175.setTop (mkF m 41 #[rv a1, rv a2, iv (0 : Int32)] [(.ref s0), (.int (0 : Int32)), (.ref b171)]))
  obtain ⟨T176, X176, e176, st176⟩ := castY X175 hx hZ hown (hw _ (List.mem_of_getElem? (i := 137) rfl)) e175 (Ins.self E_s0_172) (g := (mkF m 41 #[rv a1, rv a2, iv (0 : Int32)] [(.ref s0), (.int (0 : Int32)), (.ref b171)])) rfl rfl (hb hby d5_41)
  refine own_by st176 ?_
  show own_Fin _ _ _ _ (T176.setTop (mkF m 44 #[rv a1, rv a2, iv (0 : Int32)] [(.ref s0), (.int (0 : Int32)), (.ref b171)]))
  obtain ⟨T177, X177, e177, st177⟩ := getS2 X176 hx hZ hown (host := "") (Or.inl (hw _ (List.mem_of_getElem? (i := 139) rfl))) Via.refl e176 (S_UTF_8.ext Od172.2) (g := (mkF m 44 #[rv a1, rv a2, iv (0 : Int32)] [(.ref s0), (.int (0 : Int32)), (.ref b171)])) rfl (hb hby d5_44)
  refine own_by st177 ?_
  show own_Fin _ _ _ _ (T177.setTop (mkF m 47 #[rv a1, rv a2, iv (0 : Int32)] [(.ref u), (.ref s0), (.int (0 : Int32)), (.ref b171)]))
  obtain ⟨cq178, kq178, q178a, q178b, q178c⟩ := isOf hZ e177 E_s0_172
  obtain ⟨_, _, ⟨T178, L178, k178, n178⟩, -, X178, ⟨Lc178, hQ178, l178, y178, z178⟩, st178⟩ := X177.virtualBack hx (y := (⟨"java/lang/String", "getBytes", "(Ljava/nio/charset/Charset;)[B"⟩ : MethodName)) (z := (⟨"java/lang/String", "getBytes", "(Ljava/nio/charset/Charset;)[B"⟩ : MethodName)) hown (mvT hZ (hw _ (List.mem_of_getElem? (i := 141) rfl))) (mvT hZ (hw _ (List.mem_of_getElem? (i := 142) rfl))) (notFace_of_selects (args := #[]) (mvT hZ (hw _ (List.mem_of_getElem? (i := 144) rfl)))) (mvT hZ (hw _ (List.mem_of_getElem? (i := 144) rfl))) (mvT hZ (hw _ (List.mem_of_getElem? (i := 143) rfl))) (by decide) (backOf (W := 2) (rmgb l Z a0 hw [] s0 u v0 q0 (97 : Int32) cs h172 n0 Z172 E_s0_172 F_coder_s0_172 F_value_s0_172 V_v0_172 E_v0_172 (by decide) S_INSTANCE S_COMPACT_STRINGS Od172 hcs) hZ (hw _ (List.mem_of_getElem? (i := 145) rfl)) (hw _ (List.mem_of_getElem? (i := 78) rfl)) (by decide) (by decide)) q178a q178c (g := (mkF m 47 #[rv a1, rv a2, iv (0 : Int32)] [(.ref u), (.ref s0), (.int (0 : Int32)), (.ref b171)])) rfl (by rw [hml]; rfl) (Steps.refl _) (argsL := [(.ref u)]) (rest := [(.int (0 : Int32)), (.ref b171)]) (lenOf pd__28_Ljava_2f_nio_2f_charset_2f_Charset_3b__29__5b_B rfl) rfl (by show 2 * 0 + _ ≤ _; exact Nat.le_of_eq rfl) (hb hby d5_47) (fun _ _ => ⟨rfl, e177, (by decide : 1 + 1 ≤ _), (by decide : 1 + 1 ≤ _)⟩)
  dsimp only [Pt.U, Pt.locs, Pt.cells, Pt.slots] at X178 l178 y178 z178 st178 hQ178
  subst l178 y178 z178
  refine own_go st178 ?_
  obtain ⟨b_178, rfl, Nq178, K178, g_b_178, sb_b_178, r178_0, r178_1⟩ := hQ178
  have ne_a1_b_178 : a1 ≠ b_178 := Nat.ne_of_lt (Nat.lt_of_lt_of_le E_a1_172.lt sb_b_178)
  have ne_a2_b_178 : a2 ≠ b_178 := Nat.ne_of_lt (Nat.lt_of_lt_of_le E_a2_172.lt sb_b_178)
  have ne_ed_b_178 : ed ≠ b_178 := Nat.ne_of_lt (Nat.lt_of_lt_of_le V_ed_172.lt sb_b_178)
  have ne_s0_b_178 : s0 ≠ b_178 := Nat.ne_of_lt (Nat.lt_of_lt_of_le E_s0_172.lt sb_b_178)
  have ne_v0_b_178 : v0 ≠ b_178 := Nat.ne_of_lt (Nat.lt_of_lt_of_le V_v0_172.lt sb_b_178)
  have ne_b171_b_178 : b171 ≠ b_178 := Nat.ne_of_lt (Nat.lt_of_lt_of_le V_b171_172.lt sb_b_178)
  have sz_b_178 : h0.size ≤ b_178 := Nat.le_trans K172.1 sb_b_178
  have Od178 := Od172.keep K178 all0
  have E_a1_178 := E_a1_172.keep K178
  have F_ids_a1_178 := F_ids_a1_172.keep K178 nin0
  have F_none_a1_178 := F_none_a1_172.keep K178 nin0
  have F_following_a1_178 := F_following_a1_172.keep K178 nin0
  have F_last_a1_178 := F_last_a1_172.keep K178 nin0
  have E_a2_178 := E_a2_172.keep K178
  have F_size_a2_178 := F_size_a2_172.keep K178 nin0
  have F_elementData_a2_178 := F_elementData_a2_172.keep K178 nin0
  have V_ed_178 := V_ed_172.keep K178 nin0
  have E_s0_178 := E_s0_172.keep K178
  have F_coder_s0_178 := F_coder_s0_172.keep K178 nin0
  have F_value_s0_178 := F_value_s0_172.keep K178 nin0
  have V_v0_178 := V_v0_172.keep K178 nin0
  have E_v0_178 := E_v0_172.keep K178
  have V_b171_178 := V_b171_172.keep K178 nin0
  have E_b171_178 := E_b171_172.keep K178
  have Z178 : n0 ≤ T178.heap.size := Nat.le_trans Z172 K178.1
  have Kt178 := K172.trans K178 all0
  have N178 := Fr.app N175 Nq178
  show own_Fin _ _ _ _ (T178.setTop (mkF m 50 #[rv a1, rv a2, iv (0 : Int32)] [(.ref b_178), (.int (0 : Int32)), (.ref b171)]))
  obtain ⟨cl179, Ar179, qa179, Sa179, Na179, Ha179, Ga179⟩ := id V_b171_178
  have hin179 : ¬ ((0 : Int32) < 0 ∨ cl179.slots.size ≤ ((0 : Int32)).toNatClampNeg) := inb_of Sa179 ⟨by decide, by decide⟩
  obtain ⟨T180, h180, X180, e180, W180, st180⟩ := stR X178 hx hZ rfl Ar179 (j := (0 : Int32)) hin179 rfl (Sto.ofVA Ar179 qa179 O171 (Ins.self r178_1)) (g := (mkF m 50 #[rv a1, rv a2, iv (0 : Int32)] [(.ref b_178), (.int (0 : Int32)), (.ref b171)])) rfl rfl (hb hby d5_50)
  refine own_by st180 ?_
  have V_b171_180 : Arv Z h180 b171 k171 (.array .byte) (1 : Int32) [(.ref b_178)] .null := Arv.set Ar179 qa179 Sa179 Na179 Ha179 Ga179 rfl W180 0 rfl (Nat.le_of_ble_eq_true rfl)
  have Od180 := Od178.wr W180 g_b171
  have E_a1_180 := E_a1_178.wr W180
  have F_ids_a1_180 := F_ids_a1_178.other W180 (Or.inl ne_a1_b171)
  have F_none_a1_180 := F_none_a1_178.other W180 (Or.inl ne_a1_b171)
  have F_following_a1_180 := F_following_a1_178.other W180 (Or.inl ne_a1_b171)
  have F_last_a1_180 := F_last_a1_178.other W180 (Or.inl ne_a1_b171)
  have E_a2_180 := E_a2_178.wr W180
  have F_size_a2_180 := F_size_a2_178.other W180 (Or.inl ne_a2_b171)
  have F_elementData_a2_180 := F_elementData_a2_178.other W180 (Or.inl ne_a2_b171)
  have V_ed_180 := V_ed_178.other W180 ne_ed_b171
  have E_s0_180 := E_s0_178.wr W180
  have F_coder_s0_180 := F_coder_s0_178.other W180 (Or.inl ne_s0_b171)
  have F_value_s0_180 := F_value_s0_178.other W180 (Or.inl ne_s0_b171)
  have V_v0_180 := V_v0_178.other W180 ne_v0_b171
  have E_v0_180 := E_v0_178.wr W180
  have E_b171_180 := E_b171_178.wr W180
  have r178_0_180 := r178_0.other W180 (Ne.symm ne_b171_b_178)
  have r178_1_180 := r178_1.wr W180
  have N180 := Fr.snoc X180 N178 g_b171
  have Z180 : n0 ≤ h180.size := Nat.le_trans Z178 (Keep.of_wr W180).1
  have K180 := Kt178.wr W180 (Or.inr sz_b171)
  show own_Fin _ _ _ _ (T180.setTop (mkF m 51 #[rv a1, rv a2, iv (0 : Int32)] []))
  refine own_go (XS.iinc X180.here hx rfl (hb hby d5_51) rfl rfl (Steps.refl _)) ?_
  show own_Fin _ _ _ _ (T180.setTop (mkF m 54 #[rv a1, rv a2, iv (1 : Int32)] []))
  refine own_go (XS.goto X180.here hx rfl (pc0 := 54) (pc' := 19) rfl (hb hby d5_54) (by decide) (by decide) (Steps.refl _)) ?_
  show own_Fin _ _ _ _ (T180.setTop (mkF m 19 #[rv a1, rv a2, iv (1 : Int32)] []))
  refine own_go (XS.iloadN X180.here hx rfl (hb hby d5_19) rfl (Steps.refl _)) ?_
  show own_Fin _ _ _ _ (T180.setTop (mkF m 20 #[rv a1, rv a2, iv (1 : Int32)] [(.int (1 : Int32))]))
  refine own_go (XS.aloadN X180.here hx rfl (hb hby d5_20) rfl rfl (Steps.refl _)) ?_
  show own_Fin _ _ _ _ (T180.setTop (mkF m 21 #[rv a1, rv a2, iv (1 : Int32)] [(.ref a2), (.int (1 : Int32))]))
  obtain ⟨cq181, kq181, q181a, q181b, q181c⟩ := isOf hZ e180 E_a2_180
  obtain ⟨_, _, ⟨T181, L181, k181, n181⟩, -, X181, ⟨Lc181, hQ181, l181, y181, z181⟩, st181⟩ := X180.interfaceBack hx (xi := (⟨"java/util/List", "size", "()I"⟩ : MethodName)) (y := (⟨"java/util/ArrayList", "size", "()I"⟩ : MethodName)) hown (mvT hZ (hw _ (List.mem_of_getElem? (i := 33) rfl))) (mvT hZ (hw _ (List.mem_of_getElem? (i := 34) rfl))) (mvT hZ (hw _ (List.mem_of_getElem? (i := 35) rfl))) (mvT hZ (hw _ (List.mem_of_getElem? (i := 36) rfl))) (mvT hZ (hw _ (List.mem_of_getElem? (i := 37) rfl))) (mvT hZ (hw _ (List.mem_of_getElem? (i := 38) rfl))) (mvT hZ (hw _ (List.mem_of_getElem? (i := 39) rfl))) (mvT hZ (hw _ (List.mem_of_getElem? (i := 40) rfl))) (by decide) (backOf (W := 1) (rmsize l Z a0 hw [] a2 (1 : Int32) h180 n0 Z180 F_size_a2_180) hZ (hw _ (List.mem_of_getElem? (i := 41) rfl)) (hw _ (List.mem_of_getElem? (i := 2) rfl)) (by decide) (by decide)) q181a q181b q181c (g := (mkF m 21 #[rv a1, rv a2, iv (1 : Int32)] [(.ref a2), (.int (1 : Int32))])) rfl (by rw [hml]; rfl) (Steps.refl _) (argsL := []) (rest := [(.int (1 : Int32))]) (lenOf pd__28__29_I rfl) rfl (by show 2 * 0 + _ ≤ _; exact Nat.le_of_eq rfl) (hb hby d5_21) (fun _ _ => ⟨rfl, e180, (by decide : 2 + 0 ≤ _), (by decide : 2 + 0 ≤ _)⟩)
  dsimp only [Pt.U, Pt.locs, Pt.cells, Pt.slots] at X181 l181 y181 z181 st181 hQ181
  subst l181 y181 z181
  obtain ⟨rfl, Nq181, e181⟩ := hQ181
  refine own_go st181 ?_
  have N181 := Fr.app N180 Nq181
  show own_Fin _ _ _ _ (T181.setTop (mkF m 26 #[rv a1, rv a2, iv (1 : Int32)] [(.int (1 : Int32)), (.int (1 : Int32))]))
  refine own_go (XS.icmpYes X181.here hx rfl (pc0 := 26) (pc' := 57) rfl (hb hby d5_26) rfl (flt (by decide : ¬ ((1 : Int32) < (1 : Int32)))).2.1 (by decide) (by decide) (Steps.refl _)) ?_
  show own_Fin _ _ _ _ (T181.setTop (mkF m 57 #[rv a1, rv a2, iv (1 : Int32)] []))
  refine own_go (XS.aloadN X181.here hx rfl (hb hby d5_57) rfl rfl (Steps.refl _)) ?_
  show own_Fin _ _ _ _ (T181.setTop (mkF m 58 #[rv a1, rv a2, iv (1 : Int32)] [(.ref a1)]))
  refine own_go (XS.aloadN X181.here hx rfl (hb hby d5_58) rfl rfl (Steps.refl _)) ?_
  show own_Fin _ _ _ _ (T181.setTop (mkF m 59 #[rv a1, rv a2, iv (1 : Int32)] [(.ref a2), (.ref a1)]))
  obtain ⟨cq182, kq182, q182a, q182b, q182c⟩ := isOf hZ e181 E_a2_180
  obtain ⟨_, _, ⟨T182, L182, k182, n182⟩, -, X182, ⟨Lc182, hQ182, l182, y182, z182⟩, st182⟩ := X181.interfaceBack hx (xi := (⟨"java/util/List", "size", "()I"⟩ : MethodName)) (y := (⟨"java/util/ArrayList", "size", "()I"⟩ : MethodName)) hown (mvT hZ (hw _ (List.mem_of_getElem? (i := 33) rfl))) (mvT hZ (hw _ (List.mem_of_getElem? (i := 34) rfl))) (mvT hZ (hw _ (List.mem_of_getElem? (i := 35) rfl))) (mvT hZ (hw _ (List.mem_of_getElem? (i := 36) rfl))) (mvT hZ (hw _ (List.mem_of_getElem? (i := 37) rfl))) (mvT hZ (hw _ (List.mem_of_getElem? (i := 38) rfl))) (mvT hZ (hw _ (List.mem_of_getElem? (i := 39) rfl))) (mvT hZ (hw _ (List.mem_of_getElem? (i := 40) rfl))) (by decide) (backOf (W := 1) (rmsize l Z a0 hw [] a2 (1 : Int32) h180 n0 Z180 F_size_a2_180) hZ (hw _ (List.mem_of_getElem? (i := 41) rfl)) (hw _ (List.mem_of_getElem? (i := 2) rfl)) (by decide) (by decide)) q182a q182b q182c (g := (mkF m 59 #[rv a1, rv a2, iv (1 : Int32)] [(.ref a2), (.ref a1)])) rfl (by rw [hml]; rfl) (Steps.refl _) (argsL := []) (rest := [(.ref a1)]) (lenOf pd__28__29_I rfl) rfl (by show 2 * 0 + _ ≤ _; exact Nat.le_of_eq rfl) (hb hby d5_59) (fun _ _ => ⟨rfl, e181, (by decide : 2 + 0 ≤ _), (by decide : 2 + 0 ≤ _)⟩)
  dsimp only [Pt.U, Pt.locs, Pt.cells, Pt.slots] at X182 l182 y182 z182 st182 hQ182
  subst l182 y182 z182
  obtain ⟨rfl, Nq182, e182⟩ := hQ182
  refine own_go st182 ?_
  have N182 := Fr.app N181 Nq182
  show own_Fin _ _ _ _ (T182.setTop (mkF m 64 #[rv a1, rv a2, iv (1 : Int32)] [(.int (1 : Int32)), (.ref a1)]))
  obtain ⟨T183, h183, X183, e183, W183, st183⟩ := putF X182 hx hZ hown (host := "") (Or.inl (hw _ (List.mem_of_getElem? (i := 48) rfl))) Via.refl e182 F_none_a1_180 E_a1_180 (Or.inr ⟨(hw _ (List.mem_of_getElem? (i := 49) rfl)), rfl, hnm⟩) (hw _ (List.mem_of_getElem? (i := 27) rfl)) (ty := .int) (by decide) rfl rfl (g := (mkF m 64 #[rv a1, rv a2, iv (1 : Int32)] [(.int (1 : Int32)), (.ref a1)])) rfl rfl (hb hby d5_64)
  refine own_by st183 ?_
  have F_none_a1_183 := F_none_a1_180.same W183
  have Od183 := Od180.wr W183 g_a1
  have E_a1_183 := E_a1_180.wr W183
  have F_ids_a1_183 := F_ids_a1_180.other W183 (Or.inr (slot_ne (Or.inr (hw _ (List.mem_of_getElem? (i := 47) rfl))) (Or.inr (hw _ (List.mem_of_getElem? (i := 49) rfl))) (by decide) (t := (.array (.array .byte))) (t' := .int) (by decide) (by decide)))
  have F_following_a1_183 := F_following_a1_180.other W183 (Or.inr (slot_ne (Or.inr (hw _ (List.mem_of_getElem? (i := 52) rfl))) (Or.inr (hw _ (List.mem_of_getElem? (i := 49) rfl))) (by decide) (t := (.array .int)) (t' := .int) (by decide) (by decide)))
  have F_last_a1_183 := F_last_a1_180.other W183 (Or.inr (slot_ne (Or.inl (hw _ (List.mem_of_getElem? (i := 58) rfl))) (Or.inr (hw _ (List.mem_of_getElem? (i := 49) rfl))) (by decide) (t := .int) (t' := .int) (by decide) (by decide)))
  have E_a2_183 := E_a2_180.wr W183
  have F_size_a2_183 := F_size_a2_180.other W183 (Or.inl (Exa.ne E_a2_180 E_a1_180 (by decide)))
  have F_elementData_a2_183 := F_elementData_a2_180.other W183 (Or.inl (Exa.ne E_a2_180 E_a1_180 (by decide)))
  have V_ed_183 := V_ed_180.other W183 (Ne.symm (Exa.neArv E_a1_180 V_ed_180 (hw _ (List.mem_of_getElem? (i := 27) rfl))))
  have E_s0_183 := E_s0_180.wr W183
  have F_coder_s0_183 := F_coder_s0_180.other W183 (Or.inl (Exa.ne E_s0_180 E_a1_180 (by decide)))
  have F_value_s0_183 := F_value_s0_180.other W183 (Or.inl (Exa.ne E_s0_180 E_a1_180 (by decide)))
  have V_v0_183 := V_v0_180.other W183 (Exa.ne E_v0_180 E_a1_180 (by decide))
  have E_v0_183 := E_v0_180.wr W183
  have V_b171_183 := V_b171_180.other W183 (Ne.symm ne_a1_b171)
  have E_b171_183 := E_b171_180.wr W183
  have r178_0_183 := r178_0_180.other W183 (Ne.symm ne_a1_b_178)
  have r178_1_183 := r178_1_180.wr W183
  have N183 := Fr.snoc X183 N182 g_a1
  have Z183 : n0 ≤ h183.size := Nat.le_trans Z180 (Keep.of_wr W183).1
  have K183 := K180.wr W183 (Or.inl (List.mem_of_getElem? (i := 0) rfl))
  show own_Fin _ _ _ _ (T183.setTop (mkF m 67 #[rv a1, rv a2, iv (1 : Int32)] []))
  refine own_go (XS.aloadN X183.here hx rfl (hb hby d5_67) rfl rfl (Steps.refl _)) ?_
  show own_Fin _ _ _ _ (T183.setTop (mkF m 68 #[rv a1, rv a2, iv (1 : Int32)] [(.ref a1)]))
  refine own_go (XS.aloadN X183.here hx rfl (hb hby d5_68) rfl rfl (Steps.refl _)) ?_
  show own_Fin _ _ _ _ (T183.setTop (mkF m 69 #[rv a1, rv a2, iv (1 : Int32)] [(.ref a1), (.ref a1)]))
  obtain ⟨T184, X184, e184, st184⟩ := getF X183 hx hZ hown (host := "") (Or.inl (hw _ (List.mem_of_getElem? (i := 48) rfl))) Via.refl e183 F_none_a1_183 (g := (mkF m 69 #[rv a1, rv a2, iv (1 : Int32)] [(.ref a1), (.ref a1)])) rfl rfl (hb hby d5_69)
  refine own_by st184 ?_
  show own_Fin _ _ _ _ (T184.setTop (mkF m 72 #[rv a1, rv a2, iv (1 : Int32)] [(.int (1 : Int32)), (.ref a1)]))
  refine own_go (XS.iconst X184.here hx rfl (hb hby d5_72) (Steps.refl _)) ?_
  show own_Fin _ _ _ _ (T184.setTop (mkF m 73 #[rv a1, rv a2, iv (1 : Int32)] [(.int (1 : Int32)), (.int (1 : Int32)), (.ref a1)]))
  refine own_go (XS.iadd X184.here hx rfl (hb hby d5_73) rfl (Steps.refl _)) ?_
  show own_Fin _ _ _ _ (T184.setTop (mkF m 74 #[rv a1, rv a2, iv (1 : Int32)] [(.int (2 : Int32)), (.ref a1)]))
  obtain ⟨T185, h185, k185, X185, e185, E185, A185, st185⟩ := newP X184 hx hZ (hw _ (List.mem_of_getElem? (i := 50) rfl)) e184 (g := (mkF m 74 #[rv a1, rv a2, iv (1 : Int32)] [(.int (2 : Int32)), (.ref a1)])) rfl (hb hby d5_74) rfl (by decide) (cap := 2) (by decide) (by decide) (by decide) (by decide)
  obtain ⟨b185, g185⟩ : ∃ z, z = h183.size := ⟨_, rfl⟩
  rw [← g185] at A185 st185
  refine own_by st185 ?_
  have ne_a1_b185 : a1 ≠ b185 := Nat.ne_of_lt (Nat.lt_of_lt_of_eq E_a1_183.lt g185.symm)
  have ne_a2_b185 : a2 ≠ b185 := Nat.ne_of_lt (Nat.lt_of_lt_of_eq E_a2_183.lt g185.symm)
  have ne_ed_b185 : ed ≠ b185 := Nat.ne_of_lt (Nat.lt_of_lt_of_eq V_ed_183.lt g185.symm)
  have ne_s0_b185 : s0 ≠ b185 := Nat.ne_of_lt (Nat.lt_of_lt_of_eq E_s0_183.lt g185.symm)
  have ne_v0_b185 : v0 ≠ b185 := Nat.ne_of_lt (Nat.lt_of_lt_of_eq V_v0_183.lt g185.symm)
  have ne_b171_b185 : b171 ≠ b185 := Nat.ne_of_lt (Nat.lt_of_lt_of_eq V_b171_183.lt g185.symm)
  have ne_b_178_b185 : b_178 ≠ b185 := Nat.ne_of_lt (Nat.lt_of_lt_of_eq r178_0_183.lt g185.symm)
  have Od185 := Od183.ext E185
  have E_a1_185 := E_a1_183.ext E185
  have F_ids_a1_185 := F_ids_a1_183.ext E185
  have F_none_a1_185 := F_none_a1_183.ext E185
  have F_following_a1_185 := F_following_a1_183.ext E185
  have F_last_a1_185 := F_last_a1_183.ext E185
  have E_a2_185 := E_a2_183.ext E185
  have F_size_a2_185 := F_size_a2_183.ext E185
  have F_elementData_a2_185 := F_elementData_a2_183.ext E185
  have V_ed_185 := V_ed_183.ext E185
  have E_s0_185 := E_s0_183.ext E185
  have F_coder_s0_185 := F_coder_s0_183.ext E185
  have F_value_s0_185 := F_value_s0_183.ext E185
  have V_v0_185 := V_v0_183.ext E185
  have E_v0_185 := E_v0_183.ext E185
  have V_b171_185 := V_b171_183.ext E185
  have E_b171_185 := E_b171_183.ext E185
  have r178_0_185 := r178_0_183.ext E185
  have r178_1_185 := r178_1_183.ext E185
  have g_b185 : n0 ≤ b185 := Nat.le_trans Z183 (Nat.le_of_eq g185.symm)
  have sz_b185 : h0.size ≤ b185 := Nat.le_trans K183.1 (Nat.le_of_eq g185.symm)
  have K185 := K183.ext E185
  have Z185 : n0 ≤ h185.size := Nat.le_trans Z183 E185.1
  have V_b185 : Arv Z h185 b185 k185 .int (2 : Int32) [(.int (0 : Int32)), (.int (0 : Int32))] (.int (0 : Int32)) := (Arv.new A185 (by decide)).pad (pad_rep [] (.int (0 : Int32)) 2)
  show own_Fin _ _ _ _ (T185.setTop (mkF m 76 #[rv a1, rv a2, iv (1 : Int32)] [(.ref b185), (.ref a1)]))
  obtain ⟨T186, h186, X186, e186, W186, st186⟩ := putF X185 hx hZ hown (host := "") (Or.inl (hw _ (List.mem_of_getElem? (i := 51) rfl))) Via.refl e185 F_following_a1_185 E_a1_185 (Or.inr ⟨(hw _ (List.mem_of_getElem? (i := 52) rfl)), rfl, hnm⟩) (hw _ (List.mem_of_getElem? (i := 27) rfl)) (ty := (.array .int)) (by decide) rfl rfl (g := (mkF m 76 #[rv a1, rv a2, iv (1 : Int32)] [(.ref b185), (.ref a1)])) rfl rfl (hb hby d5_76)
  refine own_by st186 ?_
  have F_following_a1_186 := F_following_a1_185.same W186
  have Od186 := Od185.wr W186 g_a1
  have E_a1_186 := E_a1_185.wr W186
  have F_ids_a1_186 := F_ids_a1_185.other W186 (Or.inr (slot_ne (Or.inr (hw _ (List.mem_of_getElem? (i := 47) rfl))) (Or.inr (hw _ (List.mem_of_getElem? (i := 52) rfl))) (by decide) (t := (.array (.array .byte))) (t' := (.array .int)) (by decide) (by decide)))
  have F_none_a1_186 := F_none_a1_185.other W186 (Or.inr (slot_ne (Or.inr (hw _ (List.mem_of_getElem? (i := 49) rfl))) (Or.inr (hw _ (List.mem_of_getElem? (i := 52) rfl))) (by decide) (t := .int) (t' := (.array .int)) (by decide) (by decide)))
  have F_last_a1_186 := F_last_a1_185.other W186 (Or.inr (slot_ne (Or.inl (hw _ (List.mem_of_getElem? (i := 58) rfl))) (Or.inr (hw _ (List.mem_of_getElem? (i := 52) rfl))) (by decide) (t := .int) (t' := (.array .int)) (by decide) (by decide)))
  have E_a2_186 := E_a2_185.wr W186
  have F_size_a2_186 := F_size_a2_185.other W186 (Or.inl (Exa.ne E_a2_185 E_a1_185 (by decide)))
  have F_elementData_a2_186 := F_elementData_a2_185.other W186 (Or.inl (Exa.ne E_a2_185 E_a1_185 (by decide)))
  have V_ed_186 := V_ed_185.other W186 (Ne.symm (Exa.neArv E_a1_185 V_ed_185 (hw _ (List.mem_of_getElem? (i := 27) rfl))))
  have E_s0_186 := E_s0_185.wr W186
  have F_coder_s0_186 := F_coder_s0_185.other W186 (Or.inl (Exa.ne E_s0_185 E_a1_185 (by decide)))
  have F_value_s0_186 := F_value_s0_185.other W186 (Or.inl (Exa.ne E_s0_185 E_a1_185 (by decide)))
  have V_v0_186 := V_v0_185.other W186 (Exa.ne E_v0_185 E_a1_185 (by decide))
  have E_v0_186 := E_v0_185.wr W186
  have V_b171_186 := V_b171_185.other W186 (Ne.symm ne_a1_b171)
  have E_b171_186 := E_b171_185.wr W186
  have r178_0_186 := r178_0_185.other W186 (Ne.symm ne_a1_b_178)
  have r178_1_186 := r178_1_185.wr W186
  have V_b185_186 := V_b185.other W186 (Ne.symm ne_a1_b185)
  have N186 := Fr.snoc X186 N183 g_a1
  have Z186 : n0 ≤ h186.size := Nat.le_trans Z185 (Keep.of_wr W186).1
  have K186 := K185.wr W186 (Or.inl (List.mem_of_getElem? (i := 0) rfl))
  show own_Fin _ _ _ _ (T186.setTop (mkF m 79 #[rv a1, rv a2, iv (1 : Int32)] []))
  refine own_go (XS.aloadN X186.here hx rfl (hb hby d5_79) rfl rfl (Steps.refl _)) ?_
  show own_Fin _ _ _ _ (T186.setTop (mkF m 80 #[rv a1, rv a2, iv (1 : Int32)] [(.ref a1)]))
  obtain ⟨T187, X187, e187, st187⟩ := getF X186 hx hZ hown (host := "") (Or.inl (hw _ (List.mem_of_getElem? (i := 51) rfl))) Via.refl e186 F_following_a1_186 (g := (mkF m 80 #[rv a1, rv a2, iv (1 : Int32)] [(.ref a1)])) rfl rfl (hb hby d5_80)
  refine own_by st187 ?_
  show own_Fin _ _ _ _ (T187.setTop (mkF m 83 #[rv a1, rv a2, iv (1 : Int32)] [(.ref b185)]))
  refine own_go (XS.iconst X187.here hx rfl (hb hby d5_83) (Steps.refl _)) ?_
  show own_Fin _ _ _ _ (T187.setTop (mkF m 84 #[rv a1, rv a2, iv (1 : Int32)] [(.int (-1 : Int32)), (.ref b185)]))
  obtain ⟨_, _, ⟨T188, L188, k188, n188⟩, -, X188, ⟨Lc188, hQ188, l188, y188, z188⟩, st188⟩ := Jvm.LawKit.callS X187 hx (y := (⟨"java/util/Arrays", "fill", "([II)V"⟩ : MethodName)) hown (mvT hZ (hw _ (List.mem_of_getElem? (i := 53) rfl))) (mvT hZ (hw _ (List.mem_of_getElem? (i := 54) rfl))) (mvT hZ (hw _ (List.mem_of_getElem? (i := 55) rfl))) (mvT hZ (hw _ (List.mem_of_getElem? (i := 56) rfl))) (by decide) (backOf (W := 0) (rmfill_2 l Z a0 hw [] b185 k185 h186 n0 Z186 V_b185_186 g_b185) hZ (hw _ (List.mem_of_getElem? (i := 56) rfl)) (hw _ (List.mem_of_getElem? (i := 55) rfl)) (by decide) (by decide)) (g := (mkF m 84 #[rv a1, rv a2, iv (1 : Int32)] [(.int (-1 : Int32)), (.ref b185)])) rfl (by rw [hml]; rfl) (argsL := [(.ref b185), (.int (-1 : Int32))]) (rest := []) (lenOf pd__28__5b_II_29_V rfl) rfl (by show 2 * 0 + _ ≤ _; exact Nat.le_of_eq rfl) (hb hby d5_84) (fun _ _ => ⟨rfl, e187, (by decide : 3 + 0 ≤ _), (by decide : 4 + 0 ≤ _)⟩)
  dsimp only [Pt.U, Pt.locs, Pt.cells, Pt.slots] at X188 l188 y188 z188 st188 hQ188
  subst l188 y188 z188
  refine own_by st188 ?_
  obtain ⟨rfl, Nq188, K188, r188_0⟩ := hQ188
  have Od188 := Od186.keep K188 (allS g_b185 all0)
  have E_a1_188 := E_a1_186.keep K188
  have F_ids_a1_188 := F_ids_a1_186.keep K188 (ninS ne_a1_b185 nin0)
  have F_none_a1_188 := F_none_a1_186.keep K188 (ninS ne_a1_b185 nin0)
  have F_following_a1_188 := F_following_a1_186.keep K188 (ninS ne_a1_b185 nin0)
  have F_last_a1_188 := F_last_a1_186.keep K188 (ninS ne_a1_b185 nin0)
  have E_a2_188 := E_a2_186.keep K188
  have F_size_a2_188 := F_size_a2_186.keep K188 (ninS ne_a2_b185 nin0)
  have F_elementData_a2_188 := F_elementData_a2_186.keep K188 (ninS ne_a2_b185 nin0)
  have V_ed_188 := V_ed_186.keep K188 (ninS ne_ed_b185 nin0)
  have E_s0_188 := E_s0_186.keep K188
  have F_coder_s0_188 := F_coder_s0_186.keep K188 (ninS ne_s0_b185 nin0)
  have F_value_s0_188 := F_value_s0_186.keep K188 (ninS ne_s0_b185 nin0)
  have V_v0_188 := V_v0_186.keep K188 (ninS ne_v0_b185 nin0)
  have E_v0_188 := E_v0_186.keep K188
  have V_b171_188 := V_b171_186.keep K188 (ninS ne_b171_b185 nin0)
  have E_b171_188 := E_b171_186.keep K188
  have r178_0_188 := r178_0_186.keep K188 (ninS ne_b_178_b185 nin0)
  have r178_1_188 := r178_1_186.keep K188
  have Z188 : n0 ≤ T188.heap.size := Nat.le_trans Z186 K188.1
  have Kt188 := K186.trans K188 (allS (P := fun x => x ∈ _ ∨ _ ≤ x) (Or.inr sz_b185) all0)
  have N188 := Fr.app N186 Nq188
  show own_Fin _ _ _ _ (T188.setTop (mkF m 87 #[rv a1, rv a2, iv (1 : Int32)] []))
  refine own_go (XS.aloadN X188.here hx rfl (hb hby d5_87) rfl rfl (Steps.refl _)) ?_
  show own_Fin _ _ _ _ (T188.setTop (mkF m 88 #[rv a1, rv a2, iv (1 : Int32)] [(.ref a1)]))
  obtain ⟨T189, X189, e189, st189⟩ := getF X188 hx hZ hown (host := "") (Or.inl (hw _ (List.mem_of_getElem? (i := 51) rfl))) Via.refl rfl F_following_a1_188 (g := (mkF m 88 #[rv a1, rv a2, iv (1 : Int32)] [(.ref a1)])) rfl rfl (hb hby d5_88)
  refine own_by st189 ?_
  show own_Fin _ _ _ _ (T189.setTop (mkF m 91 #[rv a1, rv a2, iv (1 : Int32)] [(.ref b185)]))
  refine own_go (XS.aloadN X189.here hx rfl (hb hby d5_91) rfl rfl (Steps.refl _)) ?_
  show own_Fin _ _ _ _ (T189.setTop (mkF m 92 #[rv a1, rv a2, iv (1 : Int32)] [(.ref a1), (.ref b185)]))
  obtain ⟨T190, X190, e190, st190⟩ := getF X189 hx hZ hown (host := "") (Or.inl (hw _ (List.mem_of_getElem? (i := 48) rfl))) Via.refl e189 F_none_a1_188 (g := (mkF m 92 #[rv a1, rv a2, iv (1 : Int32)] [(.ref a1), (.ref b185)])) rfl rfl (hb hby d5_92)
  refine own_by st190 ?_
  show own_Fin _ _ _ _ (T190.setTop (mkF m 95 #[rv a1, rv a2, iv (1 : Int32)] [(.int (1 : Int32)), (.ref b185)]))
  refine own_go (XS.iconst X190.here hx rfl (hb hby d5_95) (Steps.refl _)) ?_
  show own_Fin _ _ _ _ (T190.setTop (mkF m 96 #[rv a1, rv a2, iv (1 : Int32)] [(.int (0 : Int32)), (.int (1 : Int32)), (.ref b185)]))
  obtain ⟨cl191, Ar191, qa191, Sa191, Na191, Ha191, Ga191⟩ := id r188_0
  have hin191 : ¬ ((1 : Int32) < 0 ∨ cl191.slots.size ≤ ((1 : Int32)).toNatClampNeg) := inb_of Sa191 ⟨by decide, by decide⟩
  obtain ⟨T192, h192, X192, e192, W192, st192⟩ := stI X190 hx hZ e190 Ar191 (j := (1 : Int32)) hin191 (g := (mkF m 96 #[rv a1, rv a2, iv (1 : Int32)] [(.int (0 : Int32)), (.int (1 : Int32)), (.ref b185)])) rfl rfl (hb hby d5_96)
  refine own_by st192 ?_
  have V_b185_192 : Arv Z h192 b185 k185 .int (2 : Int32) [(.int (-1 : Int32)), (.int (0 : Int32))] (.int (0 : Int32)) := Arv.set Ar191 qa191 Sa191 Na191 Ha191 Ga191 rfl W192 1 rfl (Nat.le_of_ble_eq_true rfl)
  have Od192 := Od188.wr W192 g_b185
  have E_a1_192 := E_a1_188.wr W192
  have F_ids_a1_192 := F_ids_a1_188.other W192 (Or.inl ne_a1_b185)
  have F_none_a1_192 := F_none_a1_188.other W192 (Or.inl ne_a1_b185)
  have F_following_a1_192 := F_following_a1_188.other W192 (Or.inl ne_a1_b185)
  have F_last_a1_192 := F_last_a1_188.other W192 (Or.inl ne_a1_b185)
  have E_a2_192 := E_a2_188.wr W192
  have F_size_a2_192 := F_size_a2_188.other W192 (Or.inl ne_a2_b185)
  have F_elementData_a2_192 := F_elementData_a2_188.other W192 (Or.inl ne_a2_b185)
  have V_ed_192 := V_ed_188.other W192 ne_ed_b185
  have E_s0_192 := E_s0_188.wr W192
  have F_coder_s0_192 := F_coder_s0_188.other W192 (Or.inl ne_s0_b185)
  have F_value_s0_192 := F_value_s0_188.other W192 (Or.inl ne_s0_b185)
  have V_v0_192 := V_v0_188.other W192 ne_v0_b185
  have E_v0_192 := E_v0_188.wr W192
  have V_b171_192 := V_b171_188.other W192 ne_b171_b185
  have E_b171_192 := E_b171_188.wr W192
  have r178_0_192 := r178_0_188.other W192 ne_b_178_b185
  have r178_1_192 := r178_1_188.wr W192
  have N192 := Fr.snoc X192 N188 g_b185
  have Z192 : n0 ≤ h192.size := Nat.le_trans Z188 (Keep.of_wr W192).1
  have K192 := Kt188.wr W192 (Or.inr sz_b185)
  show own_Fin _ _ _ _ (T192.setTop (mkF m 97 #[rv a1, rv a2, iv (1 : Int32)] []))
  refine own_go (XS.aloadN X192.here hx rfl (hb hby d5_97) rfl rfl (Steps.refl _)) ?_
  show own_Fin _ _ _ _ (T192.setTop (mkF m 98 #[rv a1, rv a2, iv (1 : Int32)] [(.ref a1)]))
  refine own_go (XS.aloadN X192.here hx rfl (hb hby d5_98) rfl rfl (Steps.refl _)) ?_
  show own_Fin _ _ _ _ (T192.setTop (mkF m 99 #[rv a1, rv a2, iv (1 : Int32)] [(.ref a1), (.ref a1)]))
  obtain ⟨T193, X193, e193, st193⟩ := getF X192 hx hZ hown (host := "") (Or.inl (hw _ (List.mem_of_getElem? (i := 48) rfl))) Via.refl e192 F_none_a1_192 (g := (mkF m 99 #[rv a1, rv a2, iv (1 : Int32)] [(.ref a1), (.ref a1)])) rfl rfl (hb hby d5_99)
  refine own_by st193 ?_
  show own_Fin _ _ _ _ (T193.setTop (mkF m 102 #[rv a1, rv a2, iv (1 : Int32)] [(.int (1 : Int32)), (.ref a1)]))
  obtain ⟨T194, h194, X194, e194, W194, st194⟩ := putF X193 hx hZ hown (host := "") (Or.inl (hw _ (List.mem_of_getElem? (i := 57) rfl))) Via.refl e193 F_last_a1_192 E_a1_192 (Or.inl (hw _ (List.mem_of_getElem? (i := 58) rfl))) (hw _ (List.mem_of_getElem? (i := 27) rfl)) (ty := .int) (by decide) rfl rfl (g := (mkF m 102 #[rv a1, rv a2, iv (1 : Int32)] [(.int (1 : Int32)), (.ref a1)])) rfl rfl (hb hby d5_102)
  refine own_by st194 ?_
  have F_last_a1_194 := F_last_a1_192.same W194
  have Od194 := Od192.wr W194 g_a1
  have E_a1_194 := E_a1_192.wr W194
  have F_ids_a1_194 := F_ids_a1_192.other W194 (Or.inr (slot_ne (Or.inr (hw _ (List.mem_of_getElem? (i := 47) rfl))) (Or.inl (hw _ (List.mem_of_getElem? (i := 58) rfl))) (by decide) (t := (.array (.array .byte))) (t' := .int) (by decide) (by decide)))
  have F_none_a1_194 := F_none_a1_192.other W194 (Or.inr (slot_ne (Or.inr (hw _ (List.mem_of_getElem? (i := 49) rfl))) (Or.inl (hw _ (List.mem_of_getElem? (i := 58) rfl))) (by decide) (t := .int) (t' := .int) (by decide) (by decide)))
  have F_following_a1_194 := F_following_a1_192.other W194 (Or.inr (slot_ne (Or.inr (hw _ (List.mem_of_getElem? (i := 52) rfl))) (Or.inl (hw _ (List.mem_of_getElem? (i := 58) rfl))) (by decide) (t := (.array .int)) (t' := .int) (by decide) (by decide)))
  have E_a2_194 := E_a2_192.wr W194
  have F_size_a2_194 := F_size_a2_192.other W194 (Or.inl (Exa.ne E_a2_192 E_a1_192 (by decide)))
  have F_elementData_a2_194 := F_elementData_a2_192.other W194 (Or.inl (Exa.ne E_a2_192 E_a1_192 (by decide)))
  have V_ed_194 := V_ed_192.other W194 (Ne.symm (Exa.neArv E_a1_192 V_ed_192 (hw _ (List.mem_of_getElem? (i := 27) rfl))))
  have E_s0_194 := E_s0_192.wr W194
  have F_coder_s0_194 := F_coder_s0_192.other W194 (Or.inl (Exa.ne E_s0_192 E_a1_192 (by decide)))
  have F_value_s0_194 := F_value_s0_192.other W194 (Or.inl (Exa.ne E_s0_192 E_a1_192 (by decide)))
  have V_v0_194 := V_v0_192.other W194 (Exa.ne E_v0_192 E_a1_192 (by decide))
  have E_v0_194 := E_v0_192.wr W194
  have V_b171_194 := V_b171_192.other W194 (Ne.symm ne_a1_b171)
  have E_b171_194 := E_b171_192.wr W194
  have r178_0_194 := r178_0_192.other W194 (Ne.symm ne_a1_b_178)
  have r178_1_194 := r178_1_192.wr W194
  have V_b185_194 := V_b185_192.other W194 (Ne.symm ne_a1_b185)
  have N194 := Fr.snoc X194 N192 g_a1
  have Z194 : n0 ≤ h194.size := Nat.le_trans Z192 (Keep.of_wr W194).1
  have K194 := K192.wr W194 (Or.inl (List.mem_of_getElem? (i := 0) rfl))
  show own_Fin _ _ _ _ (T194.setTop (mkF m 105 #[rv a1, rv a2, iv (1 : Int32)] []))
  obtain ⟨fs195, hr195, hrun195, hended195, hW195, hsame195⟩ := X194.leave (v := none) (fun _ => rfl)
  refine own_done (X194.returnOut hx Bd.returns (hb hby d5_105) hr195) hrun195 hended195 ⟨_, _, rfl, ?_, ⟨_, rfl⟩, hW195, hsame195.mono (by decide) (by decide)⟩
  show Qinit_1 Z a1 a2 u cs ed ke s0 v0 q0 h0 n0 _ T194.heap _
  rw [e194]
  exact ⟨b171, b185, b_178, k171, k185, rfl, N194, K194, g_b171, sz_b171, g_b185, sz_b185, g_b_178, sz_b_178, E_a1_194, F_ids_a1_194, F_none_a1_194, F_following_a1_194, F_last_a1_194, V_b171_194, V_b185_194⟩
theorem ef_init_2 (m : MethodId) (x0 : Addr) (x1 : Addr) : entryFrame m #[(.ref x0), (.ref x1)] 3 = mkF m 0 #[.val (.ref x0), .val (.ref x1), .unset] [] := by first | (simp [entryFrame, mkF, argsToLocals, Value.category]; done) | rfl
def Qinit_2 (Z : State) (a1 : Addr) (a2 : Addr) (u : Addr) (cs : Int32) (ed : Addr) (ke : ClassId) (s0 : Addr) (s1 : Addr) (v0 : Addr) (v1 : Addr) (q0 : ClassId) (q1 : ClassId) (h0 : Heap) (n0 : Nat) (v : Option Value) (h : Heap) (L : List Loc) : Prop := ∃ (bi : Addr) (bf : Addr) (x0 : Addr) (x1 : Addr) (ki : ClassId) (kf : ClassId), v = none ∧ Fr n0 L ∧ Keep h0 h [a1] ∧ n0 ≤ bi ∧ h0.size ≤ bi ∧ n0 ≤ bf ∧ h0.size ≤ bf ∧ n0 ≤ x0 ∧ h0.size ≤ x0 ∧ n0 ≤ x1 ∧ h0.size ≤ x1 ∧ Exa Z h a1 "com/example/gridtally/gridtally/casefile/IdSequence" ∧ Fld Z h a1 "com/example/gridtally/gridtally/casefile/IdSequence" "ids" "[[B" (.ref bi) ∧ Fld Z h a1 "com/example/gridtally/gridtally/casefile/IdSequence" "none" "I" (.int (2 : Int32)) ∧ Fld Z h a1 "com/example/gridtally/gridtally/casefile/IdSequence" "following" "[I" (.ref bf) ∧ Fld Z h a1 "com/example/gridtally/gridtally/casefile/IdSequence" "last" "I" (.int (2 : Int32)) ∧ Arv Z h bi ki (.array .byte) (2 : Int32) [(.ref x0), (.ref x1)] .null ∧ Arv Z h bf kf .int (3 : Int32) [(.int (-1 : Int32)), (.int (-1 : Int32)), (.int (0 : Int32))] (.int (0 : Int32))
abbrev Ginit_2 (Z : State) (a1 : Addr) (a2 : Addr) (u : Addr) (cs : Int32) (ed : Addr) (ke : ClassId) (s0 : Addr) (s1 : Addr) (v0 : Addr) (v1 : Addr) (q0 : ClassId) (q1 : ClassId) (h0 : Heap) (n0 : Nat) (s : State) : Outcome → State → Prop := fun o U' => ∃ v L, o = .returned v ∧ Qinit_2 Z a1 a2 u cs ed ke s0 s1 v0 v1 q0 q1 h0 n0 v U'.heap L ∧ FrameEnd s o U' L ({ frames := 5, cells := 4, slots := 7, locals := 112 } : Room).cells ({ frames := 5, cells := 4, slots := 7, locals := 112 } : Room).slots
set_option maxRecDepth 65536 in
set_option maxHeartbeats 40000000 in
theorem rminit_2 (l : Launch) (Z : State) (a0 : Array Value) (hw : ∀ d ∈ tables_1, d.before a0 Z = true) (ws : List Jvm.Cond) (a1 : Addr) (a2 : Addr) (u : Addr) (cs : Int32) (ed : Addr) (ke : ClassId) (s0 : Addr) (s1 : Addr) (v0 : Addr) (v1 : Addr) (q0 : ClassId) (q1 : ClassId) (h0 : Heap) (n0 : Nat) (Z0 : n0 ≤ h0.size) (E_a1 : Exa Z h0 a1 "com/example/gridtally/gridtally/casefile/IdSequence") (F_ids_a1 : Fld Z h0 a1 "com/example/gridtally/gridtally/casefile/IdSequence" "ids" "[[B" .null) (F_none_a1 : Fld Z h0 a1 "com/example/gridtally/gridtally/casefile/IdSequence" "none" "I" (.int (0 : Int32))) (F_following_a1 : Fld Z h0 a1 "com/example/gridtally/gridtally/casefile/IdSequence" "following" "[I" .null) (F_last_a1 : Fld Z h0 a1 "com/example/gridtally/gridtally/casefile/IdSequence" "last" "I" (.int (0 : Int32))) (g_a1 : n0 ≤ a1) (O0 : Old Z n0 h0) (S_INSTANCE : Sta Z Z.heap "sun/nio/cs/UTF_8" "INSTANCE" "Lsun/nio/cs/UTF_8;" (.ref u)) (S_UTF_8 : Sta Z Z.heap "java/nio/charset/StandardCharsets" "UTF_8" "Ljava/nio/charset/Charset;" (.ref u)) (S_COMPACT_STRINGS : Sta Z Z.heap "java/lang/String" "COMPACT_STRINGS" "Z" (.int cs)) (hcs : ¬ cs = (0 : Int32)) (E_a2 : Exa Z h0 a2 "java/util/ArrayList") (F_size_a2 : Fld Z h0 a2 "java/util/ArrayList" "size" "I" (.int (2 : Int32))) (F_elementData_a2 : Fld Z h0 a2 "java/util/ArrayList" "elementData" "[Ljava/lang/Object;" (.ref ed)) (V_ed : Arv Z h0 ed ke (.object "java/lang/Object") (10 : Int32) [(.ref s0), (.ref s1), .null, .null, .null, .null, .null, .null, .null, .null] .null) (E_s0 : Exa Z h0 s0 "java/lang/String") (F_coder_s0 : Fld Z h0 s0 "java/lang/String" "coder" "B" (.int (0 : Int32))) (F_value_s0 : Fld Z h0 s0 "java/lang/String" "value" "[B" (.ref v0)) (V_v0 : Arv Z h0 v0 q0 .byte (1 : Int32) [(.int (97 : Int32))] (.int (0 : Int32))) (E_v0 : Exa Z h0 v0 "[B") (E_s1 : Exa Z h0 s1 "java/lang/String") (F_coder_s1 : Fld Z h0 s1 "java/lang/String" "coder" "B" (.int (0 : Int32))) (F_value_s1 : Fld Z h0 s1 "java/lang/String" "value" "[B" (.ref v1)) (V_v1 : Arv Z h0 v1 q1 .byte (1 : Int32) [(.int (98 : Int32))] (.int (0 : Int32))) (E_v1 : Exa Z h0 v1 "[B") :
    MetFree l (⟨"com/example/gridtally/gridtally/casefile/IdSequence", "<init>", "(Ljava/util/List;)V"⟩ : MethodName) (head1 (Jvm.Cond.code (⟨"com/example/gridtally/gridtally/casefile/IdSequence", "<init>", "(Ljava/util/List;)V"⟩ : MethodName) prog_15_method_1_code 3 none :: ws) ({ frames := 5, cells := 4, slots := 7, locals := 112 } : Room)) (fun a U => a = #[(.ref a1), (.ref a2)] ∧ Z.Warmed39 U.vm ∧ U.heap = h0) (fun _ _ _ _ _ => True) (fun _ U o U' => ∃ v L, o = .returned v ∧ Qinit_2 Z a1 a2 u cs ed ke s0 s1 v0 v1 q0 q1 h0 n0 v U'.heap L ∧ FrameEnd U o U' L ({ frames := 5, cells := 4, slots := 7, locals := 112 } : Room).cells ({ frames := 5, cells := 4, slots := 7, locals := 112 } : Room).slots) := by
  refine MetFree.of_bodySF (plainFor_of_name pn_com_example_gridtally_gridtally_casefile_IdSequence) hisR ?_
  intro p e s m args below meth c s₁ Bd hml0 hP hK
  obtain ⟨rfl, hZ, hh⟩ := hP
  have hx := Bd.exec
  have hby := Bd.bytes
  have hml : c.maxLocals = 3 := hml0
  have hown : s.vm.findClass "com/example/gridtally/gridtally/casefile/IdSequence" = some m.cls := findClass_of_methodNamed Bd.named
  have hnm := (name_of_methodNamed Bd.named Bd.method).1
  have X0 : Stand p l e ({ frames := 5, cells := 4, slots := 7, locals := 112 } : Room) s m #[(.ref a1), (.ref a2)] below meth c s₁ [] 0 0 := Stand.of_body Bd
  have e0 : s₁.heap = h0 := by rw [← hh, Bd.state]; rfl
  have es0 : s.heap = h0 := hh
  have N0 := Fr.nil n0
  show own_Fin p e below (Ginit_2 Z a1 a2 u cs ed ke s0 s1 v0 v1 q0 q1 h0 n0 s) (s₁.setTop (entryFrame m #[(.ref a1), (.ref a2)] 3))
  rw [ef_init_2 m a1 a2]
  have Kz := Keep.refl h0 [a1]
  refine own_go (XS.aloadN X0.here hx rfl (hb hby d5_0) rfl rfl (Steps.refl _)) ?_
  show own_Fin _ _ _ _ (s₁.setTop (mkF m 1 #[rv a1, rv a2, .unset] [(.ref a1)]))
  obtain ⟨T196, X196, e196, st196⟩ := initO X0 hx hZ hown (hw _ (List.mem_of_getElem? (i := 32) rfl)) (hw _ (List.mem_of_getElem? (i := 19) rfl)) (hw _ (List.mem_of_getElem? (i := 20) rfl)) e0 (g := (mkF m 1 #[rv a1, rv a2, .unset] [(.ref a1)])) rfl (by rw [hml]; rfl) rfl (hb hby d5_1) (by decide) (W := 0) (by show 2 * 0 + _ ≤ _; exact Nat.le_of_eq rfl) (by decide)
  refine own_by st196 ?_
  show own_Fin _ _ _ _ (T196.setTop (mkF m 4 #[rv a1, rv a2, .unset] []))
  refine own_go (XS.aloadN X196.here hx rfl (hb hby d5_4) rfl rfl (Steps.refl _)) ?_
  show own_Fin _ _ _ _ (T196.setTop (mkF m 5 #[rv a1, rv a2, .unset] [(.ref a1)]))
  refine own_go (XS.aloadN X196.here hx rfl (hb hby d5_5) rfl rfl (Steps.refl _)) ?_
  show own_Fin _ _ _ _ (T196.setTop (mkF m 6 #[rv a1, rv a2, .unset] [(.ref a2), (.ref a1)]))
  obtain ⟨cq197, kq197, q197a, q197b, q197c⟩ := isOf hZ e196 E_a2
  obtain ⟨_, _, ⟨T197, L197, k197, n197⟩, -, X197, ⟨Lc197, hQ197, l197, y197, z197⟩, st197⟩ := X196.interfaceBack hx (xi := (⟨"java/util/List", "size", "()I"⟩ : MethodName)) (y := (⟨"java/util/ArrayList", "size", "()I"⟩ : MethodName)) hown (mvT hZ (hw _ (List.mem_of_getElem? (i := 33) rfl))) (mvT hZ (hw _ (List.mem_of_getElem? (i := 34) rfl))) (mvT hZ (hw _ (List.mem_of_getElem? (i := 35) rfl))) (mvT hZ (hw _ (List.mem_of_getElem? (i := 36) rfl))) (mvT hZ (hw _ (List.mem_of_getElem? (i := 37) rfl))) (mvT hZ (hw _ (List.mem_of_getElem? (i := 38) rfl))) (mvT hZ (hw _ (List.mem_of_getElem? (i := 39) rfl))) (mvT hZ (hw _ (List.mem_of_getElem? (i := 40) rfl))) (by decide) (backOf (W := 1) (rmsize l Z a0 hw [] a2 (2 : Int32) h0 n0 Z0 F_size_a2) hZ (hw _ (List.mem_of_getElem? (i := 41) rfl)) (hw _ (List.mem_of_getElem? (i := 2) rfl)) (by decide) (by decide)) q197a q197b q197c (g := (mkF m 6 #[rv a1, rv a2, .unset] [(.ref a2), (.ref a1)])) rfl (by rw [hml]; rfl) (Steps.refl _) (argsL := []) (rest := [(.ref a1)]) (lenOf pd__28__29_I rfl) rfl (by show 2 * 0 + _ ≤ _; exact Nat.le_of_eq rfl) (hb hby d5_6) (fun _ _ => ⟨rfl, e196, (by decide : 0 + 0 ≤ _), (by decide : 0 + 0 ≤ _)⟩)
  dsimp only [Pt.U, Pt.locs, Pt.cells, Pt.slots] at X197 l197 y197 z197 st197 hQ197
  subst l197 y197 z197
  obtain ⟨rfl, Nq197, e197⟩ := hQ197
  refine own_go st197 ?_
  have N197 := Fr.app N0 Nq197
  show own_Fin _ _ _ _ (T197.setTop (mkF m 11 #[rv a1, rv a2, .unset] [(.int (2 : Int32)), (.ref a1)]))
  obtain ⟨T198, h198, k198, X198, e198, E198, A198, B198, O198, st198⟩ := newRA X197 hx hZ hown (ty := .byte) (by decide) (hw _ (List.mem_of_getElem? (i := 44) rfl)) (hw _ (List.mem_of_getElem? (i := 45) rfl)) e197 (g := (mkF m 11 #[rv a1, rv a2, .unset] [(.int (2 : Int32)), (.ref a1)])) rfl (hb hby d5_11) rfl (by decide) (cap := 2) (by decide) (by decide) (by decide) (by decide) (ad := "[[B") (by decide)
  obtain ⟨b198, g198⟩ : ∃ z, z = h0.size := ⟨_, rfl⟩
  rw [← g198] at A198 B198 st198
  refine own_by st198 ?_
  have ne_a1_b198 : a1 ≠ b198 := Nat.ne_of_lt (Nat.lt_of_lt_of_eq E_a1.lt g198.symm)
  have ne_a2_b198 : a2 ≠ b198 := Nat.ne_of_lt (Nat.lt_of_lt_of_eq E_a2.lt g198.symm)
  have ne_ed_b198 : ed ≠ b198 := Nat.ne_of_lt (Nat.lt_of_lt_of_eq V_ed.lt g198.symm)
  have ne_s0_b198 : s0 ≠ b198 := Nat.ne_of_lt (Nat.lt_of_lt_of_eq E_s0.lt g198.symm)
  have ne_v0_b198 : v0 ≠ b198 := Nat.ne_of_lt (Nat.lt_of_lt_of_eq V_v0.lt g198.symm)
  have ne_s1_b198 : s1 ≠ b198 := Nat.ne_of_lt (Nat.lt_of_lt_of_eq E_s1.lt g198.symm)
  have ne_v1_b198 : v1 ≠ b198 := Nat.ne_of_lt (Nat.lt_of_lt_of_eq V_v1.lt g198.symm)
  have Od198 := O0.ext E198
  have E_a1_198 := E_a1.ext E198
  have F_ids_a1_198 := F_ids_a1.ext E198
  have F_none_a1_198 := F_none_a1.ext E198
  have F_following_a1_198 := F_following_a1.ext E198
  have F_last_a1_198 := F_last_a1.ext E198
  have E_a2_198 := E_a2.ext E198
  have F_size_a2_198 := F_size_a2.ext E198
  have F_elementData_a2_198 := F_elementData_a2.ext E198
  have V_ed_198 := V_ed.ext E198
  have E_s0_198 := E_s0.ext E198
  have F_coder_s0_198 := F_coder_s0.ext E198
  have F_value_s0_198 := F_value_s0.ext E198
  have V_v0_198 := V_v0.ext E198
  have E_v0_198 := E_v0.ext E198
  have E_s1_198 := E_s1.ext E198
  have F_coder_s1_198 := F_coder_s1.ext E198
  have F_value_s1_198 := F_value_s1.ext E198
  have V_v1_198 := V_v1.ext E198
  have E_v1_198 := E_v1.ext E198
  have g_b198 : n0 ≤ b198 := Nat.le_trans Z0 (Nat.le_of_eq g198.symm)
  have sz_b198 : h0.size ≤ b198 := Nat.le_trans Kz.1 (Nat.le_of_eq g198.symm)
  have K198 := Kz.ext E198
  have Z198 : n0 ≤ h198.size := Nat.le_trans Z0 E198.1
  have V_b198 : Arv Z h198 b198 k198 (.array .byte) (2 : Int32) [.null, .null] .null := (Arv.new A198 (by decide)).pad (pad_rep [] .null 2)
  have E_b198 := B198
  show own_Fin _ _ _ _ (T198.setTop (mkF m 14 #[rv a1, rv a2, .unset] [(.ref b198), (.ref a1)]))
  obtain ⟨T199, h199, X199, e199, W199, st199⟩ := putF X198 hx hZ hown (host := "") (Or.inl (hw _ (List.mem_of_getElem? (i := 46) rfl))) Via.refl e198 F_ids_a1_198 E_a1_198 (Or.inr ⟨(hw _ (List.mem_of_getElem? (i := 47) rfl)), rfl, hnm⟩) (hw _ (List.mem_of_getElem? (i := 27) rfl)) (ty := (.array (.array .byte))) (by decide) rfl rfl (g := (mkF m 14 #[rv a1, rv a2, .unset] [(.ref b198), (.ref a1)])) rfl rfl (hb hby d5_14)
  refine own_by st199 ?_
  have F_ids_a1_199 := F_ids_a1_198.same W199
  have Od199 := Od198.wr W199 g_a1
  have E_a1_199 := E_a1_198.wr W199
  have F_none_a1_199 := F_none_a1_198.other W199 (Or.inr (slot_ne (Or.inr (hw _ (List.mem_of_getElem? (i := 49) rfl))) (Or.inr (hw _ (List.mem_of_getElem? (i := 47) rfl))) (by decide) (t := .int) (t' := (.array (.array .byte))) (by decide) (by decide)))
  have F_following_a1_199 := F_following_a1_198.other W199 (Or.inr (slot_ne (Or.inr (hw _ (List.mem_of_getElem? (i := 52) rfl))) (Or.inr (hw _ (List.mem_of_getElem? (i := 47) rfl))) (by decide) (t := (.array .int)) (t' := (.array (.array .byte))) (by decide) (by decide)))
  have F_last_a1_199 := F_last_a1_198.other W199 (Or.inr (slot_ne (Or.inl (hw _ (List.mem_of_getElem? (i := 58) rfl))) (Or.inr (hw _ (List.mem_of_getElem? (i := 47) rfl))) (by decide) (t := .int) (t' := (.array (.array .byte))) (by decide) (by decide)))
  have E_a2_199 := E_a2_198.wr W199
  have F_size_a2_199 := F_size_a2_198.other W199 (Or.inl (Exa.ne E_a2_198 E_a1_198 (by decide)))
  have F_elementData_a2_199 := F_elementData_a2_198.other W199 (Or.inl (Exa.ne E_a2_198 E_a1_198 (by decide)))
  have V_ed_199 := V_ed_198.other W199 (Ne.symm (Exa.neArv E_a1_198 V_ed_198 (hw _ (List.mem_of_getElem? (i := 27) rfl))))
  have E_s0_199 := E_s0_198.wr W199
  have F_coder_s0_199 := F_coder_s0_198.other W199 (Or.inl (Exa.ne E_s0_198 E_a1_198 (by decide)))
  have F_value_s0_199 := F_value_s0_198.other W199 (Or.inl (Exa.ne E_s0_198 E_a1_198 (by decide)))
  have V_v0_199 := V_v0_198.other W199 (Exa.ne E_v0_198 E_a1_198 (by decide))
  have E_v0_199 := E_v0_198.wr W199
  have E_s1_199 := E_s1_198.wr W199
  have F_coder_s1_199 := F_coder_s1_198.other W199 (Or.inl (Exa.ne E_s1_198 E_a1_198 (by decide)))
  have F_value_s1_199 := F_value_s1_198.other W199 (Or.inl (Exa.ne E_s1_198 E_a1_198 (by decide)))
  have V_v1_199 := V_v1_198.other W199 (Exa.ne E_v1_198 E_a1_198 (by decide))
  have E_v1_199 := E_v1_198.wr W199
  have V_b198_199 := V_b198.other W199 (Ne.symm ne_a1_b198)
  have E_b198_199 := E_b198.wr W199
  have N199 := Fr.snoc X199 N197 g_a1
  have Z199 : n0 ≤ h199.size := Nat.le_trans Z198 (Keep.of_wr W199).1
  have K199 := K198.wr W199 (Or.inl (List.mem_of_getElem? (i := 0) rfl))
  show own_Fin _ _ _ _ (T199.setTop (mkF m 17 #[rv a1, rv a2, .unset] []))
  refine own_go (XS.iconst X199.here hx rfl (hb hby d5_17) (Steps.refl _)) ?_
  show own_Fin _ _ _ _ (T199.setTop (mkF m 18 #[rv a1, rv a2, .unset] [(.int (0 : Int32))]))
  refine own_go (XS.istoreN X199.here hx rfl (hb hby d5_18) rfl rfl (Steps.refl _)) ?_
  show own_Fin _ _ _ _ (T199.setTop (mkF m 19 #[rv a1, rv a2, iv (0 : Int32)] []))
  refine own_go (XS.iloadN X199.here hx rfl (hb hby d5_19) rfl (Steps.refl _)) ?_
  show own_Fin _ _ _ _ (T199.setTop (mkF m 20 #[rv a1, rv a2, iv (0 : Int32)] [(.int (0 : Int32))]))
  refine own_go (XS.aloadN X199.here hx rfl (hb hby d5_20) rfl rfl (Steps.refl _)) ?_
  show own_Fin _ _ _ _ (T199.setTop (mkF m 21 #[rv a1, rv a2, iv (0 : Int32)] [(.ref a2), (.int (0 : Int32))]))
  obtain ⟨cq200, kq200, q200a, q200b, q200c⟩ := isOf hZ e199 E_a2_199
  obtain ⟨_, _, ⟨T200, L200, k200, n200⟩, -, X200, ⟨Lc200, hQ200, l200, y200, z200⟩, st200⟩ := X199.interfaceBack hx (xi := (⟨"java/util/List", "size", "()I"⟩ : MethodName)) (y := (⟨"java/util/ArrayList", "size", "()I"⟩ : MethodName)) hown (mvT hZ (hw _ (List.mem_of_getElem? (i := 33) rfl))) (mvT hZ (hw _ (List.mem_of_getElem? (i := 34) rfl))) (mvT hZ (hw _ (List.mem_of_getElem? (i := 35) rfl))) (mvT hZ (hw _ (List.mem_of_getElem? (i := 36) rfl))) (mvT hZ (hw _ (List.mem_of_getElem? (i := 37) rfl))) (mvT hZ (hw _ (List.mem_of_getElem? (i := 38) rfl))) (mvT hZ (hw _ (List.mem_of_getElem? (i := 39) rfl))) (mvT hZ (hw _ (List.mem_of_getElem? (i := 40) rfl))) (by decide) (backOf (W := 1) (rmsize l Z a0 hw [] a2 (2 : Int32) h199 n0 Z199 F_size_a2_199) hZ (hw _ (List.mem_of_getElem? (i := 41) rfl)) (hw _ (List.mem_of_getElem? (i := 2) rfl)) (by decide) (by decide)) q200a q200b q200c (g := (mkF m 21 #[rv a1, rv a2, iv (0 : Int32)] [(.ref a2), (.int (0 : Int32))])) rfl (by rw [hml]; rfl) (Steps.refl _) (argsL := []) (rest := [(.int (0 : Int32))]) (lenOf pd__28__29_I rfl) rfl (by show 2 * 0 + _ ≤ _; exact Nat.le_of_eq rfl) (hb hby d5_21) (fun _ _ => ⟨rfl, e199, (by decide : 1 + 0 ≤ _), (by decide : 2 + 0 ≤ _)⟩)
  dsimp only [Pt.U, Pt.locs, Pt.cells, Pt.slots] at X200 l200 y200 z200 st200 hQ200
  subst l200 y200 z200
  obtain ⟨rfl, Nq200, e200⟩ := hQ200
  refine own_go st200 ?_
  have N200 := Fr.app N199 Nq200
  show own_Fin _ _ _ _ (T200.setTop (mkF m 26 #[rv a1, rv a2, iv (0 : Int32)] [(.int (2 : Int32)), (.int (0 : Int32))]))
  refine own_go (XS.icmpNo X200.here hx rfl (hb hby d5_26) rfl (tlt (by decide : (0 : Int32) < (2 : Int32))).2.1 (Steps.refl _)) ?_
  show own_Fin _ _ _ _ (T200.setTop (mkF m 29 #[rv a1, rv a2, iv (0 : Int32)] []))
  refine own_go (XS.aloadN X200.here hx rfl (hb hby d5_29) rfl rfl (Steps.refl _)) ?_
  show own_Fin _ _ _ _ (T200.setTop (mkF m 30 #[rv a1, rv a2, iv (0 : Int32)] [(.ref a1)]))
  obtain ⟨T201, X201, e201, st201⟩ := getF X200 hx hZ hown (host := "") (Or.inl (hw _ (List.mem_of_getElem? (i := 46) rfl))) Via.refl e200 F_ids_a1_199 (g := (mkF m 30 #[rv a1, rv a2, iv (0 : Int32)] [(.ref a1)])) rfl rfl (hb hby d5_30)
  refine own_by st201 ?_
  show own_Fin _ _ _ _ (T201.setTop (mkF m 33 #[rv a1, rv a2, iv (0 : Int32)] [(.ref b198)]))
  refine own_go (XS.iloadN X201.here hx rfl (hb hby d5_33) rfl (Steps.refl _)) ?_
  show own_Fin _ _ _ _ (T201.setTop (mkF m 34 #[rv a1, rv a2, iv (0 : Int32)] [(.int (0 : Int32)), (.ref b198)]))
  refine own_go (XS.aloadN X201.here hx rfl (hb hby d5_34) rfl rfl (Steps.refl _)) ?_
  show own_Fin _ _ _ _ (T201.setTop (mkF m 35 #[rv a1, rv a2, iv (0 : Int32)] [(.ref a2), (.int (0 : Int32)), (.ref b198)]))
  refine own_go (XS.iloadN X201.here hx rfl (hb hby d5_35) rfl (Steps.refl _)) ?_
  show own_Fin _ _ _ _ (T201.setTop (mkF m 36 #[rv a1, rv a2, iv (0 : Int32)] [(.int (0 : Int32)), (.ref a2), (.int (0 : Int32)), (.ref b198)]))
  obtain ⟨cq202, kq202, q202a, q202b, q202c⟩ := isOf hZ e201 E_a2_199
  obtain ⟨_, _, ⟨T202, L202, k202, n202⟩, -, X202, ⟨Lc202, hQ202, l202, y202, z202⟩, st202⟩ := X201.interfaceBack hx (xi := (⟨"java/util/List", "get", "(I)Ljava/lang/Object;"⟩ : MethodName)) (y := (⟨"java/util/ArrayList", "get", "(I)Ljava/lang/Object;"⟩ : MethodName)) hown (mvT hZ (hw _ (List.mem_of_getElem? (i := 116) rfl))) (mvT hZ (hw _ (List.mem_of_getElem? (i := 117) rfl))) (mvT hZ (hw _ (List.mem_of_getElem? (i := 118) rfl))) (mvT hZ (hw _ (List.mem_of_getElem? (i := 119) rfl))) (mvT hZ (hw _ (List.mem_of_getElem? (i := 120) rfl))) (mvT hZ (hw _ (List.mem_of_getElem? (i := 121) rfl))) (mvT hZ (hw _ (List.mem_of_getElem? (i := 122) rfl))) (mvT hZ (hw _ (List.mem_of_getElem? (i := 40) rfl))) (by decide) (backOf (W := 2) (rmget_2_0 l Z a0 hw [] a2 ed ke s0 s1 h199 n0 Z199 E_a2_199 F_size_a2_199 F_elementData_a2_199 V_ed_199) hZ (hw _ (List.mem_of_getElem? (i := 123) rfl)) (hw _ (List.mem_of_getElem? (i := 2) rfl)) (by decide) (by decide)) q202a q202b q202c (g := (mkF m 36 #[rv a1, rv a2, iv (0 : Int32)] [(.int (0 : Int32)), (.ref a2), (.int (0 : Int32)), (.ref b198)])) rfl (by rw [hml]; rfl) (Steps.refl _) (argsL := [(.int (0 : Int32))]) (rest := [(.int (0 : Int32)), (.ref b198)]) (lenOf pd__28_I_29_Ljava_2f_lang_2f_Object_3b_ rfl) rfl (by show 2 * 0 + _ ≤ _; exact Nat.le_of_eq rfl) (hb hby d5_36) (fun _ _ => ⟨rfl, e201, (by decide : 1 + 0 ≤ _), (by decide : 2 + 0 ≤ _)⟩)
  dsimp only [Pt.U, Pt.locs, Pt.cells, Pt.slots] at X202 l202 y202 z202 st202 hQ202
  subst l202 y202 z202
  obtain ⟨rfl, Nq202, e202⟩ := hQ202
  refine own_go st202 ?_
  have N202 := Fr.app N200 Nq202
  show own_Fin _ _ _ _ (T202.setTop (mkF m 41 #[rv a1, rv a2, iv (0 : Int32)] [(.ref s0), (.int (0 : Int32)), (.ref b198)]))
  obtain ⟨T203, X203, e203, st203⟩ := castY X202 hx hZ hown (hw _ (List.mem_of_getElem? (i := 137) rfl)) e202 (Ins.self E_s0_199) (g := (mkF m 41 #[rv a1, rv a2, iv (0 : Int32)] [(.ref s0), (.int (0 : Int32)), (.ref b198)])) rfl rfl (hb hby d5_41)
  refine own_by st203 ?_
  show own_Fin _ _ _ _ (T203.setTop (mkF m 44 #[rv a1, rv a2, iv (0 : Int32)] [(.ref s0), (.int (0 : Int32)), (.ref b198)]))
  obtain ⟨T204, X204, e204, st204⟩ := getS2 X203 hx hZ hown (host := "") (Or.inl (hw _ (List.mem_of_getElem? (i := 139) rfl))) Via.refl e203 (S_UTF_8.ext Od199.2) (g := (mkF m 44 #[rv a1, rv a2, iv (0 : Int32)] [(.ref s0), (.int (0 : Int32)), (.ref b198)])) rfl (hb hby d5_44)
  refine own_by st204 ?_
  show own_Fin _ _ _ _ (T204.setTop (mkF m 47 #[rv a1, rv a2, iv (0 : Int32)] [(.ref u), (.ref s0), (.int (0 : Int32)), (.ref b198)]))
  obtain ⟨cq205, kq205, q205a, q205b, q205c⟩ := isOf hZ e204 E_s0_199
  obtain ⟨_, _, ⟨T205, L205, k205, n205⟩, -, X205, ⟨Lc205, hQ205, l205, y205, z205⟩, st205⟩ := X204.virtualBack hx (y := (⟨"java/lang/String", "getBytes", "(Ljava/nio/charset/Charset;)[B"⟩ : MethodName)) (z := (⟨"java/lang/String", "getBytes", "(Ljava/nio/charset/Charset;)[B"⟩ : MethodName)) hown (mvT hZ (hw _ (List.mem_of_getElem? (i := 141) rfl))) (mvT hZ (hw _ (List.mem_of_getElem? (i := 142) rfl))) (notFace_of_selects (args := #[]) (mvT hZ (hw _ (List.mem_of_getElem? (i := 144) rfl)))) (mvT hZ (hw _ (List.mem_of_getElem? (i := 144) rfl))) (mvT hZ (hw _ (List.mem_of_getElem? (i := 143) rfl))) (by decide) (backOf (W := 2) (rmgb l Z a0 hw [] s0 u v0 q0 (97 : Int32) cs h199 n0 Z199 E_s0_199 F_coder_s0_199 F_value_s0_199 V_v0_199 E_v0_199 (by decide) S_INSTANCE S_COMPACT_STRINGS Od199 hcs) hZ (hw _ (List.mem_of_getElem? (i := 145) rfl)) (hw _ (List.mem_of_getElem? (i := 78) rfl)) (by decide) (by decide)) q205a q205c (g := (mkF m 47 #[rv a1, rv a2, iv (0 : Int32)] [(.ref u), (.ref s0), (.int (0 : Int32)), (.ref b198)])) rfl (by rw [hml]; rfl) (Steps.refl _) (argsL := [(.ref u)]) (rest := [(.int (0 : Int32)), (.ref b198)]) (lenOf pd__28_Ljava_2f_nio_2f_charset_2f_Charset_3b__29__5b_B rfl) rfl (by show 2 * 0 + _ ≤ _; exact Nat.le_of_eq rfl) (hb hby d5_47) (fun _ _ => ⟨rfl, e204, (by decide : 1 + 1 ≤ _), (by decide : 2 + 1 ≤ _)⟩)
  dsimp only [Pt.U, Pt.locs, Pt.cells, Pt.slots] at X205 l205 y205 z205 st205 hQ205
  subst l205 y205 z205
  refine own_go st205 ?_
  obtain ⟨b_205, rfl, Nq205, K205, g_b_205, sb_b_205, r205_0, r205_1⟩ := hQ205
  have ne_a1_b_205 : a1 ≠ b_205 := Nat.ne_of_lt (Nat.lt_of_lt_of_le E_a1_199.lt sb_b_205)
  have ne_a2_b_205 : a2 ≠ b_205 := Nat.ne_of_lt (Nat.lt_of_lt_of_le E_a2_199.lt sb_b_205)
  have ne_ed_b_205 : ed ≠ b_205 := Nat.ne_of_lt (Nat.lt_of_lt_of_le V_ed_199.lt sb_b_205)
  have ne_s0_b_205 : s0 ≠ b_205 := Nat.ne_of_lt (Nat.lt_of_lt_of_le E_s0_199.lt sb_b_205)
  have ne_v0_b_205 : v0 ≠ b_205 := Nat.ne_of_lt (Nat.lt_of_lt_of_le V_v0_199.lt sb_b_205)
  have ne_s1_b_205 : s1 ≠ b_205 := Nat.ne_of_lt (Nat.lt_of_lt_of_le E_s1_199.lt sb_b_205)
  have ne_v1_b_205 : v1 ≠ b_205 := Nat.ne_of_lt (Nat.lt_of_lt_of_le V_v1_199.lt sb_b_205)
  have ne_b198_b_205 : b198 ≠ b_205 := Nat.ne_of_lt (Nat.lt_of_lt_of_le V_b198_199.lt sb_b_205)
  have sz_b_205 : h0.size ≤ b_205 := Nat.le_trans K199.1 sb_b_205
  have Od205 := Od199.keep K205 all0
  have E_a1_205 := E_a1_199.keep K205
  have F_ids_a1_205 := F_ids_a1_199.keep K205 nin0
  have F_none_a1_205 := F_none_a1_199.keep K205 nin0
  have F_following_a1_205 := F_following_a1_199.keep K205 nin0
  have F_last_a1_205 := F_last_a1_199.keep K205 nin0
  have E_a2_205 := E_a2_199.keep K205
  have F_size_a2_205 := F_size_a2_199.keep K205 nin0
  have F_elementData_a2_205 := F_elementData_a2_199.keep K205 nin0
  have V_ed_205 := V_ed_199.keep K205 nin0
  have E_s0_205 := E_s0_199.keep K205
  have F_coder_s0_205 := F_coder_s0_199.keep K205 nin0
  have F_value_s0_205 := F_value_s0_199.keep K205 nin0
  have V_v0_205 := V_v0_199.keep K205 nin0
  have E_v0_205 := E_v0_199.keep K205
  have E_s1_205 := E_s1_199.keep K205
  have F_coder_s1_205 := F_coder_s1_199.keep K205 nin0
  have F_value_s1_205 := F_value_s1_199.keep K205 nin0
  have V_v1_205 := V_v1_199.keep K205 nin0
  have E_v1_205 := E_v1_199.keep K205
  have V_b198_205 := V_b198_199.keep K205 nin0
  have E_b198_205 := E_b198_199.keep K205
  have Z205 : n0 ≤ T205.heap.size := Nat.le_trans Z199 K205.1
  have Kt205 := K199.trans K205 all0
  have N205 := Fr.app N202 Nq205
  show own_Fin _ _ _ _ (T205.setTop (mkF m 50 #[rv a1, rv a2, iv (0 : Int32)] [(.ref b_205), (.int (0 : Int32)), (.ref b198)]))
  obtain ⟨cl206, Ar206, qa206, Sa206, Na206, Ha206, Ga206⟩ := id V_b198_205
  have hin206 : ¬ ((0 : Int32) < 0 ∨ cl206.slots.size ≤ ((0 : Int32)).toNatClampNeg) := inb_of Sa206 ⟨by decide, by decide⟩
  obtain ⟨T207, h207, X207, e207, W207, st207⟩ := stR X205 hx hZ rfl Ar206 (j := (0 : Int32)) hin206 rfl (Sto.ofVA Ar206 qa206 O198 (Ins.self r205_1)) (g := (mkF m 50 #[rv a1, rv a2, iv (0 : Int32)] [(.ref b_205), (.int (0 : Int32)), (.ref b198)])) rfl rfl (hb hby d5_50)
  refine own_by st207 ?_
  have V_b198_207 : Arv Z h207 b198 k198 (.array .byte) (2 : Int32) [(.ref b_205), .null] .null := Arv.set Ar206 qa206 Sa206 Na206 Ha206 Ga206 rfl W207 0 rfl (Nat.le_of_ble_eq_true rfl)
  have Od207 := Od205.wr W207 g_b198
  have E_a1_207 := E_a1_205.wr W207
  have F_ids_a1_207 := F_ids_a1_205.other W207 (Or.inl ne_a1_b198)
  have F_none_a1_207 := F_none_a1_205.other W207 (Or.inl ne_a1_b198)
  have F_following_a1_207 := F_following_a1_205.other W207 (Or.inl ne_a1_b198)
  have F_last_a1_207 := F_last_a1_205.other W207 (Or.inl ne_a1_b198)
  have E_a2_207 := E_a2_205.wr W207
  have F_size_a2_207 := F_size_a2_205.other W207 (Or.inl ne_a2_b198)
  have F_elementData_a2_207 := F_elementData_a2_205.other W207 (Or.inl ne_a2_b198)
  have V_ed_207 := V_ed_205.other W207 ne_ed_b198
  have E_s0_207 := E_s0_205.wr W207
  have F_coder_s0_207 := F_coder_s0_205.other W207 (Or.inl ne_s0_b198)
  have F_value_s0_207 := F_value_s0_205.other W207 (Or.inl ne_s0_b198)
  have V_v0_207 := V_v0_205.other W207 ne_v0_b198
  have E_v0_207 := E_v0_205.wr W207
  have E_s1_207 := E_s1_205.wr W207
  have F_coder_s1_207 := F_coder_s1_205.other W207 (Or.inl ne_s1_b198)
  have F_value_s1_207 := F_value_s1_205.other W207 (Or.inl ne_s1_b198)
  have V_v1_207 := V_v1_205.other W207 ne_v1_b198
  have E_v1_207 := E_v1_205.wr W207
  have E_b198_207 := E_b198_205.wr W207
  have r205_0_207 := r205_0.other W207 (Ne.symm ne_b198_b_205)
  have r205_1_207 := r205_1.wr W207
  have N207 := Fr.snoc X207 N205 g_b198
  have Z207 : n0 ≤ h207.size := Nat.le_trans Z205 (Keep.of_wr W207).1
  have K207 := Kt205.wr W207 (Or.inr sz_b198)
  show own_Fin _ _ _ _ (T207.setTop (mkF m 51 #[rv a1, rv a2, iv (0 : Int32)] []))
  refine own_go (XS.iinc X207.here hx rfl (hb hby d5_51) rfl rfl (Steps.refl _)) ?_
  show own_Fin _ _ _ _ (T207.setTop (mkF m 54 #[rv a1, rv a2, iv (1 : Int32)] []))
  refine own_go (XS.goto X207.here hx rfl (pc0 := 54) (pc' := 19) rfl (hb hby d5_54) (by decide) (by decide) (Steps.refl _)) ?_
  show own_Fin _ _ _ _ (T207.setTop (mkF m 19 #[rv a1, rv a2, iv (1 : Int32)] []))
  refine own_go (XS.iloadN X207.here hx rfl (hb hby d5_19) rfl (Steps.refl _)) ?_
  show own_Fin _ _ _ _ (T207.setTop (mkF m 20 #[rv a1, rv a2, iv (1 : Int32)] [(.int (1 : Int32))]))
  refine own_go (XS.aloadN X207.here hx rfl (hb hby d5_20) rfl rfl (Steps.refl _)) ?_
  show own_Fin _ _ _ _ (T207.setTop (mkF m 21 #[rv a1, rv a2, iv (1 : Int32)] [(.ref a2), (.int (1 : Int32))]))
  obtain ⟨cq208, kq208, q208a, q208b, q208c⟩ := isOf hZ e207 E_a2_207
  obtain ⟨_, _, ⟨T208, L208, k208, n208⟩, -, X208, ⟨Lc208, hQ208, l208, y208, z208⟩, st208⟩ := X207.interfaceBack hx (xi := (⟨"java/util/List", "size", "()I"⟩ : MethodName)) (y := (⟨"java/util/ArrayList", "size", "()I"⟩ : MethodName)) hown (mvT hZ (hw _ (List.mem_of_getElem? (i := 33) rfl))) (mvT hZ (hw _ (List.mem_of_getElem? (i := 34) rfl))) (mvT hZ (hw _ (List.mem_of_getElem? (i := 35) rfl))) (mvT hZ (hw _ (List.mem_of_getElem? (i := 36) rfl))) (mvT hZ (hw _ (List.mem_of_getElem? (i := 37) rfl))) (mvT hZ (hw _ (List.mem_of_getElem? (i := 38) rfl))) (mvT hZ (hw _ (List.mem_of_getElem? (i := 39) rfl))) (mvT hZ (hw _ (List.mem_of_getElem? (i := 40) rfl))) (by decide) (backOf (W := 1) (rmsize l Z a0 hw [] a2 (2 : Int32) h207 n0 Z207 F_size_a2_207) hZ (hw _ (List.mem_of_getElem? (i := 41) rfl)) (hw _ (List.mem_of_getElem? (i := 2) rfl)) (by decide) (by decide)) q208a q208b q208c (g := (mkF m 21 #[rv a1, rv a2, iv (1 : Int32)] [(.ref a2), (.int (1 : Int32))])) rfl (by rw [hml]; rfl) (Steps.refl _) (argsL := []) (rest := [(.int (1 : Int32))]) (lenOf pd__28__29_I rfl) rfl (by show 2 * 0 + _ ≤ _; exact Nat.le_of_eq rfl) (hb hby d5_21) (fun _ _ => ⟨rfl, e207, (by decide : 2 + 0 ≤ _), (by decide : 3 + 0 ≤ _)⟩)
  dsimp only [Pt.U, Pt.locs, Pt.cells, Pt.slots] at X208 l208 y208 z208 st208 hQ208
  subst l208 y208 z208
  obtain ⟨rfl, Nq208, e208⟩ := hQ208
  refine own_go st208 ?_
  have N208 := Fr.app N207 Nq208
  show own_Fin _ _ _ _ (T208.setTop (mkF m 26 #[rv a1, rv a2, iv (1 : Int32)] [(.int (2 : Int32)), (.int (1 : Int32))]))
  refine own_go (XS.icmpNo X208.here hx rfl (hb hby d5_26) rfl (tlt (by decide : (1 : Int32) < (2 : Int32))).2.1 (Steps.refl _)) ?_
  show own_Fin _ _ _ _ (T208.setTop (mkF m 29 #[rv a1, rv a2, iv (1 : Int32)] []))
  refine own_go (XS.aloadN X208.here hx rfl (hb hby d5_29) rfl rfl (Steps.refl _)) ?_
  show own_Fin _ _ _ _ (T208.setTop (mkF m 30 #[rv a1, rv a2, iv (1 : Int32)] [(.ref a1)]))
  obtain ⟨T209, X209, e209, st209⟩ := getF X208 hx hZ hown (host := "") (Or.inl (hw _ (List.mem_of_getElem? (i := 46) rfl))) Via.refl e208 F_ids_a1_207 (g := (mkF m 30 #[rv a1, rv a2, iv (1 : Int32)] [(.ref a1)])) rfl rfl (hb hby d5_30)
  refine own_by st209 ?_
  show own_Fin _ _ _ _ (T209.setTop (mkF m 33 #[rv a1, rv a2, iv (1 : Int32)] [(.ref b198)]))
  refine own_go (XS.iloadN X209.here hx rfl (hb hby d5_33) rfl (Steps.refl _)) ?_
  show own_Fin _ _ _ _ (T209.setTop (mkF m 34 #[rv a1, rv a2, iv (1 : Int32)] [(.int (1 : Int32)), (.ref b198)]))
  refine own_go (XS.aloadN X209.here hx rfl (hb hby d5_34) rfl rfl (Steps.refl _)) ?_
  show own_Fin _ _ _ _ (T209.setTop (mkF m 35 #[rv a1, rv a2, iv (1 : Int32)] [(.ref a2), (.int (1 : Int32)), (.ref b198)]))
  refine own_go (XS.iloadN X209.here hx rfl (hb hby d5_35) rfl (Steps.refl _)) ?_
  show own_Fin _ _ _ _ (T209.setTop (mkF m 36 #[rv a1, rv a2, iv (1 : Int32)] [(.int (1 : Int32)), (.ref a2), (.int (1 : Int32)), (.ref b198)]))
  obtain ⟨cq210, kq210, q210a, q210b, q210c⟩ := isOf hZ e209 E_a2_207
  obtain ⟨_, _, ⟨T210, L210, k210, n210⟩, -, X210, ⟨Lc210, hQ210, l210, y210, z210⟩, st210⟩ := X209.interfaceBack hx (xi := (⟨"java/util/List", "get", "(I)Ljava/lang/Object;"⟩ : MethodName)) (y := (⟨"java/util/ArrayList", "get", "(I)Ljava/lang/Object;"⟩ : MethodName)) hown (mvT hZ (hw _ (List.mem_of_getElem? (i := 116) rfl))) (mvT hZ (hw _ (List.mem_of_getElem? (i := 117) rfl))) (mvT hZ (hw _ (List.mem_of_getElem? (i := 118) rfl))) (mvT hZ (hw _ (List.mem_of_getElem? (i := 119) rfl))) (mvT hZ (hw _ (List.mem_of_getElem? (i := 120) rfl))) (mvT hZ (hw _ (List.mem_of_getElem? (i := 121) rfl))) (mvT hZ (hw _ (List.mem_of_getElem? (i := 122) rfl))) (mvT hZ (hw _ (List.mem_of_getElem? (i := 40) rfl))) (by decide) (backOf (W := 2) (rmget_2_1 l Z a0 hw [] a2 ed ke s0 s1 h207 n0 Z207 E_a2_207 F_size_a2_207 F_elementData_a2_207 V_ed_207) hZ (hw _ (List.mem_of_getElem? (i := 123) rfl)) (hw _ (List.mem_of_getElem? (i := 2) rfl)) (by decide) (by decide)) q210a q210b q210c (g := (mkF m 36 #[rv a1, rv a2, iv (1 : Int32)] [(.int (1 : Int32)), (.ref a2), (.int (1 : Int32)), (.ref b198)])) rfl (by rw [hml]; rfl) (Steps.refl _) (argsL := [(.int (1 : Int32))]) (rest := [(.int (1 : Int32)), (.ref b198)]) (lenOf pd__28_I_29_Ljava_2f_lang_2f_Object_3b_ rfl) rfl (by show 2 * 0 + _ ≤ _; exact Nat.le_of_eq rfl) (hb hby d5_36) (fun _ _ => ⟨rfl, e209, (by decide : 2 + 0 ≤ _), (by decide : 3 + 0 ≤ _)⟩)
  dsimp only [Pt.U, Pt.locs, Pt.cells, Pt.slots] at X210 l210 y210 z210 st210 hQ210
  subst l210 y210 z210
  obtain ⟨rfl, Nq210, e210⟩ := hQ210
  refine own_go st210 ?_
  have N210 := Fr.app N208 Nq210
  show own_Fin _ _ _ _ (T210.setTop (mkF m 41 #[rv a1, rv a2, iv (1 : Int32)] [(.ref s1), (.int (1 : Int32)), (.ref b198)]))
  obtain ⟨T211, X211, e211, st211⟩ := castY X210 hx hZ hown (hw _ (List.mem_of_getElem? (i := 137) rfl)) e210 (Ins.self E_s1_207) (g := (mkF m 41 #[rv a1, rv a2, iv (1 : Int32)] [(.ref s1), (.int (1 : Int32)), (.ref b198)])) rfl rfl (hb hby d5_41)
  refine own_by st211 ?_
  show own_Fin _ _ _ _ (T211.setTop (mkF m 44 #[rv a1, rv a2, iv (1 : Int32)] [(.ref s1), (.int (1 : Int32)), (.ref b198)]))
  obtain ⟨T212, X212, e212, st212⟩ := getS2 X211 hx hZ hown (host := "") (Or.inl (hw _ (List.mem_of_getElem? (i := 139) rfl))) Via.refl e211 (S_UTF_8.ext Od207.2) (g := (mkF m 44 #[rv a1, rv a2, iv (1 : Int32)] [(.ref s1), (.int (1 : Int32)), (.ref b198)])) rfl (hb hby d5_44)
  refine own_by st212 ?_
  show own_Fin _ _ _ _ (T212.setTop (mkF m 47 #[rv a1, rv a2, iv (1 : Int32)] [(.ref u), (.ref s1), (.int (1 : Int32)), (.ref b198)]))
  obtain ⟨cq213, kq213, q213a, q213b, q213c⟩ := isOf hZ e212 E_s1_207
  obtain ⟨_, _, ⟨T213, L213, k213, n213⟩, -, X213, ⟨Lc213, hQ213, l213, y213, z213⟩, st213⟩ := X212.virtualBack hx (y := (⟨"java/lang/String", "getBytes", "(Ljava/nio/charset/Charset;)[B"⟩ : MethodName)) (z := (⟨"java/lang/String", "getBytes", "(Ljava/nio/charset/Charset;)[B"⟩ : MethodName)) hown (mvT hZ (hw _ (List.mem_of_getElem? (i := 141) rfl))) (mvT hZ (hw _ (List.mem_of_getElem? (i := 142) rfl))) (notFace_of_selects (args := #[]) (mvT hZ (hw _ (List.mem_of_getElem? (i := 144) rfl)))) (mvT hZ (hw _ (List.mem_of_getElem? (i := 144) rfl))) (mvT hZ (hw _ (List.mem_of_getElem? (i := 143) rfl))) (by decide) (backOf (W := 2) (rmgb l Z a0 hw [] s1 u v1 q1 (98 : Int32) cs h207 n0 Z207 E_s1_207 F_coder_s1_207 F_value_s1_207 V_v1_207 E_v1_207 (by decide) S_INSTANCE S_COMPACT_STRINGS Od207 hcs) hZ (hw _ (List.mem_of_getElem? (i := 145) rfl)) (hw _ (List.mem_of_getElem? (i := 78) rfl)) (by decide) (by decide)) q213a q213c (g := (mkF m 47 #[rv a1, rv a2, iv (1 : Int32)] [(.ref u), (.ref s1), (.int (1 : Int32)), (.ref b198)])) rfl (by rw [hml]; rfl) (Steps.refl _) (argsL := [(.ref u)]) (rest := [(.int (1 : Int32)), (.ref b198)]) (lenOf pd__28_Ljava_2f_nio_2f_charset_2f_Charset_3b__29__5b_B rfl) rfl (by show 2 * 0 + _ ≤ _; exact Nat.le_of_eq rfl) (hb hby d5_47) (fun _ _ => ⟨rfl, e212, (by decide : 2 + 1 ≤ _), (by decide : 3 + 1 ≤ _)⟩)
  dsimp only [Pt.U, Pt.locs, Pt.cells, Pt.slots] at X213 l213 y213 z213 st213 hQ213
  subst l213 y213 z213
  refine own_go st213 ?_
  obtain ⟨b_213, rfl, Nq213, K213, g_b_213, sb_b_213, r213_0, r213_1⟩ := hQ213
  have ne_a1_b_213 : a1 ≠ b_213 := Nat.ne_of_lt (Nat.lt_of_lt_of_le E_a1_207.lt sb_b_213)
  have ne_a2_b_213 : a2 ≠ b_213 := Nat.ne_of_lt (Nat.lt_of_lt_of_le E_a2_207.lt sb_b_213)
  have ne_ed_b_213 : ed ≠ b_213 := Nat.ne_of_lt (Nat.lt_of_lt_of_le V_ed_207.lt sb_b_213)
  have ne_s0_b_213 : s0 ≠ b_213 := Nat.ne_of_lt (Nat.lt_of_lt_of_le E_s0_207.lt sb_b_213)
  have ne_v0_b_213 : v0 ≠ b_213 := Nat.ne_of_lt (Nat.lt_of_lt_of_le V_v0_207.lt sb_b_213)
  have ne_s1_b_213 : s1 ≠ b_213 := Nat.ne_of_lt (Nat.lt_of_lt_of_le E_s1_207.lt sb_b_213)
  have ne_v1_b_213 : v1 ≠ b_213 := Nat.ne_of_lt (Nat.lt_of_lt_of_le V_v1_207.lt sb_b_213)
  have ne_b198_b_213 : b198 ≠ b_213 := Nat.ne_of_lt (Nat.lt_of_lt_of_le V_b198_207.lt sb_b_213)
  have ne_b_205_b_213 : b_205 ≠ b_213 := Nat.ne_of_lt (Nat.lt_of_lt_of_le r205_0_207.lt sb_b_213)
  have sz_b_213 : h0.size ≤ b_213 := Nat.le_trans K207.1 sb_b_213
  have Od213 := Od207.keep K213 all0
  have E_a1_213 := E_a1_207.keep K213
  have F_ids_a1_213 := F_ids_a1_207.keep K213 nin0
  have F_none_a1_213 := F_none_a1_207.keep K213 nin0
  have F_following_a1_213 := F_following_a1_207.keep K213 nin0
  have F_last_a1_213 := F_last_a1_207.keep K213 nin0
  have E_a2_213 := E_a2_207.keep K213
  have F_size_a2_213 := F_size_a2_207.keep K213 nin0
  have F_elementData_a2_213 := F_elementData_a2_207.keep K213 nin0
  have V_ed_213 := V_ed_207.keep K213 nin0
  have E_s0_213 := E_s0_207.keep K213
  have F_coder_s0_213 := F_coder_s0_207.keep K213 nin0
  have F_value_s0_213 := F_value_s0_207.keep K213 nin0
  have V_v0_213 := V_v0_207.keep K213 nin0
  have E_v0_213 := E_v0_207.keep K213
  have E_s1_213 := E_s1_207.keep K213
  have F_coder_s1_213 := F_coder_s1_207.keep K213 nin0
  have F_value_s1_213 := F_value_s1_207.keep K213 nin0
  have V_v1_213 := V_v1_207.keep K213 nin0
  have E_v1_213 := E_v1_207.keep K213
  have V_b198_213 := V_b198_207.keep K213 nin0
  have E_b198_213 := E_b198_207.keep K213
  have r205_0_213 := r205_0_207.keep K213 nin0
  have r205_1_213 := r205_1_207.keep K213
  have Z213 : n0 ≤ T213.heap.size := Nat.le_trans Z207 K213.1
  have Kt213 := K207.trans K213 all0
  have N213 := Fr.app N210 Nq213
  show own_Fin _ _ _ _ (T213.setTop (mkF m 50 #[rv a1, rv a2, iv (1 : Int32)] [(.ref b_213), (.int (1 : Int32)), (.ref b198)]))
  obtain ⟨cl214, Ar214, qa214, Sa214, Na214, Ha214, Ga214⟩ := id V_b198_213
  have hin214 : ¬ ((1 : Int32) < 0 ∨ cl214.slots.size ≤ ((1 : Int32)).toNatClampNeg) := inb_of Sa214 ⟨by decide, by decide⟩
  obtain ⟨T215, h215, X215, e215, W215, st215⟩ := stR X213 hx hZ rfl Ar214 (j := (1 : Int32)) hin214 rfl (Sto.ofVA Ar214 qa214 O198 (Ins.self r213_1)) (g := (mkF m 50 #[rv a1, rv a2, iv (1 : Int32)] [(.ref b_213), (.int (1 : Int32)), (.ref b198)])) rfl rfl (hb hby d5_50)
  refine own_by st215 ?_
  have V_b198_215 : Arv Z h215 b198 k198 (.array .byte) (2 : Int32) [(.ref b_205), (.ref b_213)] .null := Arv.set Ar214 qa214 Sa214 Na214 Ha214 Ga214 rfl W215 1 rfl (Nat.le_of_ble_eq_true rfl)
  have Od215 := Od213.wr W215 g_b198
  have E_a1_215 := E_a1_213.wr W215
  have F_ids_a1_215 := F_ids_a1_213.other W215 (Or.inl ne_a1_b198)
  have F_none_a1_215 := F_none_a1_213.other W215 (Or.inl ne_a1_b198)
  have F_following_a1_215 := F_following_a1_213.other W215 (Or.inl ne_a1_b198)
  have F_last_a1_215 := F_last_a1_213.other W215 (Or.inl ne_a1_b198)
  have E_a2_215 := E_a2_213.wr W215
  have F_size_a2_215 := F_size_a2_213.other W215 (Or.inl ne_a2_b198)
  have F_elementData_a2_215 := F_elementData_a2_213.other W215 (Or.inl ne_a2_b198)
  have V_ed_215 := V_ed_213.other W215 ne_ed_b198
  have E_s0_215 := E_s0_213.wr W215
  have F_coder_s0_215 := F_coder_s0_213.other W215 (Or.inl ne_s0_b198)
  have F_value_s0_215 := F_value_s0_213.other W215 (Or.inl ne_s0_b198)
  have V_v0_215 := V_v0_213.other W215 ne_v0_b198
  have E_v0_215 := E_v0_213.wr W215
  have E_s1_215 := E_s1_213.wr W215
  have F_coder_s1_215 := F_coder_s1_213.other W215 (Or.inl ne_s1_b198)
  have F_value_s1_215 := F_value_s1_213.other W215 (Or.inl ne_s1_b198)
  have V_v1_215 := V_v1_213.other W215 ne_v1_b198
  have E_v1_215 := E_v1_213.wr W215
  have E_b198_215 := E_b198_213.wr W215
  have r205_0_215 := r205_0_213.other W215 (Ne.symm ne_b198_b_205)
  have r205_1_215 := r205_1_213.wr W215
  have r213_0_215 := r213_0.other W215 (Ne.symm ne_b198_b_213)
  have r213_1_215 := r213_1.wr W215
  have N215 := Fr.snoc X215 N213 g_b198
  have Z215 : n0 ≤ h215.size := Nat.le_trans Z213 (Keep.of_wr W215).1
  have K215 := Kt213.wr W215 (Or.inr sz_b198)
  show own_Fin _ _ _ _ (T215.setTop (mkF m 51 #[rv a1, rv a2, iv (1 : Int32)] []))
  refine own_go (XS.iinc X215.here hx rfl (hb hby d5_51) rfl rfl (Steps.refl _)) ?_
  show own_Fin _ _ _ _ (T215.setTop (mkF m 54 #[rv a1, rv a2, iv (2 : Int32)] []))
  refine own_go (XS.goto X215.here hx rfl (pc0 := 54) (pc' := 19) rfl (hb hby d5_54) (by decide) (by decide) (Steps.refl _)) ?_
  show own_Fin _ _ _ _ (T215.setTop (mkF m 19 #[rv a1, rv a2, iv (2 : Int32)] []))
  refine own_go (XS.iloadN X215.here hx rfl (hb hby d5_19) rfl (Steps.refl _)) ?_
  show own_Fin _ _ _ _ (T215.setTop (mkF m 20 #[rv a1, rv a2, iv (2 : Int32)] [(.int (2 : Int32))]))
  refine own_go (XS.aloadN X215.here hx rfl (hb hby d5_20) rfl rfl (Steps.refl _)) ?_
  show own_Fin _ _ _ _ (T215.setTop (mkF m 21 #[rv a1, rv a2, iv (2 : Int32)] [(.ref a2), (.int (2 : Int32))]))
  obtain ⟨cq216, kq216, q216a, q216b, q216c⟩ := isOf hZ e215 E_a2_215
  obtain ⟨_, _, ⟨T216, L216, k216, n216⟩, -, X216, ⟨Lc216, hQ216, l216, y216, z216⟩, st216⟩ := X215.interfaceBack hx (xi := (⟨"java/util/List", "size", "()I"⟩ : MethodName)) (y := (⟨"java/util/ArrayList", "size", "()I"⟩ : MethodName)) hown (mvT hZ (hw _ (List.mem_of_getElem? (i := 33) rfl))) (mvT hZ (hw _ (List.mem_of_getElem? (i := 34) rfl))) (mvT hZ (hw _ (List.mem_of_getElem? (i := 35) rfl))) (mvT hZ (hw _ (List.mem_of_getElem? (i := 36) rfl))) (mvT hZ (hw _ (List.mem_of_getElem? (i := 37) rfl))) (mvT hZ (hw _ (List.mem_of_getElem? (i := 38) rfl))) (mvT hZ (hw _ (List.mem_of_getElem? (i := 39) rfl))) (mvT hZ (hw _ (List.mem_of_getElem? (i := 40) rfl))) (by decide) (backOf (W := 1) (rmsize l Z a0 hw [] a2 (2 : Int32) h215 n0 Z215 F_size_a2_215) hZ (hw _ (List.mem_of_getElem? (i := 41) rfl)) (hw _ (List.mem_of_getElem? (i := 2) rfl)) (by decide) (by decide)) q216a q216b q216c (g := (mkF m 21 #[rv a1, rv a2, iv (2 : Int32)] [(.ref a2), (.int (2 : Int32))])) rfl (by rw [hml]; rfl) (Steps.refl _) (argsL := []) (rest := [(.int (2 : Int32))]) (lenOf pd__28__29_I rfl) rfl (by show 2 * 0 + _ ≤ _; exact Nat.le_of_eq rfl) (hb hby d5_21) (fun _ _ => ⟨rfl, e215, (by decide : 3 + 0 ≤ _), (by decide : 4 + 0 ≤ _)⟩)
  dsimp only [Pt.U, Pt.locs, Pt.cells, Pt.slots] at X216 l216 y216 z216 st216 hQ216
  subst l216 y216 z216
  obtain ⟨rfl, Nq216, e216⟩ := hQ216
  refine own_go st216 ?_
  have N216 := Fr.app N215 Nq216
  show own_Fin _ _ _ _ (T216.setTop (mkF m 26 #[rv a1, rv a2, iv (2 : Int32)] [(.int (2 : Int32)), (.int (2 : Int32))]))
  refine own_go (XS.icmpYes X216.here hx rfl (pc0 := 26) (pc' := 57) rfl (hb hby d5_26) rfl (flt (by decide : ¬ ((2 : Int32) < (2 : Int32)))).2.1 (by decide) (by decide) (Steps.refl _)) ?_
  show own_Fin _ _ _ _ (T216.setTop (mkF m 57 #[rv a1, rv a2, iv (2 : Int32)] []))
  refine own_go (XS.aloadN X216.here hx rfl (hb hby d5_57) rfl rfl (Steps.refl _)) ?_
  show own_Fin _ _ _ _ (T216.setTop (mkF m 58 #[rv a1, rv a2, iv (2 : Int32)] [(.ref a1)]))
  refine own_go (XS.aloadN X216.here hx rfl (hb hby d5_58) rfl rfl (Steps.refl _)) ?_
  show own_Fin _ _ _ _ (T216.setTop (mkF m 59 #[rv a1, rv a2, iv (2 : Int32)] [(.ref a2), (.ref a1)]))
  obtain ⟨cq217, kq217, q217a, q217b, q217c⟩ := isOf hZ e216 E_a2_215
  obtain ⟨_, _, ⟨T217, L217, k217, n217⟩, -, X217, ⟨Lc217, hQ217, l217, y217, z217⟩, st217⟩ := X216.interfaceBack hx (xi := (⟨"java/util/List", "size", "()I"⟩ : MethodName)) (y := (⟨"java/util/ArrayList", "size", "()I"⟩ : MethodName)) hown (mvT hZ (hw _ (List.mem_of_getElem? (i := 33) rfl))) (mvT hZ (hw _ (List.mem_of_getElem? (i := 34) rfl))) (mvT hZ (hw _ (List.mem_of_getElem? (i := 35) rfl))) (mvT hZ (hw _ (List.mem_of_getElem? (i := 36) rfl))) (mvT hZ (hw _ (List.mem_of_getElem? (i := 37) rfl))) (mvT hZ (hw _ (List.mem_of_getElem? (i := 38) rfl))) (mvT hZ (hw _ (List.mem_of_getElem? (i := 39) rfl))) (mvT hZ (hw _ (List.mem_of_getElem? (i := 40) rfl))) (by decide) (backOf (W := 1) (rmsize l Z a0 hw [] a2 (2 : Int32) h215 n0 Z215 F_size_a2_215) hZ (hw _ (List.mem_of_getElem? (i := 41) rfl)) (hw _ (List.mem_of_getElem? (i := 2) rfl)) (by decide) (by decide)) q217a q217b q217c (g := (mkF m 59 #[rv a1, rv a2, iv (2 : Int32)] [(.ref a2), (.ref a1)])) rfl (by rw [hml]; rfl) (Steps.refl _) (argsL := []) (rest := [(.ref a1)]) (lenOf pd__28__29_I rfl) rfl (by show 2 * 0 + _ ≤ _; exact Nat.le_of_eq rfl) (hb hby d5_59) (fun _ _ => ⟨rfl, e216, (by decide : 3 + 0 ≤ _), (by decide : 4 + 0 ≤ _)⟩)
  dsimp only [Pt.U, Pt.locs, Pt.cells, Pt.slots] at X217 l217 y217 z217 st217 hQ217
  subst l217 y217 z217
  obtain ⟨rfl, Nq217, e217⟩ := hQ217
  refine own_go st217 ?_
  have N217 := Fr.app N216 Nq217
  show own_Fin _ _ _ _ (T217.setTop (mkF m 64 #[rv a1, rv a2, iv (2 : Int32)] [(.int (2 : Int32)), (.ref a1)]))
  obtain ⟨T218, h218, X218, e218, W218, st218⟩ := putF X217 hx hZ hown (host := "") (Or.inl (hw _ (List.mem_of_getElem? (i := 48) rfl))) Via.refl e217 F_none_a1_215 E_a1_215 (Or.inr ⟨(hw _ (List.mem_of_getElem? (i := 49) rfl)), rfl, hnm⟩) (hw _ (List.mem_of_getElem? (i := 27) rfl)) (ty := .int) (by decide) rfl rfl (g := (mkF m 64 #[rv a1, rv a2, iv (2 : Int32)] [(.int (2 : Int32)), (.ref a1)])) rfl rfl (hb hby d5_64)
  refine own_by st218 ?_
  have F_none_a1_218 := F_none_a1_215.same W218
  have Od218 := Od215.wr W218 g_a1
  have E_a1_218 := E_a1_215.wr W218
  have F_ids_a1_218 := F_ids_a1_215.other W218 (Or.inr (slot_ne (Or.inr (hw _ (List.mem_of_getElem? (i := 47) rfl))) (Or.inr (hw _ (List.mem_of_getElem? (i := 49) rfl))) (by decide) (t := (.array (.array .byte))) (t' := .int) (by decide) (by decide)))
  have F_following_a1_218 := F_following_a1_215.other W218 (Or.inr (slot_ne (Or.inr (hw _ (List.mem_of_getElem? (i := 52) rfl))) (Or.inr (hw _ (List.mem_of_getElem? (i := 49) rfl))) (by decide) (t := (.array .int)) (t' := .int) (by decide) (by decide)))
  have F_last_a1_218 := F_last_a1_215.other W218 (Or.inr (slot_ne (Or.inl (hw _ (List.mem_of_getElem? (i := 58) rfl))) (Or.inr (hw _ (List.mem_of_getElem? (i := 49) rfl))) (by decide) (t := .int) (t' := .int) (by decide) (by decide)))
  have E_a2_218 := E_a2_215.wr W218
  have F_size_a2_218 := F_size_a2_215.other W218 (Or.inl (Exa.ne E_a2_215 E_a1_215 (by decide)))
  have F_elementData_a2_218 := F_elementData_a2_215.other W218 (Or.inl (Exa.ne E_a2_215 E_a1_215 (by decide)))
  have V_ed_218 := V_ed_215.other W218 (Ne.symm (Exa.neArv E_a1_215 V_ed_215 (hw _ (List.mem_of_getElem? (i := 27) rfl))))
  have E_s0_218 := E_s0_215.wr W218
  have F_coder_s0_218 := F_coder_s0_215.other W218 (Or.inl (Exa.ne E_s0_215 E_a1_215 (by decide)))
  have F_value_s0_218 := F_value_s0_215.other W218 (Or.inl (Exa.ne E_s0_215 E_a1_215 (by decide)))
  have V_v0_218 := V_v0_215.other W218 (Exa.ne E_v0_215 E_a1_215 (by decide))
  have E_v0_218 := E_v0_215.wr W218
  have E_s1_218 := E_s1_215.wr W218
  have F_coder_s1_218 := F_coder_s1_215.other W218 (Or.inl (Exa.ne E_s1_215 E_a1_215 (by decide)))
  have F_value_s1_218 := F_value_s1_215.other W218 (Or.inl (Exa.ne E_s1_215 E_a1_215 (by decide)))
  have V_v1_218 := V_v1_215.other W218 (Exa.ne E_v1_215 E_a1_215 (by decide))
  have E_v1_218 := E_v1_215.wr W218
  have V_b198_218 := V_b198_215.other W218 (Ne.symm ne_a1_b198)
  have E_b198_218 := E_b198_215.wr W218
  have r205_0_218 := r205_0_215.other W218 (Ne.symm ne_a1_b_205)
  have r205_1_218 := r205_1_215.wr W218
  have r213_0_218 := r213_0_215.other W218 (Ne.symm ne_a1_b_213)
  have r213_1_218 := r213_1_215.wr W218
  have N218 := Fr.snoc X218 N217 g_a1
  have Z218 : n0 ≤ h218.size := Nat.le_trans Z215 (Keep.of_wr W218).1
  have K218 := K215.wr W218 (Or.inl (List.mem_of_getElem? (i := 0) rfl))
  show own_Fin _ _ _ _ (T218.setTop (mkF m 67 #[rv a1, rv a2, iv (2 : Int32)] []))
  refine own_go (XS.aloadN X218.here hx rfl (hb hby d5_67) rfl rfl (Steps.refl _)) ?_
  show own_Fin _ _ _ _ (T218.setTop (mkF m 68 #[rv a1, rv a2, iv (2 : Int32)] [(.ref a1)]))
  refine own_go (XS.aloadN X218.here hx rfl (hb hby d5_68) rfl rfl (Steps.refl _)) ?_
  show own_Fin _ _ _ _ (T218.setTop (mkF m 69 #[rv a1, rv a2, iv (2 : Int32)] [(.ref a1), (.ref a1)]))
  obtain ⟨T219, X219, e219, st219⟩ := getF X218 hx hZ hown (host := "") (Or.inl (hw _ (List.mem_of_getElem? (i := 48) rfl))) Via.refl e218 F_none_a1_218 (g := (mkF m 69 #[rv a1, rv a2, iv (2 : Int32)] [(.ref a1), (.ref a1)])) rfl rfl (hb hby d5_69)
  refine own_by st219 ?_
  show own_Fin _ _ _ _ (T219.setTop (mkF m 72 #[rv a1, rv a2, iv (2 : Int32)] [(.int (2 : Int32)), (.ref a1)]))
  refine own_go (XS.iconst X219.here hx rfl (hb hby d5_72) (Steps.refl _)) ?_
  show own_Fin _ _ _ _ (T219.setTop (mkF m 73 #[rv a1, rv a2, iv (2 : Int32)] [(.int (1 : Int32)), (.int (2 : Int32)), (.ref a1)]))
  refine own_go (XS.iadd X219.here hx rfl (hb hby d5_73) rfl (Steps.refl _)) ?_
  show own_Fin _ _ _ _ (T219.setTop (mkF m 74 #[rv a1, rv a2, iv (2 : Int32)] [(.int (3 : Int32)), (.ref a1)]))
  obtain ⟨T220, h220, k220, X220, e220, E220, A220, st220⟩ := newP X219 hx hZ (hw _ (List.mem_of_getElem? (i := 50) rfl)) e219 (g := (mkF m 74 #[rv a1, rv a2, iv (2 : Int32)] [(.int (3 : Int32)), (.ref a1)])) rfl (hb hby d5_74) rfl (by decide) (cap := 3) (by decide) (by decide) (by decide) (by decide)
  obtain ⟨b220, g220⟩ : ∃ z, z = h218.size := ⟨_, rfl⟩
  rw [← g220] at A220 st220
  refine own_by st220 ?_
  have ne_a1_b220 : a1 ≠ b220 := Nat.ne_of_lt (Nat.lt_of_lt_of_eq E_a1_218.lt g220.symm)
  have ne_a2_b220 : a2 ≠ b220 := Nat.ne_of_lt (Nat.lt_of_lt_of_eq E_a2_218.lt g220.symm)
  have ne_ed_b220 : ed ≠ b220 := Nat.ne_of_lt (Nat.lt_of_lt_of_eq V_ed_218.lt g220.symm)
  have ne_s0_b220 : s0 ≠ b220 := Nat.ne_of_lt (Nat.lt_of_lt_of_eq E_s0_218.lt g220.symm)
  have ne_v0_b220 : v0 ≠ b220 := Nat.ne_of_lt (Nat.lt_of_lt_of_eq V_v0_218.lt g220.symm)
  have ne_s1_b220 : s1 ≠ b220 := Nat.ne_of_lt (Nat.lt_of_lt_of_eq E_s1_218.lt g220.symm)
  have ne_v1_b220 : v1 ≠ b220 := Nat.ne_of_lt (Nat.lt_of_lt_of_eq V_v1_218.lt g220.symm)
  have ne_b198_b220 : b198 ≠ b220 := Nat.ne_of_lt (Nat.lt_of_lt_of_eq V_b198_218.lt g220.symm)
  have ne_b_205_b220 : b_205 ≠ b220 := Nat.ne_of_lt (Nat.lt_of_lt_of_eq r205_0_218.lt g220.symm)
  have ne_b_213_b220 : b_213 ≠ b220 := Nat.ne_of_lt (Nat.lt_of_lt_of_eq r213_0_218.lt g220.symm)
  have Od220 := Od218.ext E220
  have E_a1_220 := E_a1_218.ext E220
  have F_ids_a1_220 := F_ids_a1_218.ext E220
  have F_none_a1_220 := F_none_a1_218.ext E220
  have F_following_a1_220 := F_following_a1_218.ext E220
  have F_last_a1_220 := F_last_a1_218.ext E220
  have E_a2_220 := E_a2_218.ext E220
  have F_size_a2_220 := F_size_a2_218.ext E220
  have F_elementData_a2_220 := F_elementData_a2_218.ext E220
  have V_ed_220 := V_ed_218.ext E220
  have E_s0_220 := E_s0_218.ext E220
  have F_coder_s0_220 := F_coder_s0_218.ext E220
  have F_value_s0_220 := F_value_s0_218.ext E220
  have V_v0_220 := V_v0_218.ext E220
  have E_v0_220 := E_v0_218.ext E220
  have E_s1_220 := E_s1_218.ext E220
  have F_coder_s1_220 := F_coder_s1_218.ext E220
  have F_value_s1_220 := F_value_s1_218.ext E220
  have V_v1_220 := V_v1_218.ext E220
  have E_v1_220 := E_v1_218.ext E220
  have V_b198_220 := V_b198_218.ext E220
  have E_b198_220 := E_b198_218.ext E220
  have r205_0_220 := r205_0_218.ext E220
  have r205_1_220 := r205_1_218.ext E220
  have r213_0_220 := r213_0_218.ext E220
  have r213_1_220 := r213_1_218.ext E220
  have g_b220 : n0 ≤ b220 := Nat.le_trans Z218 (Nat.le_of_eq g220.symm)
  have sz_b220 : h0.size ≤ b220 := Nat.le_trans K218.1 (Nat.le_of_eq g220.symm)
  have K220 := K218.ext E220
  have Z220 : n0 ≤ h220.size := Nat.le_trans Z218 E220.1
  have V_b220 : Arv Z h220 b220 k220 .int (3 : Int32) [(.int (0 : Int32)), (.int (0 : Int32)), (.int (0 : Int32))] (.int (0 : Int32)) := (Arv.new A220 (by decide)).pad (pad_rep [] (.int (0 : Int32)) 3)
  show own_Fin _ _ _ _ (T220.setTop (mkF m 76 #[rv a1, rv a2, iv (2 : Int32)] [(.ref b220), (.ref a1)]))
  obtain ⟨T221, h221, X221, e221, W221, st221⟩ := putF X220 hx hZ hown (host := "") (Or.inl (hw _ (List.mem_of_getElem? (i := 51) rfl))) Via.refl e220 F_following_a1_220 E_a1_220 (Or.inr ⟨(hw _ (List.mem_of_getElem? (i := 52) rfl)), rfl, hnm⟩) (hw _ (List.mem_of_getElem? (i := 27) rfl)) (ty := (.array .int)) (by decide) rfl rfl (g := (mkF m 76 #[rv a1, rv a2, iv (2 : Int32)] [(.ref b220), (.ref a1)])) rfl rfl (hb hby d5_76)
  refine own_by st221 ?_
  have F_following_a1_221 := F_following_a1_220.same W221
  have Od221 := Od220.wr W221 g_a1
  have E_a1_221 := E_a1_220.wr W221
  have F_ids_a1_221 := F_ids_a1_220.other W221 (Or.inr (slot_ne (Or.inr (hw _ (List.mem_of_getElem? (i := 47) rfl))) (Or.inr (hw _ (List.mem_of_getElem? (i := 52) rfl))) (by decide) (t := (.array (.array .byte))) (t' := (.array .int)) (by decide) (by decide)))
  have F_none_a1_221 := F_none_a1_220.other W221 (Or.inr (slot_ne (Or.inr (hw _ (List.mem_of_getElem? (i := 49) rfl))) (Or.inr (hw _ (List.mem_of_getElem? (i := 52) rfl))) (by decide) (t := .int) (t' := (.array .int)) (by decide) (by decide)))
  have F_last_a1_221 := F_last_a1_220.other W221 (Or.inr (slot_ne (Or.inl (hw _ (List.mem_of_getElem? (i := 58) rfl))) (Or.inr (hw _ (List.mem_of_getElem? (i := 52) rfl))) (by decide) (t := .int) (t' := (.array .int)) (by decide) (by decide)))
  have E_a2_221 := E_a2_220.wr W221
  have F_size_a2_221 := F_size_a2_220.other W221 (Or.inl (Exa.ne E_a2_220 E_a1_220 (by decide)))
  have F_elementData_a2_221 := F_elementData_a2_220.other W221 (Or.inl (Exa.ne E_a2_220 E_a1_220 (by decide)))
  have V_ed_221 := V_ed_220.other W221 (Ne.symm (Exa.neArv E_a1_220 V_ed_220 (hw _ (List.mem_of_getElem? (i := 27) rfl))))
  have E_s0_221 := E_s0_220.wr W221
  have F_coder_s0_221 := F_coder_s0_220.other W221 (Or.inl (Exa.ne E_s0_220 E_a1_220 (by decide)))
  have F_value_s0_221 := F_value_s0_220.other W221 (Or.inl (Exa.ne E_s0_220 E_a1_220 (by decide)))
  have V_v0_221 := V_v0_220.other W221 (Exa.ne E_v0_220 E_a1_220 (by decide))
  have E_v0_221 := E_v0_220.wr W221
  have E_s1_221 := E_s1_220.wr W221
  have F_coder_s1_221 := F_coder_s1_220.other W221 (Or.inl (Exa.ne E_s1_220 E_a1_220 (by decide)))
  have F_value_s1_221 := F_value_s1_220.other W221 (Or.inl (Exa.ne E_s1_220 E_a1_220 (by decide)))
  have V_v1_221 := V_v1_220.other W221 (Exa.ne E_v1_220 E_a1_220 (by decide))
  have E_v1_221 := E_v1_220.wr W221
  have V_b198_221 := V_b198_220.other W221 (Ne.symm ne_a1_b198)
  have E_b198_221 := E_b198_220.wr W221
  have r205_0_221 := r205_0_220.other W221 (Ne.symm ne_a1_b_205)
  have r205_1_221 := r205_1_220.wr W221
  have r213_0_221 := r213_0_220.other W221 (Ne.symm ne_a1_b_213)
  have r213_1_221 := r213_1_220.wr W221
  have V_b220_221 := V_b220.other W221 (Ne.symm ne_a1_b220)
  have N221 := Fr.snoc X221 N218 g_a1
  have Z221 : n0 ≤ h221.size := Nat.le_trans Z220 (Keep.of_wr W221).1
  have K221 := K220.wr W221 (Or.inl (List.mem_of_getElem? (i := 0) rfl))
  show own_Fin _ _ _ _ (T221.setTop (mkF m 79 #[rv a1, rv a2, iv (2 : Int32)] []))
  refine own_go (XS.aloadN X221.here hx rfl (hb hby d5_79) rfl rfl (Steps.refl _)) ?_
  show own_Fin _ _ _ _ (T221.setTop (mkF m 80 #[rv a1, rv a2, iv (2 : Int32)] [(.ref a1)]))
  obtain ⟨T222, X222, e222, st222⟩ := getF X221 hx hZ hown (host := "") (Or.inl (hw _ (List.mem_of_getElem? (i := 51) rfl))) Via.refl e221 F_following_a1_221 (g := (mkF m 80 #[rv a1, rv a2, iv (2 : Int32)] [(.ref a1)])) rfl rfl (hb hby d5_80)
  refine own_by st222 ?_
  show own_Fin _ _ _ _ (T222.setTop (mkF m 83 #[rv a1, rv a2, iv (2 : Int32)] [(.ref b220)]))
  refine own_go (XS.iconst X222.here hx rfl (hb hby d5_83) (Steps.refl _)) ?_
  show own_Fin _ _ _ _ (T222.setTop (mkF m 84 #[rv a1, rv a2, iv (2 : Int32)] [(.int (-1 : Int32)), (.ref b220)]))
  obtain ⟨_, _, ⟨T223, L223, k223, n223⟩, -, X223, ⟨Lc223, hQ223, l223, y223, z223⟩, st223⟩ := Jvm.LawKit.callS X222 hx (y := (⟨"java/util/Arrays", "fill", "([II)V"⟩ : MethodName)) hown (mvT hZ (hw _ (List.mem_of_getElem? (i := 53) rfl))) (mvT hZ (hw _ (List.mem_of_getElem? (i := 54) rfl))) (mvT hZ (hw _ (List.mem_of_getElem? (i := 55) rfl))) (mvT hZ (hw _ (List.mem_of_getElem? (i := 56) rfl))) (by decide) (backOf (W := 0) (rmfill_3 l Z a0 hw [] b220 k220 h221 n0 Z221 V_b220_221 g_b220) hZ (hw _ (List.mem_of_getElem? (i := 56) rfl)) (hw _ (List.mem_of_getElem? (i := 55) rfl)) (by decide) (by decide)) (g := (mkF m 84 #[rv a1, rv a2, iv (2 : Int32)] [(.int (-1 : Int32)), (.ref b220)])) rfl (by rw [hml]; rfl) (argsL := [(.ref b220), (.int (-1 : Int32))]) (rest := []) (lenOf pd__28__5b_II_29_V rfl) rfl (by show 2 * 0 + _ ≤ _; exact Nat.le_of_eq rfl) (hb hby d5_84) (fun _ _ => ⟨rfl, e222, (by decide : 4 + 0 ≤ _), (by decide : 7 + 0 ≤ _)⟩)
  dsimp only [Pt.U, Pt.locs, Pt.cells, Pt.slots] at X223 l223 y223 z223 st223 hQ223
  subst l223 y223 z223
  refine own_by st223 ?_
  obtain ⟨rfl, Nq223, K223, r223_0⟩ := hQ223
  have Od223 := Od221.keep K223 (allS g_b220 all0)
  have E_a1_223 := E_a1_221.keep K223
  have F_ids_a1_223 := F_ids_a1_221.keep K223 (ninS ne_a1_b220 nin0)
  have F_none_a1_223 := F_none_a1_221.keep K223 (ninS ne_a1_b220 nin0)
  have F_following_a1_223 := F_following_a1_221.keep K223 (ninS ne_a1_b220 nin0)
  have F_last_a1_223 := F_last_a1_221.keep K223 (ninS ne_a1_b220 nin0)
  have E_a2_223 := E_a2_221.keep K223
  have F_size_a2_223 := F_size_a2_221.keep K223 (ninS ne_a2_b220 nin0)
  have F_elementData_a2_223 := F_elementData_a2_221.keep K223 (ninS ne_a2_b220 nin0)
  have V_ed_223 := V_ed_221.keep K223 (ninS ne_ed_b220 nin0)
  have E_s0_223 := E_s0_221.keep K223
  have F_coder_s0_223 := F_coder_s0_221.keep K223 (ninS ne_s0_b220 nin0)
  have F_value_s0_223 := F_value_s0_221.keep K223 (ninS ne_s0_b220 nin0)
  have V_v0_223 := V_v0_221.keep K223 (ninS ne_v0_b220 nin0)
  have E_v0_223 := E_v0_221.keep K223
  have E_s1_223 := E_s1_221.keep K223
  have F_coder_s1_223 := F_coder_s1_221.keep K223 (ninS ne_s1_b220 nin0)
  have F_value_s1_223 := F_value_s1_221.keep K223 (ninS ne_s1_b220 nin0)
  have V_v1_223 := V_v1_221.keep K223 (ninS ne_v1_b220 nin0)
  have E_v1_223 := E_v1_221.keep K223
  have V_b198_223 := V_b198_221.keep K223 (ninS ne_b198_b220 nin0)
  have E_b198_223 := E_b198_221.keep K223
  have r205_0_223 := r205_0_221.keep K223 (ninS ne_b_205_b220 nin0)
  have r205_1_223 := r205_1_221.keep K223
  have r213_0_223 := r213_0_221.keep K223 (ninS ne_b_213_b220 nin0)
  have r213_1_223 := r213_1_221.keep K223
  have Z223 : n0 ≤ T223.heap.size := Nat.le_trans Z221 K223.1
  have Kt223 := K221.trans K223 (allS (P := fun x => x ∈ _ ∨ _ ≤ x) (Or.inr sz_b220) all0)
  have N223 := Fr.app N221 Nq223
  show own_Fin _ _ _ _ (T223.setTop (mkF m 87 #[rv a1, rv a2, iv (2 : Int32)] []))
  refine own_go (XS.aloadN X223.here hx rfl (hb hby d5_87) rfl rfl (Steps.refl _)) ?_
  show own_Fin _ _ _ _ (T223.setTop (mkF m 88 #[rv a1, rv a2, iv (2 : Int32)] [(.ref a1)]))
  obtain ⟨T224, X224, e224, st224⟩ := getF X223 hx hZ hown (host := "") (Or.inl (hw _ (List.mem_of_getElem? (i := 51) rfl))) Via.refl rfl F_following_a1_223 (g := (mkF m 88 #[rv a1, rv a2, iv (2 : Int32)] [(.ref a1)])) rfl rfl (hb hby d5_88)
  refine own_by st224 ?_
  show own_Fin _ _ _ _ (T224.setTop (mkF m 91 #[rv a1, rv a2, iv (2 : Int32)] [(.ref b220)]))
  refine own_go (XS.aloadN X224.here hx rfl (hb hby d5_91) rfl rfl (Steps.refl _)) ?_
  show own_Fin _ _ _ _ (T224.setTop (mkF m 92 #[rv a1, rv a2, iv (2 : Int32)] [(.ref a1), (.ref b220)]))
  obtain ⟨T225, X225, e225, st225⟩ := getF X224 hx hZ hown (host := "") (Or.inl (hw _ (List.mem_of_getElem? (i := 48) rfl))) Via.refl e224 F_none_a1_223 (g := (mkF m 92 #[rv a1, rv a2, iv (2 : Int32)] [(.ref a1), (.ref b220)])) rfl rfl (hb hby d5_92)
  refine own_by st225 ?_
  show own_Fin _ _ _ _ (T225.setTop (mkF m 95 #[rv a1, rv a2, iv (2 : Int32)] [(.int (2 : Int32)), (.ref b220)]))
  refine own_go (XS.iconst X225.here hx rfl (hb hby d5_95) (Steps.refl _)) ?_
  show own_Fin _ _ _ _ (T225.setTop (mkF m 96 #[rv a1, rv a2, iv (2 : Int32)] [(.int (0 : Int32)), (.int (2 : Int32)), (.ref b220)]))
  obtain ⟨cl226, Ar226, qa226, Sa226, Na226, Ha226, Ga226⟩ := id r223_0
  have hin226 : ¬ ((2 : Int32) < 0 ∨ cl226.slots.size ≤ ((2 : Int32)).toNatClampNeg) := inb_of Sa226 ⟨by decide, by decide⟩
  obtain ⟨T227, h227, X227, e227, W227, st227⟩ := stI X225 hx hZ e225 Ar226 (j := (2 : Int32)) hin226 (g := (mkF m 96 #[rv a1, rv a2, iv (2 : Int32)] [(.int (0 : Int32)), (.int (2 : Int32)), (.ref b220)])) rfl rfl (hb hby d5_96)
  refine own_by st227 ?_
  have V_b220_227 : Arv Z h227 b220 k220 .int (3 : Int32) [(.int (-1 : Int32)), (.int (-1 : Int32)), (.int (0 : Int32))] (.int (0 : Int32)) := Arv.set Ar226 qa226 Sa226 Na226 Ha226 Ga226 rfl W227 2 rfl (Nat.le_of_ble_eq_true rfl)
  have Od227 := Od223.wr W227 g_b220
  have E_a1_227 := E_a1_223.wr W227
  have F_ids_a1_227 := F_ids_a1_223.other W227 (Or.inl ne_a1_b220)
  have F_none_a1_227 := F_none_a1_223.other W227 (Or.inl ne_a1_b220)
  have F_following_a1_227 := F_following_a1_223.other W227 (Or.inl ne_a1_b220)
  have F_last_a1_227 := F_last_a1_223.other W227 (Or.inl ne_a1_b220)
  have E_a2_227 := E_a2_223.wr W227
  have F_size_a2_227 := F_size_a2_223.other W227 (Or.inl ne_a2_b220)
  have F_elementData_a2_227 := F_elementData_a2_223.other W227 (Or.inl ne_a2_b220)
  have V_ed_227 := V_ed_223.other W227 ne_ed_b220
  have E_s0_227 := E_s0_223.wr W227
  have F_coder_s0_227 := F_coder_s0_223.other W227 (Or.inl ne_s0_b220)
  have F_value_s0_227 := F_value_s0_223.other W227 (Or.inl ne_s0_b220)
  have V_v0_227 := V_v0_223.other W227 ne_v0_b220
  have E_v0_227 := E_v0_223.wr W227
  have E_s1_227 := E_s1_223.wr W227
  have F_coder_s1_227 := F_coder_s1_223.other W227 (Or.inl ne_s1_b220)
  have F_value_s1_227 := F_value_s1_223.other W227 (Or.inl ne_s1_b220)
  have V_v1_227 := V_v1_223.other W227 ne_v1_b220
  have E_v1_227 := E_v1_223.wr W227
  have V_b198_227 := V_b198_223.other W227 ne_b198_b220
  have E_b198_227 := E_b198_223.wr W227
  have r205_0_227 := r205_0_223.other W227 ne_b_205_b220
  have r205_1_227 := r205_1_223.wr W227
  have r213_0_227 := r213_0_223.other W227 ne_b_213_b220
  have r213_1_227 := r213_1_223.wr W227
  have N227 := Fr.snoc X227 N223 g_b220
  have Z227 : n0 ≤ h227.size := Nat.le_trans Z223 (Keep.of_wr W227).1
  have K227 := Kt223.wr W227 (Or.inr sz_b220)
  show own_Fin _ _ _ _ (T227.setTop (mkF m 97 #[rv a1, rv a2, iv (2 : Int32)] []))
  refine own_go (XS.aloadN X227.here hx rfl (hb hby d5_97) rfl rfl (Steps.refl _)) ?_
  show own_Fin _ _ _ _ (T227.setTop (mkF m 98 #[rv a1, rv a2, iv (2 : Int32)] [(.ref a1)]))
  refine own_go (XS.aloadN X227.here hx rfl (hb hby d5_98) rfl rfl (Steps.refl _)) ?_
  show own_Fin _ _ _ _ (T227.setTop (mkF m 99 #[rv a1, rv a2, iv (2 : Int32)] [(.ref a1), (.ref a1)]))
  obtain ⟨T228, X228, e228, st228⟩ := getF X227 hx hZ hown (host := "") (Or.inl (hw _ (List.mem_of_getElem? (i := 48) rfl))) Via.refl e227 F_none_a1_227 (g := (mkF m 99 #[rv a1, rv a2, iv (2 : Int32)] [(.ref a1), (.ref a1)])) rfl rfl (hb hby d5_99)
  refine own_by st228 ?_
  show own_Fin _ _ _ _ (T228.setTop (mkF m 102 #[rv a1, rv a2, iv (2 : Int32)] [(.int (2 : Int32)), (.ref a1)]))
  obtain ⟨T229, h229, X229, e229, W229, st229⟩ := putF X228 hx hZ hown (host := "") (Or.inl (hw _ (List.mem_of_getElem? (i := 57) rfl))) Via.refl e228 F_last_a1_227 E_a1_227 (Or.inl (hw _ (List.mem_of_getElem? (i := 58) rfl))) (hw _ (List.mem_of_getElem? (i := 27) rfl)) (ty := .int) (by decide) rfl rfl (g := (mkF m 102 #[rv a1, rv a2, iv (2 : Int32)] [(.int (2 : Int32)), (.ref a1)])) rfl rfl (hb hby d5_102)
  refine own_by st229 ?_
  have F_last_a1_229 := F_last_a1_227.same W229
  have Od229 := Od227.wr W229 g_a1
  have E_a1_229 := E_a1_227.wr W229
  have F_ids_a1_229 := F_ids_a1_227.other W229 (Or.inr (slot_ne (Or.inr (hw _ (List.mem_of_getElem? (i := 47) rfl))) (Or.inl (hw _ (List.mem_of_getElem? (i := 58) rfl))) (by decide) (t := (.array (.array .byte))) (t' := .int) (by decide) (by decide)))
  have F_none_a1_229 := F_none_a1_227.other W229 (Or.inr (slot_ne (Or.inr (hw _ (List.mem_of_getElem? (i := 49) rfl))) (Or.inl (hw _ (List.mem_of_getElem? (i := 58) rfl))) (by decide) (t := .int) (t' := .int) (by decide) (by decide)))
  have F_following_a1_229 := F_following_a1_227.other W229 (Or.inr (slot_ne (Or.inr (hw _ (List.mem_of_getElem? (i := 52) rfl))) (Or.inl (hw _ (List.mem_of_getElem? (i := 58) rfl))) (by decide) (t := (.array .int)) (t' := .int) (by decide) (by decide)))
  have E_a2_229 := E_a2_227.wr W229
  have F_size_a2_229 := F_size_a2_227.other W229 (Or.inl (Exa.ne E_a2_227 E_a1_227 (by decide)))
  have F_elementData_a2_229 := F_elementData_a2_227.other W229 (Or.inl (Exa.ne E_a2_227 E_a1_227 (by decide)))
  have V_ed_229 := V_ed_227.other W229 (Ne.symm (Exa.neArv E_a1_227 V_ed_227 (hw _ (List.mem_of_getElem? (i := 27) rfl))))
  have E_s0_229 := E_s0_227.wr W229
  have F_coder_s0_229 := F_coder_s0_227.other W229 (Or.inl (Exa.ne E_s0_227 E_a1_227 (by decide)))
  have F_value_s0_229 := F_value_s0_227.other W229 (Or.inl (Exa.ne E_s0_227 E_a1_227 (by decide)))
  have V_v0_229 := V_v0_227.other W229 (Exa.ne E_v0_227 E_a1_227 (by decide))
  have E_v0_229 := E_v0_227.wr W229
  have E_s1_229 := E_s1_227.wr W229
  have F_coder_s1_229 := F_coder_s1_227.other W229 (Or.inl (Exa.ne E_s1_227 E_a1_227 (by decide)))
  have F_value_s1_229 := F_value_s1_227.other W229 (Or.inl (Exa.ne E_s1_227 E_a1_227 (by decide)))
  have V_v1_229 := V_v1_227.other W229 (Exa.ne E_v1_227 E_a1_227 (by decide))
  have E_v1_229 := E_v1_227.wr W229
  have V_b198_229 := V_b198_227.other W229 (Ne.symm ne_a1_b198)
  have E_b198_229 := E_b198_227.wr W229
  have r205_0_229 := r205_0_227.other W229 (Ne.symm ne_a1_b_205)
  have r205_1_229 := r205_1_227.wr W229
  have r213_0_229 := r213_0_227.other W229 (Ne.symm ne_a1_b_213)
  have r213_1_229 := r213_1_227.wr W229
  have V_b220_229 := V_b220_227.other W229 (Ne.symm ne_a1_b220)
  have N229 := Fr.snoc X229 N227 g_a1
  have Z229 : n0 ≤ h229.size := Nat.le_trans Z227 (Keep.of_wr W229).1
  have K229 := K227.wr W229 (Or.inl (List.mem_of_getElem? (i := 0) rfl))
  show own_Fin _ _ _ _ (T229.setTop (mkF m 105 #[rv a1, rv a2, iv (2 : Int32)] []))
  obtain ⟨fs230, hr230, hrun230, hended230, hW230, hsame230⟩ := X229.leave (v := none) (fun _ => rfl)
  refine own_done (X229.returnOut hx Bd.returns (hb hby d5_105) hr230) hrun230 hended230 ⟨_, _, rfl, ?_, ⟨_, rfl⟩, hW230, hsame230.mono (by decide) (by decide)⟩
  show Qinit_2 Z a1 a2 u cs ed ke s0 s1 v0 v1 q0 q1 h0 n0 _ T229.heap _
  rw [e229]
  exact ⟨b198, b220, b_205, b_213, k198, k220, rfl, N229, K229, g_b198, sz_b198, g_b220, sz_b220, g_b_205, sz_b_205, g_b_213, sz_b_213, E_a1_229, F_ids_a1_229, F_none_a1_229, F_following_a1_229, F_last_a1_229, V_b198_229, V_b220_229⟩
theorem ef_init_3 (m : MethodId) (x0 : Addr) (x1 : Addr) : entryFrame m #[(.ref x0), (.ref x1)] 3 = mkF m 0 #[.val (.ref x0), .val (.ref x1), .unset] [] := by first | (simp [entryFrame, mkF, argsToLocals, Value.category]; done) | rfl
def Qinit_3 (Z : State) (a1 : Addr) (a2 : Addr) (u : Addr) (cs : Int32) (ed : Addr) (ke : ClassId) (s0 : Addr) (s1 : Addr) (s2 : Addr) (v0 : Addr) (v1 : Addr) (v2 : Addr) (q0 : ClassId) (q1 : ClassId) (q2 : ClassId) (h0 : Heap) (n0 : Nat) (v : Option Value) (h : Heap) (L : List Loc) : Prop := ∃ (bi : Addr) (bf : Addr) (x0 : Addr) (x1 : Addr) (x2 : Addr) (ki : ClassId) (kf : ClassId), v = none ∧ Fr n0 L ∧ Keep h0 h [a1] ∧ n0 ≤ bi ∧ h0.size ≤ bi ∧ n0 ≤ bf ∧ h0.size ≤ bf ∧ n0 ≤ x0 ∧ h0.size ≤ x0 ∧ n0 ≤ x1 ∧ h0.size ≤ x1 ∧ n0 ≤ x2 ∧ h0.size ≤ x2 ∧ Exa Z h a1 "com/example/gridtally/gridtally/casefile/IdSequence" ∧ Fld Z h a1 "com/example/gridtally/gridtally/casefile/IdSequence" "ids" "[[B" (.ref bi) ∧ Fld Z h a1 "com/example/gridtally/gridtally/casefile/IdSequence" "none" "I" (.int (3 : Int32)) ∧ Fld Z h a1 "com/example/gridtally/gridtally/casefile/IdSequence" "following" "[I" (.ref bf) ∧ Fld Z h a1 "com/example/gridtally/gridtally/casefile/IdSequence" "last" "I" (.int (3 : Int32)) ∧ Arv Z h bi ki (.array .byte) (3 : Int32) [(.ref x0), (.ref x1), (.ref x2)] .null ∧ Arv Z h bf kf .int (4 : Int32) [(.int (-1 : Int32)), (.int (-1 : Int32)), (.int (-1 : Int32)), (.int (0 : Int32))] (.int (0 : Int32))
abbrev Ginit_3 (Z : State) (a1 : Addr) (a2 : Addr) (u : Addr) (cs : Int32) (ed : Addr) (ke : ClassId) (s0 : Addr) (s1 : Addr) (s2 : Addr) (v0 : Addr) (v1 : Addr) (v2 : Addr) (q0 : ClassId) (q1 : ClassId) (q2 : ClassId) (h0 : Heap) (n0 : Nat) (s : State) : Outcome → State → Prop := fun o U' => ∃ v L, o = .returned v ∧ Qinit_3 Z a1 a2 u cs ed ke s0 s1 s2 v0 v1 v2 q0 q1 q2 h0 n0 v U'.heap L ∧ FrameEnd s o U' L ({ frames := 5, cells := 5, slots := 10, locals := 112 } : Room).cells ({ frames := 5, cells := 5, slots := 10, locals := 112 } : Room).slots
set_option maxRecDepth 65536 in
set_option maxHeartbeats 40000000 in
theorem rminit_3 (l : Launch) (Z : State) (a0 : Array Value) (hw : ∀ d ∈ tables_1, d.before a0 Z = true) (ws : List Jvm.Cond) (a1 : Addr) (a2 : Addr) (u : Addr) (cs : Int32) (ed : Addr) (ke : ClassId) (s0 : Addr) (s1 : Addr) (s2 : Addr) (v0 : Addr) (v1 : Addr) (v2 : Addr) (q0 : ClassId) (q1 : ClassId) (q2 : ClassId) (h0 : Heap) (n0 : Nat) (Z0 : n0 ≤ h0.size) (E_a1 : Exa Z h0 a1 "com/example/gridtally/gridtally/casefile/IdSequence") (F_ids_a1 : Fld Z h0 a1 "com/example/gridtally/gridtally/casefile/IdSequence" "ids" "[[B" .null) (F_none_a1 : Fld Z h0 a1 "com/example/gridtally/gridtally/casefile/IdSequence" "none" "I" (.int (0 : Int32))) (F_following_a1 : Fld Z h0 a1 "com/example/gridtally/gridtally/casefile/IdSequence" "following" "[I" .null) (F_last_a1 : Fld Z h0 a1 "com/example/gridtally/gridtally/casefile/IdSequence" "last" "I" (.int (0 : Int32))) (g_a1 : n0 ≤ a1) (O0 : Old Z n0 h0) (S_INSTANCE : Sta Z Z.heap "sun/nio/cs/UTF_8" "INSTANCE" "Lsun/nio/cs/UTF_8;" (.ref u)) (S_UTF_8 : Sta Z Z.heap "java/nio/charset/StandardCharsets" "UTF_8" "Ljava/nio/charset/Charset;" (.ref u)) (S_COMPACT_STRINGS : Sta Z Z.heap "java/lang/String" "COMPACT_STRINGS" "Z" (.int cs)) (hcs : ¬ cs = (0 : Int32)) (E_a2 : Exa Z h0 a2 "java/util/ArrayList") (F_size_a2 : Fld Z h0 a2 "java/util/ArrayList" "size" "I" (.int (3 : Int32))) (F_elementData_a2 : Fld Z h0 a2 "java/util/ArrayList" "elementData" "[Ljava/lang/Object;" (.ref ed)) (V_ed : Arv Z h0 ed ke (.object "java/lang/Object") (10 : Int32) [(.ref s0), (.ref s1), (.ref s2), .null, .null, .null, .null, .null, .null, .null] .null) (E_s0 : Exa Z h0 s0 "java/lang/String") (F_coder_s0 : Fld Z h0 s0 "java/lang/String" "coder" "B" (.int (0 : Int32))) (F_value_s0 : Fld Z h0 s0 "java/lang/String" "value" "[B" (.ref v0)) (V_v0 : Arv Z h0 v0 q0 .byte (1 : Int32) [(.int (97 : Int32))] (.int (0 : Int32))) (E_v0 : Exa Z h0 v0 "[B") (E_s1 : Exa Z h0 s1 "java/lang/String") (F_coder_s1 : Fld Z h0 s1 "java/lang/String" "coder" "B" (.int (0 : Int32))) (F_value_s1 : Fld Z h0 s1 "java/lang/String" "value" "[B" (.ref v1)) (V_v1 : Arv Z h0 v1 q1 .byte (1 : Int32) [(.int (98 : Int32))] (.int (0 : Int32))) (E_v1 : Exa Z h0 v1 "[B") (E_s2 : Exa Z h0 s2 "java/lang/String") (F_coder_s2 : Fld Z h0 s2 "java/lang/String" "coder" "B" (.int (0 : Int32))) (F_value_s2 : Fld Z h0 s2 "java/lang/String" "value" "[B" (.ref v2)) (V_v2 : Arv Z h0 v2 q2 .byte (1 : Int32) [(.int (99 : Int32))] (.int (0 : Int32))) (E_v2 : Exa Z h0 v2 "[B") :
    MetFree l (⟨"com/example/gridtally/gridtally/casefile/IdSequence", "<init>", "(Ljava/util/List;)V"⟩ : MethodName) (head1 (Jvm.Cond.code (⟨"com/example/gridtally/gridtally/casefile/IdSequence", "<init>", "(Ljava/util/List;)V"⟩ : MethodName) prog_15_method_1_code 3 none :: ws) ({ frames := 5, cells := 5, slots := 10, locals := 112 } : Room)) (fun a U => a = #[(.ref a1), (.ref a2)] ∧ Z.Warmed39 U.vm ∧ U.heap = h0) (fun _ _ _ _ _ => True) (fun _ U o U' => ∃ v L, o = .returned v ∧ Qinit_3 Z a1 a2 u cs ed ke s0 s1 s2 v0 v1 v2 q0 q1 q2 h0 n0 v U'.heap L ∧ FrameEnd U o U' L ({ frames := 5, cells := 5, slots := 10, locals := 112 } : Room).cells ({ frames := 5, cells := 5, slots := 10, locals := 112 } : Room).slots) := by
  refine MetFree.of_bodySF (plainFor_of_name pn_com_example_gridtally_gridtally_casefile_IdSequence) hisR ?_
  intro p e s m args below meth c s₁ Bd hml0 hP hK
  obtain ⟨rfl, hZ, hh⟩ := hP
  have hx := Bd.exec
  have hby := Bd.bytes
  have hml : c.maxLocals = 3 := hml0
  have hown : s.vm.findClass "com/example/gridtally/gridtally/casefile/IdSequence" = some m.cls := findClass_of_methodNamed Bd.named
  have hnm := (name_of_methodNamed Bd.named Bd.method).1
  have X0 : Stand p l e ({ frames := 5, cells := 5, slots := 10, locals := 112 } : Room) s m #[(.ref a1), (.ref a2)] below meth c s₁ [] 0 0 := Stand.of_body Bd
  have e0 : s₁.heap = h0 := by rw [← hh, Bd.state]; rfl
  have es0 : s.heap = h0 := hh
  have N0 := Fr.nil n0
  show own_Fin p e below (Ginit_3 Z a1 a2 u cs ed ke s0 s1 s2 v0 v1 v2 q0 q1 q2 h0 n0 s) (s₁.setTop (entryFrame m #[(.ref a1), (.ref a2)] 3))
  rw [ef_init_3 m a1 a2]
  have Kz := Keep.refl h0 [a1]
  refine own_go (XS.aloadN X0.here hx rfl (hb hby d5_0) rfl rfl (Steps.refl _)) ?_
  show own_Fin _ _ _ _ (s₁.setTop (mkF m 1 #[rv a1, rv a2, .unset] [(.ref a1)]))
  obtain ⟨T231, X231, e231, st231⟩ := initO X0 hx hZ hown (hw _ (List.mem_of_getElem? (i := 32) rfl)) (hw _ (List.mem_of_getElem? (i := 19) rfl)) (hw _ (List.mem_of_getElem? (i := 20) rfl)) e0 (g := (mkF m 1 #[rv a1, rv a2, .unset] [(.ref a1)])) rfl (by rw [hml]; rfl) rfl (hb hby d5_1) (by decide) (W := 0) (by show 2 * 0 + _ ≤ _; exact Nat.le_of_eq rfl) (by decide)
  refine own_by st231 ?_
  show own_Fin _ _ _ _ (T231.setTop (mkF m 4 #[rv a1, rv a2, .unset] []))
  refine own_go (XS.aloadN X231.here hx rfl (hb hby d5_4) rfl rfl (Steps.refl _)) ?_
  show own_Fin _ _ _ _ (T231.setTop (mkF m 5 #[rv a1, rv a2, .unset] [(.ref a1)]))
  refine own_go (XS.aloadN X231.here hx rfl (hb hby d5_5) rfl rfl (Steps.refl _)) ?_
  show own_Fin _ _ _ _ (T231.setTop (mkF m 6 #[rv a1, rv a2, .unset] [(.ref a2), (.ref a1)]))
  obtain ⟨cq232, kq232, q232a, q232b, q232c⟩ := isOf hZ e231 E_a2
  obtain ⟨_, _, ⟨T232, L232, k232, n232⟩, -, X232, ⟨Lc232, hQ232, l232, y232, z232⟩, st232⟩ := X231.interfaceBack hx (xi := (⟨"java/util/List", "size", "()I"⟩ : MethodName)) (y := (⟨"java/util/ArrayList", "size", "()I"⟩ : MethodName)) hown (mvT hZ (hw _ (List.mem_of_getElem? (i := 33) rfl))) (mvT hZ (hw _ (List.mem_of_getElem? (i := 34) rfl))) (mvT hZ (hw _ (List.mem_of_getElem? (i := 35) rfl))) (mvT hZ (hw _ (List.mem_of_getElem? (i := 36) rfl))) (mvT hZ (hw _ (List.mem_of_getElem? (i := 37) rfl))) (mvT hZ (hw _ (List.mem_of_getElem? (i := 38) rfl))) (mvT hZ (hw _ (List.mem_of_getElem? (i := 39) rfl))) (mvT hZ (hw _ (List.mem_of_getElem? (i := 40) rfl))) (by decide) (backOf (W := 1) (rmsize l Z a0 hw [] a2 (3 : Int32) h0 n0 Z0 F_size_a2) hZ (hw _ (List.mem_of_getElem? (i := 41) rfl)) (hw _ (List.mem_of_getElem? (i := 2) rfl)) (by decide) (by decide)) q232a q232b q232c (g := (mkF m 6 #[rv a1, rv a2, .unset] [(.ref a2), (.ref a1)])) rfl (by rw [hml]; rfl) (Steps.refl _) (argsL := []) (rest := [(.ref a1)]) (lenOf pd__28__29_I rfl) rfl (by show 2 * 0 + _ ≤ _; exact Nat.le_of_eq rfl) (hb hby d5_6) (fun _ _ => ⟨rfl, e231, (by decide : 0 + 0 ≤ _), (by decide : 0 + 0 ≤ _)⟩)
  dsimp only [Pt.U, Pt.locs, Pt.cells, Pt.slots] at X232 l232 y232 z232 st232 hQ232
  subst l232 y232 z232
  obtain ⟨rfl, Nq232, e232⟩ := hQ232
  refine own_go st232 ?_
  have N232 := Fr.app N0 Nq232
  show own_Fin _ _ _ _ (T232.setTop (mkF m 11 #[rv a1, rv a2, .unset] [(.int (3 : Int32)), (.ref a1)]))
  obtain ⟨T233, h233, k233, X233, e233, E233, A233, B233, O233, st233⟩ := newRA X232 hx hZ hown (ty := .byte) (by decide) (hw _ (List.mem_of_getElem? (i := 44) rfl)) (hw _ (List.mem_of_getElem? (i := 45) rfl)) e232 (g := (mkF m 11 #[rv a1, rv a2, .unset] [(.int (3 : Int32)), (.ref a1)])) rfl (hb hby d5_11) rfl (by decide) (cap := 3) (by decide) (by decide) (by decide) (by decide) (ad := "[[B") (by decide)
  obtain ⟨b233, g233⟩ : ∃ z, z = h0.size := ⟨_, rfl⟩
  rw [← g233] at A233 B233 st233
  refine own_by st233 ?_
  have ne_a1_b233 : a1 ≠ b233 := Nat.ne_of_lt (Nat.lt_of_lt_of_eq E_a1.lt g233.symm)
  have ne_a2_b233 : a2 ≠ b233 := Nat.ne_of_lt (Nat.lt_of_lt_of_eq E_a2.lt g233.symm)
  have ne_ed_b233 : ed ≠ b233 := Nat.ne_of_lt (Nat.lt_of_lt_of_eq V_ed.lt g233.symm)
  have ne_s0_b233 : s0 ≠ b233 := Nat.ne_of_lt (Nat.lt_of_lt_of_eq E_s0.lt g233.symm)
  have ne_v0_b233 : v0 ≠ b233 := Nat.ne_of_lt (Nat.lt_of_lt_of_eq V_v0.lt g233.symm)
  have ne_s1_b233 : s1 ≠ b233 := Nat.ne_of_lt (Nat.lt_of_lt_of_eq E_s1.lt g233.symm)
  have ne_v1_b233 : v1 ≠ b233 := Nat.ne_of_lt (Nat.lt_of_lt_of_eq V_v1.lt g233.symm)
  have ne_s2_b233 : s2 ≠ b233 := Nat.ne_of_lt (Nat.lt_of_lt_of_eq E_s2.lt g233.symm)
  have ne_v2_b233 : v2 ≠ b233 := Nat.ne_of_lt (Nat.lt_of_lt_of_eq V_v2.lt g233.symm)
  have Od233 := O0.ext E233
  have E_a1_233 := E_a1.ext E233
  have F_ids_a1_233 := F_ids_a1.ext E233
  have F_none_a1_233 := F_none_a1.ext E233
  have F_following_a1_233 := F_following_a1.ext E233
  have F_last_a1_233 := F_last_a1.ext E233
  have E_a2_233 := E_a2.ext E233
  have F_size_a2_233 := F_size_a2.ext E233
  have F_elementData_a2_233 := F_elementData_a2.ext E233
  have V_ed_233 := V_ed.ext E233
  have E_s0_233 := E_s0.ext E233
  have F_coder_s0_233 := F_coder_s0.ext E233
  have F_value_s0_233 := F_value_s0.ext E233
  have V_v0_233 := V_v0.ext E233
  have E_v0_233 := E_v0.ext E233
  have E_s1_233 := E_s1.ext E233
  have F_coder_s1_233 := F_coder_s1.ext E233
  have F_value_s1_233 := F_value_s1.ext E233
  have V_v1_233 := V_v1.ext E233
  have E_v1_233 := E_v1.ext E233
  have E_s2_233 := E_s2.ext E233
  have F_coder_s2_233 := F_coder_s2.ext E233
  have F_value_s2_233 := F_value_s2.ext E233
  have V_v2_233 := V_v2.ext E233
  have E_v2_233 := E_v2.ext E233
  have g_b233 : n0 ≤ b233 := Nat.le_trans Z0 (Nat.le_of_eq g233.symm)
  have sz_b233 : h0.size ≤ b233 := Nat.le_trans Kz.1 (Nat.le_of_eq g233.symm)
  have K233 := Kz.ext E233
  have Z233 : n0 ≤ h233.size := Nat.le_trans Z0 E233.1
  have V_b233 : Arv Z h233 b233 k233 (.array .byte) (3 : Int32) [.null, .null, .null] .null := (Arv.new A233 (by decide)).pad (pad_rep [] .null 3)
  have E_b233 := B233
  show own_Fin _ _ _ _ (T233.setTop (mkF m 14 #[rv a1, rv a2, .unset] [(.ref b233), (.ref a1)]))
  obtain ⟨T234, h234, X234, e234, W234, st234⟩ := putF X233 hx hZ hown (host := "") (Or.inl (hw _ (List.mem_of_getElem? (i := 46) rfl))) Via.refl e233 F_ids_a1_233 E_a1_233 (Or.inr ⟨(hw _ (List.mem_of_getElem? (i := 47) rfl)), rfl, hnm⟩) (hw _ (List.mem_of_getElem? (i := 27) rfl)) (ty := (.array (.array .byte))) (by decide) rfl rfl (g := (mkF m 14 #[rv a1, rv a2, .unset] [(.ref b233), (.ref a1)])) rfl rfl (hb hby d5_14)
  refine own_by st234 ?_
  have F_ids_a1_234 := F_ids_a1_233.same W234
  have Od234 := Od233.wr W234 g_a1
  have E_a1_234 := E_a1_233.wr W234
  have F_none_a1_234 := F_none_a1_233.other W234 (Or.inr (slot_ne (Or.inr (hw _ (List.mem_of_getElem? (i := 49) rfl))) (Or.inr (hw _ (List.mem_of_getElem? (i := 47) rfl))) (by decide) (t := .int) (t' := (.array (.array .byte))) (by decide) (by decide)))
  have F_following_a1_234 := F_following_a1_233.other W234 (Or.inr (slot_ne (Or.inr (hw _ (List.mem_of_getElem? (i := 52) rfl))) (Or.inr (hw _ (List.mem_of_getElem? (i := 47) rfl))) (by decide) (t := (.array .int)) (t' := (.array (.array .byte))) (by decide) (by decide)))
  have F_last_a1_234 := F_last_a1_233.other W234 (Or.inr (slot_ne (Or.inl (hw _ (List.mem_of_getElem? (i := 58) rfl))) (Or.inr (hw _ (List.mem_of_getElem? (i := 47) rfl))) (by decide) (t := .int) (t' := (.array (.array .byte))) (by decide) (by decide)))
  have E_a2_234 := E_a2_233.wr W234
  have F_size_a2_234 := F_size_a2_233.other W234 (Or.inl (Exa.ne E_a2_233 E_a1_233 (by decide)))
  have F_elementData_a2_234 := F_elementData_a2_233.other W234 (Or.inl (Exa.ne E_a2_233 E_a1_233 (by decide)))
  have V_ed_234 := V_ed_233.other W234 (Ne.symm (Exa.neArv E_a1_233 V_ed_233 (hw _ (List.mem_of_getElem? (i := 27) rfl))))
  have E_s0_234 := E_s0_233.wr W234
  have F_coder_s0_234 := F_coder_s0_233.other W234 (Or.inl (Exa.ne E_s0_233 E_a1_233 (by decide)))
  have F_value_s0_234 := F_value_s0_233.other W234 (Or.inl (Exa.ne E_s0_233 E_a1_233 (by decide)))
  have V_v0_234 := V_v0_233.other W234 (Exa.ne E_v0_233 E_a1_233 (by decide))
  have E_v0_234 := E_v0_233.wr W234
  have E_s1_234 := E_s1_233.wr W234
  have F_coder_s1_234 := F_coder_s1_233.other W234 (Or.inl (Exa.ne E_s1_233 E_a1_233 (by decide)))
  have F_value_s1_234 := F_value_s1_233.other W234 (Or.inl (Exa.ne E_s1_233 E_a1_233 (by decide)))
  have V_v1_234 := V_v1_233.other W234 (Exa.ne E_v1_233 E_a1_233 (by decide))
  have E_v1_234 := E_v1_233.wr W234
  have E_s2_234 := E_s2_233.wr W234
  have F_coder_s2_234 := F_coder_s2_233.other W234 (Or.inl (Exa.ne E_s2_233 E_a1_233 (by decide)))
  have F_value_s2_234 := F_value_s2_233.other W234 (Or.inl (Exa.ne E_s2_233 E_a1_233 (by decide)))
  have V_v2_234 := V_v2_233.other W234 (Exa.ne E_v2_233 E_a1_233 (by decide))
  have E_v2_234 := E_v2_233.wr W234
  have V_b233_234 := V_b233.other W234 (Ne.symm ne_a1_b233)
  have E_b233_234 := E_b233.wr W234
  have N234 := Fr.snoc X234 N232 g_a1
  have Z234 : n0 ≤ h234.size := Nat.le_trans Z233 (Keep.of_wr W234).1
  have K234 := K233.wr W234 (Or.inl (List.mem_of_getElem? (i := 0) rfl))
  show own_Fin _ _ _ _ (T234.setTop (mkF m 17 #[rv a1, rv a2, .unset] []))
  refine own_go (XS.iconst X234.here hx rfl (hb hby d5_17) (Steps.refl _)) ?_
  show own_Fin _ _ _ _ (T234.setTop (mkF m 18 #[rv a1, rv a2, .unset] [(.int (0 : Int32))]))
  refine own_go (XS.istoreN X234.here hx rfl (hb hby d5_18) rfl rfl (Steps.refl _)) ?_
  show own_Fin _ _ _ _ (T234.setTop (mkF m 19 #[rv a1, rv a2, iv (0 : Int32)] []))
  refine own_go (XS.iloadN X234.here hx rfl (hb hby d5_19) rfl (Steps.refl _)) ?_
  show own_Fin _ _ _ _ (T234.setTop (mkF m 20 #[rv a1, rv a2, iv (0 : Int32)] [(.int (0 : Int32))]))
  refine own_go (XS.aloadN X234.here hx rfl (hb hby d5_20) rfl rfl (Steps.refl _)) ?_
  show own_Fin _ _ _ _ (T234.setTop (mkF m 21 #[rv a1, rv a2, iv (0 : Int32)] [(.ref a2), (.int (0 : Int32))]))
  obtain ⟨cq235, kq235, q235a, q235b, q235c⟩ := isOf hZ e234 E_a2_234
  obtain ⟨_, _, ⟨T235, L235, k235, n235⟩, -, X235, ⟨Lc235, hQ235, l235, y235, z235⟩, st235⟩ := X234.interfaceBack hx (xi := (⟨"java/util/List", "size", "()I"⟩ : MethodName)) (y := (⟨"java/util/ArrayList", "size", "()I"⟩ : MethodName)) hown (mvT hZ (hw _ (List.mem_of_getElem? (i := 33) rfl))) (mvT hZ (hw _ (List.mem_of_getElem? (i := 34) rfl))) (mvT hZ (hw _ (List.mem_of_getElem? (i := 35) rfl))) (mvT hZ (hw _ (List.mem_of_getElem? (i := 36) rfl))) (mvT hZ (hw _ (List.mem_of_getElem? (i := 37) rfl))) (mvT hZ (hw _ (List.mem_of_getElem? (i := 38) rfl))) (mvT hZ (hw _ (List.mem_of_getElem? (i := 39) rfl))) (mvT hZ (hw _ (List.mem_of_getElem? (i := 40) rfl))) (by decide) (backOf (W := 1) (rmsize l Z a0 hw [] a2 (3 : Int32) h234 n0 Z234 F_size_a2_234) hZ (hw _ (List.mem_of_getElem? (i := 41) rfl)) (hw _ (List.mem_of_getElem? (i := 2) rfl)) (by decide) (by decide)) q235a q235b q235c (g := (mkF m 21 #[rv a1, rv a2, iv (0 : Int32)] [(.ref a2), (.int (0 : Int32))])) rfl (by rw [hml]; rfl) (Steps.refl _) (argsL := []) (rest := [(.int (0 : Int32))]) (lenOf pd__28__29_I rfl) rfl (by show 2 * 0 + _ ≤ _; exact Nat.le_of_eq rfl) (hb hby d5_21) (fun _ _ => ⟨rfl, e234, (by decide : 1 + 0 ≤ _), (by decide : 3 + 0 ≤ _)⟩)
  dsimp only [Pt.U, Pt.locs, Pt.cells, Pt.slots] at X235 l235 y235 z235 st235 hQ235
  subst l235 y235 z235
  obtain ⟨rfl, Nq235, e235⟩ := hQ235
  refine own_go st235 ?_
  have N235 := Fr.app N234 Nq235
  show own_Fin _ _ _ _ (T235.setTop (mkF m 26 #[rv a1, rv a2, iv (0 : Int32)] [(.int (3 : Int32)), (.int (0 : Int32))]))
  refine own_go (XS.icmpNo X235.here hx rfl (hb hby d5_26) rfl (tlt (by decide : (0 : Int32) < (3 : Int32))).2.1 (Steps.refl _)) ?_
  show own_Fin _ _ _ _ (T235.setTop (mkF m 29 #[rv a1, rv a2, iv (0 : Int32)] []))
  refine own_go (XS.aloadN X235.here hx rfl (hb hby d5_29) rfl rfl (Steps.refl _)) ?_
  show own_Fin _ _ _ _ (T235.setTop (mkF m 30 #[rv a1, rv a2, iv (0 : Int32)] [(.ref a1)]))
  obtain ⟨T236, X236, e236, st236⟩ := getF X235 hx hZ hown (host := "") (Or.inl (hw _ (List.mem_of_getElem? (i := 46) rfl))) Via.refl e235 F_ids_a1_234 (g := (mkF m 30 #[rv a1, rv a2, iv (0 : Int32)] [(.ref a1)])) rfl rfl (hb hby d5_30)
  refine own_by st236 ?_
  show own_Fin _ _ _ _ (T236.setTop (mkF m 33 #[rv a1, rv a2, iv (0 : Int32)] [(.ref b233)]))
  refine own_go (XS.iloadN X236.here hx rfl (hb hby d5_33) rfl (Steps.refl _)) ?_
  show own_Fin _ _ _ _ (T236.setTop (mkF m 34 #[rv a1, rv a2, iv (0 : Int32)] [(.int (0 : Int32)), (.ref b233)]))
  refine own_go (XS.aloadN X236.here hx rfl (hb hby d5_34) rfl rfl (Steps.refl _)) ?_
  show own_Fin _ _ _ _ (T236.setTop (mkF m 35 #[rv a1, rv a2, iv (0 : Int32)] [(.ref a2), (.int (0 : Int32)), (.ref b233)]))
  refine own_go (XS.iloadN X236.here hx rfl (hb hby d5_35) rfl (Steps.refl _)) ?_
  show own_Fin _ _ _ _ (T236.setTop (mkF m 36 #[rv a1, rv a2, iv (0 : Int32)] [(.int (0 : Int32)), (.ref a2), (.int (0 : Int32)), (.ref b233)]))
  obtain ⟨cq237, kq237, q237a, q237b, q237c⟩ := isOf hZ e236 E_a2_234
  obtain ⟨_, _, ⟨T237, L237, k237, n237⟩, -, X237, ⟨Lc237, hQ237, l237, y237, z237⟩, st237⟩ := X236.interfaceBack hx (xi := (⟨"java/util/List", "get", "(I)Ljava/lang/Object;"⟩ : MethodName)) (y := (⟨"java/util/ArrayList", "get", "(I)Ljava/lang/Object;"⟩ : MethodName)) hown (mvT hZ (hw _ (List.mem_of_getElem? (i := 116) rfl))) (mvT hZ (hw _ (List.mem_of_getElem? (i := 117) rfl))) (mvT hZ (hw _ (List.mem_of_getElem? (i := 118) rfl))) (mvT hZ (hw _ (List.mem_of_getElem? (i := 119) rfl))) (mvT hZ (hw _ (List.mem_of_getElem? (i := 120) rfl))) (mvT hZ (hw _ (List.mem_of_getElem? (i := 121) rfl))) (mvT hZ (hw _ (List.mem_of_getElem? (i := 122) rfl))) (mvT hZ (hw _ (List.mem_of_getElem? (i := 40) rfl))) (by decide) (backOf (W := 2) (rmget_3_0 l Z a0 hw [] a2 ed ke s0 s1 s2 h234 n0 Z234 E_a2_234 F_size_a2_234 F_elementData_a2_234 V_ed_234) hZ (hw _ (List.mem_of_getElem? (i := 123) rfl)) (hw _ (List.mem_of_getElem? (i := 2) rfl)) (by decide) (by decide)) q237a q237b q237c (g := (mkF m 36 #[rv a1, rv a2, iv (0 : Int32)] [(.int (0 : Int32)), (.ref a2), (.int (0 : Int32)), (.ref b233)])) rfl (by rw [hml]; rfl) (Steps.refl _) (argsL := [(.int (0 : Int32))]) (rest := [(.int (0 : Int32)), (.ref b233)]) (lenOf pd__28_I_29_Ljava_2f_lang_2f_Object_3b_ rfl) rfl (by show 2 * 0 + _ ≤ _; exact Nat.le_of_eq rfl) (hb hby d5_36) (fun _ _ => ⟨rfl, e236, (by decide : 1 + 0 ≤ _), (by decide : 3 + 0 ≤ _)⟩)
  dsimp only [Pt.U, Pt.locs, Pt.cells, Pt.slots] at X237 l237 y237 z237 st237 hQ237
  subst l237 y237 z237
  obtain ⟨rfl, Nq237, e237⟩ := hQ237
  refine own_go st237 ?_
  have N237 := Fr.app N235 Nq237
  show own_Fin _ _ _ _ (T237.setTop (mkF m 41 #[rv a1, rv a2, iv (0 : Int32)] [(.ref s0), (.int (0 : Int32)), (.ref b233)]))
  obtain ⟨T238, X238, e238, st238⟩ := castY X237 hx hZ hown (hw _ (List.mem_of_getElem? (i := 137) rfl)) e237 (Ins.self E_s0_234) (g := (mkF m 41 #[rv a1, rv a2, iv (0 : Int32)] [(.ref s0), (.int (0 : Int32)), (.ref b233)])) rfl rfl (hb hby d5_41)
  refine own_by st238 ?_
  show own_Fin _ _ _ _ (T238.setTop (mkF m 44 #[rv a1, rv a2, iv (0 : Int32)] [(.ref s0), (.int (0 : Int32)), (.ref b233)]))
  obtain ⟨T239, X239, e239, st239⟩ := getS2 X238 hx hZ hown (host := "") (Or.inl (hw _ (List.mem_of_getElem? (i := 139) rfl))) Via.refl e238 (S_UTF_8.ext Od234.2) (g := (mkF m 44 #[rv a1, rv a2, iv (0 : Int32)] [(.ref s0), (.int (0 : Int32)), (.ref b233)])) rfl (hb hby d5_44)
  refine own_by st239 ?_
  show own_Fin _ _ _ _ (T239.setTop (mkF m 47 #[rv a1, rv a2, iv (0 : Int32)] [(.ref u), (.ref s0), (.int (0 : Int32)), (.ref b233)]))
  obtain ⟨cq240, kq240, q240a, q240b, q240c⟩ := isOf hZ e239 E_s0_234
  obtain ⟨_, _, ⟨T240, L240, k240, n240⟩, -, X240, ⟨Lc240, hQ240, l240, y240, z240⟩, st240⟩ := X239.virtualBack hx (y := (⟨"java/lang/String", "getBytes", "(Ljava/nio/charset/Charset;)[B"⟩ : MethodName)) (z := (⟨"java/lang/String", "getBytes", "(Ljava/nio/charset/Charset;)[B"⟩ : MethodName)) hown (mvT hZ (hw _ (List.mem_of_getElem? (i := 141) rfl))) (mvT hZ (hw _ (List.mem_of_getElem? (i := 142) rfl))) (notFace_of_selects (args := #[]) (mvT hZ (hw _ (List.mem_of_getElem? (i := 144) rfl)))) (mvT hZ (hw _ (List.mem_of_getElem? (i := 144) rfl))) (mvT hZ (hw _ (List.mem_of_getElem? (i := 143) rfl))) (by decide) (backOf (W := 2) (rmgb l Z a0 hw [] s0 u v0 q0 (97 : Int32) cs h234 n0 Z234 E_s0_234 F_coder_s0_234 F_value_s0_234 V_v0_234 E_v0_234 (by decide) S_INSTANCE S_COMPACT_STRINGS Od234 hcs) hZ (hw _ (List.mem_of_getElem? (i := 145) rfl)) (hw _ (List.mem_of_getElem? (i := 78) rfl)) (by decide) (by decide)) q240a q240c (g := (mkF m 47 #[rv a1, rv a2, iv (0 : Int32)] [(.ref u), (.ref s0), (.int (0 : Int32)), (.ref b233)])) rfl (by rw [hml]; rfl) (Steps.refl _) (argsL := [(.ref u)]) (rest := [(.int (0 : Int32)), (.ref b233)]) (lenOf pd__28_Ljava_2f_nio_2f_charset_2f_Charset_3b__29__5b_B rfl) rfl (by show 2 * 0 + _ ≤ _; exact Nat.le_of_eq rfl) (hb hby d5_47) (fun _ _ => ⟨rfl, e239, (by decide : 1 + 1 ≤ _), (by decide : 3 + 1 ≤ _)⟩)
  dsimp only [Pt.U, Pt.locs, Pt.cells, Pt.slots] at X240 l240 y240 z240 st240 hQ240
  subst l240 y240 z240
  refine own_go st240 ?_
  obtain ⟨b_240, rfl, Nq240, K240, g_b_240, sb_b_240, r240_0, r240_1⟩ := hQ240
  have ne_a1_b_240 : a1 ≠ b_240 := Nat.ne_of_lt (Nat.lt_of_lt_of_le E_a1_234.lt sb_b_240)
  have ne_a2_b_240 : a2 ≠ b_240 := Nat.ne_of_lt (Nat.lt_of_lt_of_le E_a2_234.lt sb_b_240)
  have ne_ed_b_240 : ed ≠ b_240 := Nat.ne_of_lt (Nat.lt_of_lt_of_le V_ed_234.lt sb_b_240)
  have ne_s0_b_240 : s0 ≠ b_240 := Nat.ne_of_lt (Nat.lt_of_lt_of_le E_s0_234.lt sb_b_240)
  have ne_v0_b_240 : v0 ≠ b_240 := Nat.ne_of_lt (Nat.lt_of_lt_of_le V_v0_234.lt sb_b_240)
  have ne_s1_b_240 : s1 ≠ b_240 := Nat.ne_of_lt (Nat.lt_of_lt_of_le E_s1_234.lt sb_b_240)
  have ne_v1_b_240 : v1 ≠ b_240 := Nat.ne_of_lt (Nat.lt_of_lt_of_le V_v1_234.lt sb_b_240)
  have ne_s2_b_240 : s2 ≠ b_240 := Nat.ne_of_lt (Nat.lt_of_lt_of_le E_s2_234.lt sb_b_240)
  have ne_v2_b_240 : v2 ≠ b_240 := Nat.ne_of_lt (Nat.lt_of_lt_of_le V_v2_234.lt sb_b_240)
  have ne_b233_b_240 : b233 ≠ b_240 := Nat.ne_of_lt (Nat.lt_of_lt_of_le V_b233_234.lt sb_b_240)
  have sz_b_240 : h0.size ≤ b_240 := Nat.le_trans K234.1 sb_b_240
  have Od240 := Od234.keep K240 all0
  have E_a1_240 := E_a1_234.keep K240
  have F_ids_a1_240 := F_ids_a1_234.keep K240 nin0
  have F_none_a1_240 := F_none_a1_234.keep K240 nin0
  have F_following_a1_240 := F_following_a1_234.keep K240 nin0
  have F_last_a1_240 := F_last_a1_234.keep K240 nin0
  have E_a2_240 := E_a2_234.keep K240
  have F_size_a2_240 := F_size_a2_234.keep K240 nin0
  have F_elementData_a2_240 := F_elementData_a2_234.keep K240 nin0
  have V_ed_240 := V_ed_234.keep K240 nin0
  have E_s0_240 := E_s0_234.keep K240
  have F_coder_s0_240 := F_coder_s0_234.keep K240 nin0
  have F_value_s0_240 := F_value_s0_234.keep K240 nin0
  have V_v0_240 := V_v0_234.keep K240 nin0
  have E_v0_240 := E_v0_234.keep K240
  have E_s1_240 := E_s1_234.keep K240
  have F_coder_s1_240 := F_coder_s1_234.keep K240 nin0
  have F_value_s1_240 := F_value_s1_234.keep K240 nin0
  have V_v1_240 := V_v1_234.keep K240 nin0
  have E_v1_240 := E_v1_234.keep K240
  have E_s2_240 := E_s2_234.keep K240
  have F_coder_s2_240 := F_coder_s2_234.keep K240 nin0
  have F_value_s2_240 := F_value_s2_234.keep K240 nin0
  have V_v2_240 := V_v2_234.keep K240 nin0
  have E_v2_240 := E_v2_234.keep K240
  have V_b233_240 := V_b233_234.keep K240 nin0
  have E_b233_240 := E_b233_234.keep K240
  have Z240 : n0 ≤ T240.heap.size := Nat.le_trans Z234 K240.1
  have Kt240 := K234.trans K240 all0
  have N240 := Fr.app N237 Nq240
  show own_Fin _ _ _ _ (T240.setTop (mkF m 50 #[rv a1, rv a2, iv (0 : Int32)] [(.ref b_240), (.int (0 : Int32)), (.ref b233)]))
  obtain ⟨cl241, Ar241, qa241, Sa241, Na241, Ha241, Ga241⟩ := id V_b233_240
  have hin241 : ¬ ((0 : Int32) < 0 ∨ cl241.slots.size ≤ ((0 : Int32)).toNatClampNeg) := inb_of Sa241 ⟨by decide, by decide⟩
  obtain ⟨T242, h242, X242, e242, W242, st242⟩ := stR X240 hx hZ rfl Ar241 (j := (0 : Int32)) hin241 rfl (Sto.ofVA Ar241 qa241 O233 (Ins.self r240_1)) (g := (mkF m 50 #[rv a1, rv a2, iv (0 : Int32)] [(.ref b_240), (.int (0 : Int32)), (.ref b233)])) rfl rfl (hb hby d5_50)
  refine own_by st242 ?_
  have V_b233_242 : Arv Z h242 b233 k233 (.array .byte) (3 : Int32) [(.ref b_240), .null, .null] .null := Arv.set Ar241 qa241 Sa241 Na241 Ha241 Ga241 rfl W242 0 rfl (Nat.le_of_ble_eq_true rfl)
  have Od242 := Od240.wr W242 g_b233
  have E_a1_242 := E_a1_240.wr W242
  have F_ids_a1_242 := F_ids_a1_240.other W242 (Or.inl ne_a1_b233)
  have F_none_a1_242 := F_none_a1_240.other W242 (Or.inl ne_a1_b233)
  have F_following_a1_242 := F_following_a1_240.other W242 (Or.inl ne_a1_b233)
  have F_last_a1_242 := F_last_a1_240.other W242 (Or.inl ne_a1_b233)
  have E_a2_242 := E_a2_240.wr W242
  have F_size_a2_242 := F_size_a2_240.other W242 (Or.inl ne_a2_b233)
  have F_elementData_a2_242 := F_elementData_a2_240.other W242 (Or.inl ne_a2_b233)
  have V_ed_242 := V_ed_240.other W242 ne_ed_b233
  have E_s0_242 := E_s0_240.wr W242
  have F_coder_s0_242 := F_coder_s0_240.other W242 (Or.inl ne_s0_b233)
  have F_value_s0_242 := F_value_s0_240.other W242 (Or.inl ne_s0_b233)
  have V_v0_242 := V_v0_240.other W242 ne_v0_b233
  have E_v0_242 := E_v0_240.wr W242
  have E_s1_242 := E_s1_240.wr W242
  have F_coder_s1_242 := F_coder_s1_240.other W242 (Or.inl ne_s1_b233)
  have F_value_s1_242 := F_value_s1_240.other W242 (Or.inl ne_s1_b233)
  have V_v1_242 := V_v1_240.other W242 ne_v1_b233
  have E_v1_242 := E_v1_240.wr W242
  have E_s2_242 := E_s2_240.wr W242
  have F_coder_s2_242 := F_coder_s2_240.other W242 (Or.inl ne_s2_b233)
  have F_value_s2_242 := F_value_s2_240.other W242 (Or.inl ne_s2_b233)
  have V_v2_242 := V_v2_240.other W242 ne_v2_b233
  have E_v2_242 := E_v2_240.wr W242
  have E_b233_242 := E_b233_240.wr W242
  have r240_0_242 := r240_0.other W242 (Ne.symm ne_b233_b_240)
  have r240_1_242 := r240_1.wr W242
  have N242 := Fr.snoc X242 N240 g_b233
  have Z242 : n0 ≤ h242.size := Nat.le_trans Z240 (Keep.of_wr W242).1
  have K242 := Kt240.wr W242 (Or.inr sz_b233)
  show own_Fin _ _ _ _ (T242.setTop (mkF m 51 #[rv a1, rv a2, iv (0 : Int32)] []))
  refine own_go (XS.iinc X242.here hx rfl (hb hby d5_51) rfl rfl (Steps.refl _)) ?_
  show own_Fin _ _ _ _ (T242.setTop (mkF m 54 #[rv a1, rv a2, iv (1 : Int32)] []))
  refine own_go (XS.goto X242.here hx rfl (pc0 := 54) (pc' := 19) rfl (hb hby d5_54) (by decide) (by decide) (Steps.refl _)) ?_
  show own_Fin _ _ _ _ (T242.setTop (mkF m 19 #[rv a1, rv a2, iv (1 : Int32)] []))
  refine own_go (XS.iloadN X242.here hx rfl (hb hby d5_19) rfl (Steps.refl _)) ?_
  show own_Fin _ _ _ _ (T242.setTop (mkF m 20 #[rv a1, rv a2, iv (1 : Int32)] [(.int (1 : Int32))]))
  refine own_go (XS.aloadN X242.here hx rfl (hb hby d5_20) rfl rfl (Steps.refl _)) ?_
  show own_Fin _ _ _ _ (T242.setTop (mkF m 21 #[rv a1, rv a2, iv (1 : Int32)] [(.ref a2), (.int (1 : Int32))]))
  obtain ⟨cq243, kq243, q243a, q243b, q243c⟩ := isOf hZ e242 E_a2_242
  obtain ⟨_, _, ⟨T243, L243, k243, n243⟩, -, X243, ⟨Lc243, hQ243, l243, y243, z243⟩, st243⟩ := X242.interfaceBack hx (xi := (⟨"java/util/List", "size", "()I"⟩ : MethodName)) (y := (⟨"java/util/ArrayList", "size", "()I"⟩ : MethodName)) hown (mvT hZ (hw _ (List.mem_of_getElem? (i := 33) rfl))) (mvT hZ (hw _ (List.mem_of_getElem? (i := 34) rfl))) (mvT hZ (hw _ (List.mem_of_getElem? (i := 35) rfl))) (mvT hZ (hw _ (List.mem_of_getElem? (i := 36) rfl))) (mvT hZ (hw _ (List.mem_of_getElem? (i := 37) rfl))) (mvT hZ (hw _ (List.mem_of_getElem? (i := 38) rfl))) (mvT hZ (hw _ (List.mem_of_getElem? (i := 39) rfl))) (mvT hZ (hw _ (List.mem_of_getElem? (i := 40) rfl))) (by decide) (backOf (W := 1) (rmsize l Z a0 hw [] a2 (3 : Int32) h242 n0 Z242 F_size_a2_242) hZ (hw _ (List.mem_of_getElem? (i := 41) rfl)) (hw _ (List.mem_of_getElem? (i := 2) rfl)) (by decide) (by decide)) q243a q243b q243c (g := (mkF m 21 #[rv a1, rv a2, iv (1 : Int32)] [(.ref a2), (.int (1 : Int32))])) rfl (by rw [hml]; rfl) (Steps.refl _) (argsL := []) (rest := [(.int (1 : Int32))]) (lenOf pd__28__29_I rfl) rfl (by show 2 * 0 + _ ≤ _; exact Nat.le_of_eq rfl) (hb hby d5_21) (fun _ _ => ⟨rfl, e242, (by decide : 2 + 0 ≤ _), (by decide : 4 + 0 ≤ _)⟩)
  dsimp only [Pt.U, Pt.locs, Pt.cells, Pt.slots] at X243 l243 y243 z243 st243 hQ243
  subst l243 y243 z243
  obtain ⟨rfl, Nq243, e243⟩ := hQ243
  refine own_go st243 ?_
  have N243 := Fr.app N242 Nq243
  show own_Fin _ _ _ _ (T243.setTop (mkF m 26 #[rv a1, rv a2, iv (1 : Int32)] [(.int (3 : Int32)), (.int (1 : Int32))]))
  refine own_go (XS.icmpNo X243.here hx rfl (hb hby d5_26) rfl (tlt (by decide : (1 : Int32) < (3 : Int32))).2.1 (Steps.refl _)) ?_
  show own_Fin _ _ _ _ (T243.setTop (mkF m 29 #[rv a1, rv a2, iv (1 : Int32)] []))
  refine own_go (XS.aloadN X243.here hx rfl (hb hby d5_29) rfl rfl (Steps.refl _)) ?_
  show own_Fin _ _ _ _ (T243.setTop (mkF m 30 #[rv a1, rv a2, iv (1 : Int32)] [(.ref a1)]))
  obtain ⟨T244, X244, e244, st244⟩ := getF X243 hx hZ hown (host := "") (Or.inl (hw _ (List.mem_of_getElem? (i := 46) rfl))) Via.refl e243 F_ids_a1_242 (g := (mkF m 30 #[rv a1, rv a2, iv (1 : Int32)] [(.ref a1)])) rfl rfl (hb hby d5_30)
  refine own_by st244 ?_
  show own_Fin _ _ _ _ (T244.setTop (mkF m 33 #[rv a1, rv a2, iv (1 : Int32)] [(.ref b233)]))
  refine own_go (XS.iloadN X244.here hx rfl (hb hby d5_33) rfl (Steps.refl _)) ?_
  show own_Fin _ _ _ _ (T244.setTop (mkF m 34 #[rv a1, rv a2, iv (1 : Int32)] [(.int (1 : Int32)), (.ref b233)]))
  refine own_go (XS.aloadN X244.here hx rfl (hb hby d5_34) rfl rfl (Steps.refl _)) ?_
  show own_Fin _ _ _ _ (T244.setTop (mkF m 35 #[rv a1, rv a2, iv (1 : Int32)] [(.ref a2), (.int (1 : Int32)), (.ref b233)]))
  refine own_go (XS.iloadN X244.here hx rfl (hb hby d5_35) rfl (Steps.refl _)) ?_
  show own_Fin _ _ _ _ (T244.setTop (mkF m 36 #[rv a1, rv a2, iv (1 : Int32)] [(.int (1 : Int32)), (.ref a2), (.int (1 : Int32)), (.ref b233)]))
  obtain ⟨cq245, kq245, q245a, q245b, q245c⟩ := isOf hZ e244 E_a2_242
  obtain ⟨_, _, ⟨T245, L245, k245, n245⟩, -, X245, ⟨Lc245, hQ245, l245, y245, z245⟩, st245⟩ := X244.interfaceBack hx (xi := (⟨"java/util/List", "get", "(I)Ljava/lang/Object;"⟩ : MethodName)) (y := (⟨"java/util/ArrayList", "get", "(I)Ljava/lang/Object;"⟩ : MethodName)) hown (mvT hZ (hw _ (List.mem_of_getElem? (i := 116) rfl))) (mvT hZ (hw _ (List.mem_of_getElem? (i := 117) rfl))) (mvT hZ (hw _ (List.mem_of_getElem? (i := 118) rfl))) (mvT hZ (hw _ (List.mem_of_getElem? (i := 119) rfl))) (mvT hZ (hw _ (List.mem_of_getElem? (i := 120) rfl))) (mvT hZ (hw _ (List.mem_of_getElem? (i := 121) rfl))) (mvT hZ (hw _ (List.mem_of_getElem? (i := 122) rfl))) (mvT hZ (hw _ (List.mem_of_getElem? (i := 40) rfl))) (by decide) (backOf (W := 2) (rmget_3_1 l Z a0 hw [] a2 ed ke s0 s1 s2 h242 n0 Z242 E_a2_242 F_size_a2_242 F_elementData_a2_242 V_ed_242) hZ (hw _ (List.mem_of_getElem? (i := 123) rfl)) (hw _ (List.mem_of_getElem? (i := 2) rfl)) (by decide) (by decide)) q245a q245b q245c (g := (mkF m 36 #[rv a1, rv a2, iv (1 : Int32)] [(.int (1 : Int32)), (.ref a2), (.int (1 : Int32)), (.ref b233)])) rfl (by rw [hml]; rfl) (Steps.refl _) (argsL := [(.int (1 : Int32))]) (rest := [(.int (1 : Int32)), (.ref b233)]) (lenOf pd__28_I_29_Ljava_2f_lang_2f_Object_3b_ rfl) rfl (by show 2 * 0 + _ ≤ _; exact Nat.le_of_eq rfl) (hb hby d5_36) (fun _ _ => ⟨rfl, e244, (by decide : 2 + 0 ≤ _), (by decide : 4 + 0 ≤ _)⟩)
  dsimp only [Pt.U, Pt.locs, Pt.cells, Pt.slots] at X245 l245 y245 z245 st245 hQ245
  subst l245 y245 z245
  obtain ⟨rfl, Nq245, e245⟩ := hQ245
  refine own_go st245 ?_
  have N245 := Fr.app N243 Nq245
  show own_Fin _ _ _ _ (T245.setTop (mkF m 41 #[rv a1, rv a2, iv (1 : Int32)] [(.ref s1), (.int (1 : Int32)), (.ref b233)]))
  obtain ⟨T246, X246, e246, st246⟩ := castY X245 hx hZ hown (hw _ (List.mem_of_getElem? (i := 137) rfl)) e245 (Ins.self E_s1_242) (g := (mkF m 41 #[rv a1, rv a2, iv (1 : Int32)] [(.ref s1), (.int (1 : Int32)), (.ref b233)])) rfl rfl (hb hby d5_41)
  refine own_by st246 ?_
  show own_Fin _ _ _ _ (T246.setTop (mkF m 44 #[rv a1, rv a2, iv (1 : Int32)] [(.ref s1), (.int (1 : Int32)), (.ref b233)]))
  obtain ⟨T247, X247, e247, st247⟩ := getS2 X246 hx hZ hown (host := "") (Or.inl (hw _ (List.mem_of_getElem? (i := 139) rfl))) Via.refl e246 (S_UTF_8.ext Od242.2) (g := (mkF m 44 #[rv a1, rv a2, iv (1 : Int32)] [(.ref s1), (.int (1 : Int32)), (.ref b233)])) rfl (hb hby d5_44)
  refine own_by st247 ?_
  show own_Fin _ _ _ _ (T247.setTop (mkF m 47 #[rv a1, rv a2, iv (1 : Int32)] [(.ref u), (.ref s1), (.int (1 : Int32)), (.ref b233)]))
  obtain ⟨cq248, kq248, q248a, q248b, q248c⟩ := isOf hZ e247 E_s1_242
  obtain ⟨_, _, ⟨T248, L248, k248, n248⟩, -, X248, ⟨Lc248, hQ248, l248, y248, z248⟩, st248⟩ := X247.virtualBack hx (y := (⟨"java/lang/String", "getBytes", "(Ljava/nio/charset/Charset;)[B"⟩ : MethodName)) (z := (⟨"java/lang/String", "getBytes", "(Ljava/nio/charset/Charset;)[B"⟩ : MethodName)) hown (mvT hZ (hw _ (List.mem_of_getElem? (i := 141) rfl))) (mvT hZ (hw _ (List.mem_of_getElem? (i := 142) rfl))) (notFace_of_selects (args := #[]) (mvT hZ (hw _ (List.mem_of_getElem? (i := 144) rfl)))) (mvT hZ (hw _ (List.mem_of_getElem? (i := 144) rfl))) (mvT hZ (hw _ (List.mem_of_getElem? (i := 143) rfl))) (by decide) (backOf (W := 2) (rmgb l Z a0 hw [] s1 u v1 q1 (98 : Int32) cs h242 n0 Z242 E_s1_242 F_coder_s1_242 F_value_s1_242 V_v1_242 E_v1_242 (by decide) S_INSTANCE S_COMPACT_STRINGS Od242 hcs) hZ (hw _ (List.mem_of_getElem? (i := 145) rfl)) (hw _ (List.mem_of_getElem? (i := 78) rfl)) (by decide) (by decide)) q248a q248c (g := (mkF m 47 #[rv a1, rv a2, iv (1 : Int32)] [(.ref u), (.ref s1), (.int (1 : Int32)), (.ref b233)])) rfl (by rw [hml]; rfl) (Steps.refl _) (argsL := [(.ref u)]) (rest := [(.int (1 : Int32)), (.ref b233)]) (lenOf pd__28_Ljava_2f_nio_2f_charset_2f_Charset_3b__29__5b_B rfl) rfl (by show 2 * 0 + _ ≤ _; exact Nat.le_of_eq rfl) (hb hby d5_47) (fun _ _ => ⟨rfl, e247, (by decide : 2 + 1 ≤ _), (by decide : 4 + 1 ≤ _)⟩)
  dsimp only [Pt.U, Pt.locs, Pt.cells, Pt.slots] at X248 l248 y248 z248 st248 hQ248
  subst l248 y248 z248
  refine own_go st248 ?_
  obtain ⟨b_248, rfl, Nq248, K248, g_b_248, sb_b_248, r248_0, r248_1⟩ := hQ248
  have ne_a1_b_248 : a1 ≠ b_248 := Nat.ne_of_lt (Nat.lt_of_lt_of_le E_a1_242.lt sb_b_248)
  have ne_a2_b_248 : a2 ≠ b_248 := Nat.ne_of_lt (Nat.lt_of_lt_of_le E_a2_242.lt sb_b_248)
  have ne_ed_b_248 : ed ≠ b_248 := Nat.ne_of_lt (Nat.lt_of_lt_of_le V_ed_242.lt sb_b_248)
  have ne_s0_b_248 : s0 ≠ b_248 := Nat.ne_of_lt (Nat.lt_of_lt_of_le E_s0_242.lt sb_b_248)
  have ne_v0_b_248 : v0 ≠ b_248 := Nat.ne_of_lt (Nat.lt_of_lt_of_le V_v0_242.lt sb_b_248)
  have ne_s1_b_248 : s1 ≠ b_248 := Nat.ne_of_lt (Nat.lt_of_lt_of_le E_s1_242.lt sb_b_248)
  have ne_v1_b_248 : v1 ≠ b_248 := Nat.ne_of_lt (Nat.lt_of_lt_of_le V_v1_242.lt sb_b_248)
  have ne_s2_b_248 : s2 ≠ b_248 := Nat.ne_of_lt (Nat.lt_of_lt_of_le E_s2_242.lt sb_b_248)
  have ne_v2_b_248 : v2 ≠ b_248 := Nat.ne_of_lt (Nat.lt_of_lt_of_le V_v2_242.lt sb_b_248)
  have ne_b233_b_248 : b233 ≠ b_248 := Nat.ne_of_lt (Nat.lt_of_lt_of_le V_b233_242.lt sb_b_248)
  have ne_b_240_b_248 : b_240 ≠ b_248 := Nat.ne_of_lt (Nat.lt_of_lt_of_le r240_0_242.lt sb_b_248)
  have sz_b_248 : h0.size ≤ b_248 := Nat.le_trans K242.1 sb_b_248
  have Od248 := Od242.keep K248 all0
  have E_a1_248 := E_a1_242.keep K248
  have F_ids_a1_248 := F_ids_a1_242.keep K248 nin0
  have F_none_a1_248 := F_none_a1_242.keep K248 nin0
  have F_following_a1_248 := F_following_a1_242.keep K248 nin0
  have F_last_a1_248 := F_last_a1_242.keep K248 nin0
  have E_a2_248 := E_a2_242.keep K248
  have F_size_a2_248 := F_size_a2_242.keep K248 nin0
  have F_elementData_a2_248 := F_elementData_a2_242.keep K248 nin0
  have V_ed_248 := V_ed_242.keep K248 nin0
  have E_s0_248 := E_s0_242.keep K248
  have F_coder_s0_248 := F_coder_s0_242.keep K248 nin0
  have F_value_s0_248 := F_value_s0_242.keep K248 nin0
  have V_v0_248 := V_v0_242.keep K248 nin0
  have E_v0_248 := E_v0_242.keep K248
  have E_s1_248 := E_s1_242.keep K248
  have F_coder_s1_248 := F_coder_s1_242.keep K248 nin0
  have F_value_s1_248 := F_value_s1_242.keep K248 nin0
  have V_v1_248 := V_v1_242.keep K248 nin0
  have E_v1_248 := E_v1_242.keep K248
  have E_s2_248 := E_s2_242.keep K248
  have F_coder_s2_248 := F_coder_s2_242.keep K248 nin0
  have F_value_s2_248 := F_value_s2_242.keep K248 nin0
  have V_v2_248 := V_v2_242.keep K248 nin0
  have E_v2_248 := E_v2_242.keep K248
  have V_b233_248 := V_b233_242.keep K248 nin0
  have E_b233_248 := E_b233_242.keep K248
  have r240_0_248 := r240_0_242.keep K248 nin0
  have r240_1_248 := r240_1_242.keep K248
  have Z248 : n0 ≤ T248.heap.size := Nat.le_trans Z242 K248.1
  have Kt248 := K242.trans K248 all0
  have N248 := Fr.app N245 Nq248
  show own_Fin _ _ _ _ (T248.setTop (mkF m 50 #[rv a1, rv a2, iv (1 : Int32)] [(.ref b_248), (.int (1 : Int32)), (.ref b233)]))
  obtain ⟨cl249, Ar249, qa249, Sa249, Na249, Ha249, Ga249⟩ := id V_b233_248
  have hin249 : ¬ ((1 : Int32) < 0 ∨ cl249.slots.size ≤ ((1 : Int32)).toNatClampNeg) := inb_of Sa249 ⟨by decide, by decide⟩
  obtain ⟨T250, h250, X250, e250, W250, st250⟩ := stR X248 hx hZ rfl Ar249 (j := (1 : Int32)) hin249 rfl (Sto.ofVA Ar249 qa249 O233 (Ins.self r248_1)) (g := (mkF m 50 #[rv a1, rv a2, iv (1 : Int32)] [(.ref b_248), (.int (1 : Int32)), (.ref b233)])) rfl rfl (hb hby d5_50)
  refine own_by st250 ?_
  have V_b233_250 : Arv Z h250 b233 k233 (.array .byte) (3 : Int32) [(.ref b_240), (.ref b_248), .null] .null := Arv.set Ar249 qa249 Sa249 Na249 Ha249 Ga249 rfl W250 1 rfl (Nat.le_of_ble_eq_true rfl)
  have Od250 := Od248.wr W250 g_b233
  have E_a1_250 := E_a1_248.wr W250
  have F_ids_a1_250 := F_ids_a1_248.other W250 (Or.inl ne_a1_b233)
  have F_none_a1_250 := F_none_a1_248.other W250 (Or.inl ne_a1_b233)
  have F_following_a1_250 := F_following_a1_248.other W250 (Or.inl ne_a1_b233)
  have F_last_a1_250 := F_last_a1_248.other W250 (Or.inl ne_a1_b233)
  have E_a2_250 := E_a2_248.wr W250
  have F_size_a2_250 := F_size_a2_248.other W250 (Or.inl ne_a2_b233)
  have F_elementData_a2_250 := F_elementData_a2_248.other W250 (Or.inl ne_a2_b233)
  have V_ed_250 := V_ed_248.other W250 ne_ed_b233
  have E_s0_250 := E_s0_248.wr W250
  have F_coder_s0_250 := F_coder_s0_248.other W250 (Or.inl ne_s0_b233)
  have F_value_s0_250 := F_value_s0_248.other W250 (Or.inl ne_s0_b233)
  have V_v0_250 := V_v0_248.other W250 ne_v0_b233
  have E_v0_250 := E_v0_248.wr W250
  have E_s1_250 := E_s1_248.wr W250
  have F_coder_s1_250 := F_coder_s1_248.other W250 (Or.inl ne_s1_b233)
  have F_value_s1_250 := F_value_s1_248.other W250 (Or.inl ne_s1_b233)
  have V_v1_250 := V_v1_248.other W250 ne_v1_b233
  have E_v1_250 := E_v1_248.wr W250
  have E_s2_250 := E_s2_248.wr W250
  have F_coder_s2_250 := F_coder_s2_248.other W250 (Or.inl ne_s2_b233)
  have F_value_s2_250 := F_value_s2_248.other W250 (Or.inl ne_s2_b233)
  have V_v2_250 := V_v2_248.other W250 ne_v2_b233
  have E_v2_250 := E_v2_248.wr W250
  have E_b233_250 := E_b233_248.wr W250
  have r240_0_250 := r240_0_248.other W250 (Ne.symm ne_b233_b_240)
  have r240_1_250 := r240_1_248.wr W250
  have r248_0_250 := r248_0.other W250 (Ne.symm ne_b233_b_248)
  have r248_1_250 := r248_1.wr W250
  have N250 := Fr.snoc X250 N248 g_b233
  have Z250 : n0 ≤ h250.size := Nat.le_trans Z248 (Keep.of_wr W250).1
  have K250 := Kt248.wr W250 (Or.inr sz_b233)
  show own_Fin _ _ _ _ (T250.setTop (mkF m 51 #[rv a1, rv a2, iv (1 : Int32)] []))
  refine own_go (XS.iinc X250.here hx rfl (hb hby d5_51) rfl rfl (Steps.refl _)) ?_
  show own_Fin _ _ _ _ (T250.setTop (mkF m 54 #[rv a1, rv a2, iv (2 : Int32)] []))
  refine own_go (XS.goto X250.here hx rfl (pc0 := 54) (pc' := 19) rfl (hb hby d5_54) (by decide) (by decide) (Steps.refl _)) ?_
  show own_Fin _ _ _ _ (T250.setTop (mkF m 19 #[rv a1, rv a2, iv (2 : Int32)] []))
  refine own_go (XS.iloadN X250.here hx rfl (hb hby d5_19) rfl (Steps.refl _)) ?_
  show own_Fin _ _ _ _ (T250.setTop (mkF m 20 #[rv a1, rv a2, iv (2 : Int32)] [(.int (2 : Int32))]))
  refine own_go (XS.aloadN X250.here hx rfl (hb hby d5_20) rfl rfl (Steps.refl _)) ?_
  show own_Fin _ _ _ _ (T250.setTop (mkF m 21 #[rv a1, rv a2, iv (2 : Int32)] [(.ref a2), (.int (2 : Int32))]))
  obtain ⟨cq251, kq251, q251a, q251b, q251c⟩ := isOf hZ e250 E_a2_250
  obtain ⟨_, _, ⟨T251, L251, k251, n251⟩, -, X251, ⟨Lc251, hQ251, l251, y251, z251⟩, st251⟩ := X250.interfaceBack hx (xi := (⟨"java/util/List", "size", "()I"⟩ : MethodName)) (y := (⟨"java/util/ArrayList", "size", "()I"⟩ : MethodName)) hown (mvT hZ (hw _ (List.mem_of_getElem? (i := 33) rfl))) (mvT hZ (hw _ (List.mem_of_getElem? (i := 34) rfl))) (mvT hZ (hw _ (List.mem_of_getElem? (i := 35) rfl))) (mvT hZ (hw _ (List.mem_of_getElem? (i := 36) rfl))) (mvT hZ (hw _ (List.mem_of_getElem? (i := 37) rfl))) (mvT hZ (hw _ (List.mem_of_getElem? (i := 38) rfl))) (mvT hZ (hw _ (List.mem_of_getElem? (i := 39) rfl))) (mvT hZ (hw _ (List.mem_of_getElem? (i := 40) rfl))) (by decide) (backOf (W := 1) (rmsize l Z a0 hw [] a2 (3 : Int32) h250 n0 Z250 F_size_a2_250) hZ (hw _ (List.mem_of_getElem? (i := 41) rfl)) (hw _ (List.mem_of_getElem? (i := 2) rfl)) (by decide) (by decide)) q251a q251b q251c (g := (mkF m 21 #[rv a1, rv a2, iv (2 : Int32)] [(.ref a2), (.int (2 : Int32))])) rfl (by rw [hml]; rfl) (Steps.refl _) (argsL := []) (rest := [(.int (2 : Int32))]) (lenOf pd__28__29_I rfl) rfl (by show 2 * 0 + _ ≤ _; exact Nat.le_of_eq rfl) (hb hby d5_21) (fun _ _ => ⟨rfl, e250, (by decide : 3 + 0 ≤ _), (by decide : 5 + 0 ≤ _)⟩)
  dsimp only [Pt.U, Pt.locs, Pt.cells, Pt.slots] at X251 l251 y251 z251 st251 hQ251
  subst l251 y251 z251
  obtain ⟨rfl, Nq251, e251⟩ := hQ251
  refine own_go st251 ?_
  have N251 := Fr.app N250 Nq251
  show own_Fin _ _ _ _ (T251.setTop (mkF m 26 #[rv a1, rv a2, iv (2 : Int32)] [(.int (3 : Int32)), (.int (2 : Int32))]))
  refine own_go (XS.icmpNo X251.here hx rfl (hb hby d5_26) rfl (tlt (by decide : (2 : Int32) < (3 : Int32))).2.1 (Steps.refl _)) ?_
  show own_Fin _ _ _ _ (T251.setTop (mkF m 29 #[rv a1, rv a2, iv (2 : Int32)] []))
  refine own_go (XS.aloadN X251.here hx rfl (hb hby d5_29) rfl rfl (Steps.refl _)) ?_
  show own_Fin _ _ _ _ (T251.setTop (mkF m 30 #[rv a1, rv a2, iv (2 : Int32)] [(.ref a1)]))
  obtain ⟨T252, X252, e252, st252⟩ := getF X251 hx hZ hown (host := "") (Or.inl (hw _ (List.mem_of_getElem? (i := 46) rfl))) Via.refl e251 F_ids_a1_250 (g := (mkF m 30 #[rv a1, rv a2, iv (2 : Int32)] [(.ref a1)])) rfl rfl (hb hby d5_30)
  refine own_by st252 ?_
  show own_Fin _ _ _ _ (T252.setTop (mkF m 33 #[rv a1, rv a2, iv (2 : Int32)] [(.ref b233)]))
  refine own_go (XS.iloadN X252.here hx rfl (hb hby d5_33) rfl (Steps.refl _)) ?_
  show own_Fin _ _ _ _ (T252.setTop (mkF m 34 #[rv a1, rv a2, iv (2 : Int32)] [(.int (2 : Int32)), (.ref b233)]))
  refine own_go (XS.aloadN X252.here hx rfl (hb hby d5_34) rfl rfl (Steps.refl _)) ?_
  show own_Fin _ _ _ _ (T252.setTop (mkF m 35 #[rv a1, rv a2, iv (2 : Int32)] [(.ref a2), (.int (2 : Int32)), (.ref b233)]))
  refine own_go (XS.iloadN X252.here hx rfl (hb hby d5_35) rfl (Steps.refl _)) ?_
  show own_Fin _ _ _ _ (T252.setTop (mkF m 36 #[rv a1, rv a2, iv (2 : Int32)] [(.int (2 : Int32)), (.ref a2), (.int (2 : Int32)), (.ref b233)]))
  obtain ⟨cq253, kq253, q253a, q253b, q253c⟩ := isOf hZ e252 E_a2_250
  obtain ⟨_, _, ⟨T253, L253, k253, n253⟩, -, X253, ⟨Lc253, hQ253, l253, y253, z253⟩, st253⟩ := X252.interfaceBack hx (xi := (⟨"java/util/List", "get", "(I)Ljava/lang/Object;"⟩ : MethodName)) (y := (⟨"java/util/ArrayList", "get", "(I)Ljava/lang/Object;"⟩ : MethodName)) hown (mvT hZ (hw _ (List.mem_of_getElem? (i := 116) rfl))) (mvT hZ (hw _ (List.mem_of_getElem? (i := 117) rfl))) (mvT hZ (hw _ (List.mem_of_getElem? (i := 118) rfl))) (mvT hZ (hw _ (List.mem_of_getElem? (i := 119) rfl))) (mvT hZ (hw _ (List.mem_of_getElem? (i := 120) rfl))) (mvT hZ (hw _ (List.mem_of_getElem? (i := 121) rfl))) (mvT hZ (hw _ (List.mem_of_getElem? (i := 122) rfl))) (mvT hZ (hw _ (List.mem_of_getElem? (i := 40) rfl))) (by decide) (backOf (W := 2) (rmget_3_2 l Z a0 hw [] a2 ed ke s0 s1 s2 h250 n0 Z250 E_a2_250 F_size_a2_250 F_elementData_a2_250 V_ed_250) hZ (hw _ (List.mem_of_getElem? (i := 123) rfl)) (hw _ (List.mem_of_getElem? (i := 2) rfl)) (by decide) (by decide)) q253a q253b q253c (g := (mkF m 36 #[rv a1, rv a2, iv (2 : Int32)] [(.int (2 : Int32)), (.ref a2), (.int (2 : Int32)), (.ref b233)])) rfl (by rw [hml]; rfl) (Steps.refl _) (argsL := [(.int (2 : Int32))]) (rest := [(.int (2 : Int32)), (.ref b233)]) (lenOf pd__28_I_29_Ljava_2f_lang_2f_Object_3b_ rfl) rfl (by show 2 * 0 + _ ≤ _; exact Nat.le_of_eq rfl) (hb hby d5_36) (fun _ _ => ⟨rfl, e252, (by decide : 3 + 0 ≤ _), (by decide : 5 + 0 ≤ _)⟩)
  dsimp only [Pt.U, Pt.locs, Pt.cells, Pt.slots] at X253 l253 y253 z253 st253 hQ253
  subst l253 y253 z253
  obtain ⟨rfl, Nq253, e253⟩ := hQ253
  refine own_go st253 ?_
  have N253 := Fr.app N251 Nq253
  show own_Fin _ _ _ _ (T253.setTop (mkF m 41 #[rv a1, rv a2, iv (2 : Int32)] [(.ref s2), (.int (2 : Int32)), (.ref b233)]))
  obtain ⟨T254, X254, e254, st254⟩ := castY X253 hx hZ hown (hw _ (List.mem_of_getElem? (i := 137) rfl)) e253 (Ins.self E_s2_250) (g := (mkF m 41 #[rv a1, rv a2, iv (2 : Int32)] [(.ref s2), (.int (2 : Int32)), (.ref b233)])) rfl rfl (hb hby d5_41)
  refine own_by st254 ?_
  show own_Fin _ _ _ _ (T254.setTop (mkF m 44 #[rv a1, rv a2, iv (2 : Int32)] [(.ref s2), (.int (2 : Int32)), (.ref b233)]))
  obtain ⟨T255, X255, e255, st255⟩ := getS2 X254 hx hZ hown (host := "") (Or.inl (hw _ (List.mem_of_getElem? (i := 139) rfl))) Via.refl e254 (S_UTF_8.ext Od250.2) (g := (mkF m 44 #[rv a1, rv a2, iv (2 : Int32)] [(.ref s2), (.int (2 : Int32)), (.ref b233)])) rfl (hb hby d5_44)
  refine own_by st255 ?_
  show own_Fin _ _ _ _ (T255.setTop (mkF m 47 #[rv a1, rv a2, iv (2 : Int32)] [(.ref u), (.ref s2), (.int (2 : Int32)), (.ref b233)]))
  obtain ⟨cq256, kq256, q256a, q256b, q256c⟩ := isOf hZ e255 E_s2_250
  obtain ⟨_, _, ⟨T256, L256, k256, n256⟩, -, X256, ⟨Lc256, hQ256, l256, y256, z256⟩, st256⟩ := X255.virtualBack hx (y := (⟨"java/lang/String", "getBytes", "(Ljava/nio/charset/Charset;)[B"⟩ : MethodName)) (z := (⟨"java/lang/String", "getBytes", "(Ljava/nio/charset/Charset;)[B"⟩ : MethodName)) hown (mvT hZ (hw _ (List.mem_of_getElem? (i := 141) rfl))) (mvT hZ (hw _ (List.mem_of_getElem? (i := 142) rfl))) (notFace_of_selects (args := #[]) (mvT hZ (hw _ (List.mem_of_getElem? (i := 144) rfl)))) (mvT hZ (hw _ (List.mem_of_getElem? (i := 144) rfl))) (mvT hZ (hw _ (List.mem_of_getElem? (i := 143) rfl))) (by decide) (backOf (W := 2) (rmgb l Z a0 hw [] s2 u v2 q2 (99 : Int32) cs h250 n0 Z250 E_s2_250 F_coder_s2_250 F_value_s2_250 V_v2_250 E_v2_250 (by decide) S_INSTANCE S_COMPACT_STRINGS Od250 hcs) hZ (hw _ (List.mem_of_getElem? (i := 145) rfl)) (hw _ (List.mem_of_getElem? (i := 78) rfl)) (by decide) (by decide)) q256a q256c (g := (mkF m 47 #[rv a1, rv a2, iv (2 : Int32)] [(.ref u), (.ref s2), (.int (2 : Int32)), (.ref b233)])) rfl (by rw [hml]; rfl) (Steps.refl _) (argsL := [(.ref u)]) (rest := [(.int (2 : Int32)), (.ref b233)]) (lenOf pd__28_Ljava_2f_nio_2f_charset_2f_Charset_3b__29__5b_B rfl) rfl (by show 2 * 0 + _ ≤ _; exact Nat.le_of_eq rfl) (hb hby d5_47) (fun _ _ => ⟨rfl, e255, (by decide : 3 + 1 ≤ _), (by decide : 5 + 1 ≤ _)⟩)
  dsimp only [Pt.U, Pt.locs, Pt.cells, Pt.slots] at X256 l256 y256 z256 st256 hQ256
  subst l256 y256 z256
  refine own_go st256 ?_
  obtain ⟨b_256, rfl, Nq256, K256, g_b_256, sb_b_256, r256_0, r256_1⟩ := hQ256
  have ne_a1_b_256 : a1 ≠ b_256 := Nat.ne_of_lt (Nat.lt_of_lt_of_le E_a1_250.lt sb_b_256)
  have ne_a2_b_256 : a2 ≠ b_256 := Nat.ne_of_lt (Nat.lt_of_lt_of_le E_a2_250.lt sb_b_256)
  have ne_ed_b_256 : ed ≠ b_256 := Nat.ne_of_lt (Nat.lt_of_lt_of_le V_ed_250.lt sb_b_256)
  have ne_s0_b_256 : s0 ≠ b_256 := Nat.ne_of_lt (Nat.lt_of_lt_of_le E_s0_250.lt sb_b_256)
  have ne_v0_b_256 : v0 ≠ b_256 := Nat.ne_of_lt (Nat.lt_of_lt_of_le V_v0_250.lt sb_b_256)
  have ne_s1_b_256 : s1 ≠ b_256 := Nat.ne_of_lt (Nat.lt_of_lt_of_le E_s1_250.lt sb_b_256)
  have ne_v1_b_256 : v1 ≠ b_256 := Nat.ne_of_lt (Nat.lt_of_lt_of_le V_v1_250.lt sb_b_256)
  have ne_s2_b_256 : s2 ≠ b_256 := Nat.ne_of_lt (Nat.lt_of_lt_of_le E_s2_250.lt sb_b_256)
  have ne_v2_b_256 : v2 ≠ b_256 := Nat.ne_of_lt (Nat.lt_of_lt_of_le V_v2_250.lt sb_b_256)
  have ne_b233_b_256 : b233 ≠ b_256 := Nat.ne_of_lt (Nat.lt_of_lt_of_le V_b233_250.lt sb_b_256)
  have ne_b_240_b_256 : b_240 ≠ b_256 := Nat.ne_of_lt (Nat.lt_of_lt_of_le r240_0_250.lt sb_b_256)
  have ne_b_248_b_256 : b_248 ≠ b_256 := Nat.ne_of_lt (Nat.lt_of_lt_of_le r248_0_250.lt sb_b_256)
  have sz_b_256 : h0.size ≤ b_256 := Nat.le_trans K250.1 sb_b_256
  have Od256 := Od250.keep K256 all0
  have E_a1_256 := E_a1_250.keep K256
  have F_ids_a1_256 := F_ids_a1_250.keep K256 nin0
  have F_none_a1_256 := F_none_a1_250.keep K256 nin0
  have F_following_a1_256 := F_following_a1_250.keep K256 nin0
  have F_last_a1_256 := F_last_a1_250.keep K256 nin0
  have E_a2_256 := E_a2_250.keep K256
  have F_size_a2_256 := F_size_a2_250.keep K256 nin0
  have F_elementData_a2_256 := F_elementData_a2_250.keep K256 nin0
  have V_ed_256 := V_ed_250.keep K256 nin0
  have E_s0_256 := E_s0_250.keep K256
  have F_coder_s0_256 := F_coder_s0_250.keep K256 nin0
  have F_value_s0_256 := F_value_s0_250.keep K256 nin0
  have V_v0_256 := V_v0_250.keep K256 nin0
  have E_v0_256 := E_v0_250.keep K256
  have E_s1_256 := E_s1_250.keep K256
  have F_coder_s1_256 := F_coder_s1_250.keep K256 nin0
  have F_value_s1_256 := F_value_s1_250.keep K256 nin0
  have V_v1_256 := V_v1_250.keep K256 nin0
  have E_v1_256 := E_v1_250.keep K256
  have E_s2_256 := E_s2_250.keep K256
  have F_coder_s2_256 := F_coder_s2_250.keep K256 nin0
  have F_value_s2_256 := F_value_s2_250.keep K256 nin0
  have V_v2_256 := V_v2_250.keep K256 nin0
  have E_v2_256 := E_v2_250.keep K256
  have V_b233_256 := V_b233_250.keep K256 nin0
  have E_b233_256 := E_b233_250.keep K256
  have r240_0_256 := r240_0_250.keep K256 nin0
  have r240_1_256 := r240_1_250.keep K256
  have r248_0_256 := r248_0_250.keep K256 nin0
  have r248_1_256 := r248_1_250.keep K256
  have Z256 : n0 ≤ T256.heap.size := Nat.le_trans Z250 K256.1
  have Kt256 := K250.trans K256 all0
  have N256 := Fr.app N253 Nq256
  show own_Fin _ _ _ _ (T256.setTop (mkF m 50 #[rv a1, rv a2, iv (2 : Int32)] [(.ref b_256), (.int (2 : Int32)), (.ref b233)]))
  obtain ⟨cl257, Ar257, qa257, Sa257, Na257, Ha257, Ga257⟩ := id V_b233_256
  have hin257 : ¬ ((2 : Int32) < 0 ∨ cl257.slots.size ≤ ((2 : Int32)).toNatClampNeg) := inb_of Sa257 ⟨by decide, by decide⟩
  obtain ⟨T258, h258, X258, e258, W258, st258⟩ := stR X256 hx hZ rfl Ar257 (j := (2 : Int32)) hin257 rfl (Sto.ofVA Ar257 qa257 O233 (Ins.self r256_1)) (g := (mkF m 50 #[rv a1, rv a2, iv (2 : Int32)] [(.ref b_256), (.int (2 : Int32)), (.ref b233)])) rfl rfl (hb hby d5_50)
  refine own_by st258 ?_
  have V_b233_258 : Arv Z h258 b233 k233 (.array .byte) (3 : Int32) [(.ref b_240), (.ref b_248), (.ref b_256)] .null := Arv.set Ar257 qa257 Sa257 Na257 Ha257 Ga257 rfl W258 2 rfl (Nat.le_of_ble_eq_true rfl)
  have Od258 := Od256.wr W258 g_b233
  have E_a1_258 := E_a1_256.wr W258
  have F_ids_a1_258 := F_ids_a1_256.other W258 (Or.inl ne_a1_b233)
  have F_none_a1_258 := F_none_a1_256.other W258 (Or.inl ne_a1_b233)
  have F_following_a1_258 := F_following_a1_256.other W258 (Or.inl ne_a1_b233)
  have F_last_a1_258 := F_last_a1_256.other W258 (Or.inl ne_a1_b233)
  have E_a2_258 := E_a2_256.wr W258
  have F_size_a2_258 := F_size_a2_256.other W258 (Or.inl ne_a2_b233)
  have F_elementData_a2_258 := F_elementData_a2_256.other W258 (Or.inl ne_a2_b233)
  have V_ed_258 := V_ed_256.other W258 ne_ed_b233
  have E_s0_258 := E_s0_256.wr W258
  have F_coder_s0_258 := F_coder_s0_256.other W258 (Or.inl ne_s0_b233)
  have F_value_s0_258 := F_value_s0_256.other W258 (Or.inl ne_s0_b233)
  have V_v0_258 := V_v0_256.other W258 ne_v0_b233
  have E_v0_258 := E_v0_256.wr W258
  have E_s1_258 := E_s1_256.wr W258
  have F_coder_s1_258 := F_coder_s1_256.other W258 (Or.inl ne_s1_b233)
  have F_value_s1_258 := F_value_s1_256.other W258 (Or.inl ne_s1_b233)
  have V_v1_258 := V_v1_256.other W258 ne_v1_b233
  have E_v1_258 := E_v1_256.wr W258
  have E_s2_258 := E_s2_256.wr W258
  have F_coder_s2_258 := F_coder_s2_256.other W258 (Or.inl ne_s2_b233)
  have F_value_s2_258 := F_value_s2_256.other W258 (Or.inl ne_s2_b233)
  have V_v2_258 := V_v2_256.other W258 ne_v2_b233
  have E_v2_258 := E_v2_256.wr W258
  have E_b233_258 := E_b233_256.wr W258
  have r240_0_258 := r240_0_256.other W258 (Ne.symm ne_b233_b_240)
  have r240_1_258 := r240_1_256.wr W258
  have r248_0_258 := r248_0_256.other W258 (Ne.symm ne_b233_b_248)
  have r248_1_258 := r248_1_256.wr W258
  have r256_0_258 := r256_0.other W258 (Ne.symm ne_b233_b_256)
  have r256_1_258 := r256_1.wr W258
  have N258 := Fr.snoc X258 N256 g_b233
  have Z258 : n0 ≤ h258.size := Nat.le_trans Z256 (Keep.of_wr W258).1
  have K258 := Kt256.wr W258 (Or.inr sz_b233)
  show own_Fin _ _ _ _ (T258.setTop (mkF m 51 #[rv a1, rv a2, iv (2 : Int32)] []))
  refine own_go (XS.iinc X258.here hx rfl (hb hby d5_51) rfl rfl (Steps.refl _)) ?_
  show own_Fin _ _ _ _ (T258.setTop (mkF m 54 #[rv a1, rv a2, iv (3 : Int32)] []))
  refine own_go (XS.goto X258.here hx rfl (pc0 := 54) (pc' := 19) rfl (hb hby d5_54) (by decide) (by decide) (Steps.refl _)) ?_
  show own_Fin _ _ _ _ (T258.setTop (mkF m 19 #[rv a1, rv a2, iv (3 : Int32)] []))
  refine own_go (XS.iloadN X258.here hx rfl (hb hby d5_19) rfl (Steps.refl _)) ?_
  show own_Fin _ _ _ _ (T258.setTop (mkF m 20 #[rv a1, rv a2, iv (3 : Int32)] [(.int (3 : Int32))]))
  refine own_go (XS.aloadN X258.here hx rfl (hb hby d5_20) rfl rfl (Steps.refl _)) ?_
  show own_Fin _ _ _ _ (T258.setTop (mkF m 21 #[rv a1, rv a2, iv (3 : Int32)] [(.ref a2), (.int (3 : Int32))]))
  obtain ⟨cq259, kq259, q259a, q259b, q259c⟩ := isOf hZ e258 E_a2_258
  obtain ⟨_, _, ⟨T259, L259, k259, n259⟩, -, X259, ⟨Lc259, hQ259, l259, y259, z259⟩, st259⟩ := X258.interfaceBack hx (xi := (⟨"java/util/List", "size", "()I"⟩ : MethodName)) (y := (⟨"java/util/ArrayList", "size", "()I"⟩ : MethodName)) hown (mvT hZ (hw _ (List.mem_of_getElem? (i := 33) rfl))) (mvT hZ (hw _ (List.mem_of_getElem? (i := 34) rfl))) (mvT hZ (hw _ (List.mem_of_getElem? (i := 35) rfl))) (mvT hZ (hw _ (List.mem_of_getElem? (i := 36) rfl))) (mvT hZ (hw _ (List.mem_of_getElem? (i := 37) rfl))) (mvT hZ (hw _ (List.mem_of_getElem? (i := 38) rfl))) (mvT hZ (hw _ (List.mem_of_getElem? (i := 39) rfl))) (mvT hZ (hw _ (List.mem_of_getElem? (i := 40) rfl))) (by decide) (backOf (W := 1) (rmsize l Z a0 hw [] a2 (3 : Int32) h258 n0 Z258 F_size_a2_258) hZ (hw _ (List.mem_of_getElem? (i := 41) rfl)) (hw _ (List.mem_of_getElem? (i := 2) rfl)) (by decide) (by decide)) q259a q259b q259c (g := (mkF m 21 #[rv a1, rv a2, iv (3 : Int32)] [(.ref a2), (.int (3 : Int32))])) rfl (by rw [hml]; rfl) (Steps.refl _) (argsL := []) (rest := [(.int (3 : Int32))]) (lenOf pd__28__29_I rfl) rfl (by show 2 * 0 + _ ≤ _; exact Nat.le_of_eq rfl) (hb hby d5_21) (fun _ _ => ⟨rfl, e258, (by decide : 4 + 0 ≤ _), (by decide : 6 + 0 ≤ _)⟩)
  dsimp only [Pt.U, Pt.locs, Pt.cells, Pt.slots] at X259 l259 y259 z259 st259 hQ259
  subst l259 y259 z259
  obtain ⟨rfl, Nq259, e259⟩ := hQ259
  refine own_go st259 ?_
  have N259 := Fr.app N258 Nq259
  show own_Fin _ _ _ _ (T259.setTop (mkF m 26 #[rv a1, rv a2, iv (3 : Int32)] [(.int (3 : Int32)), (.int (3 : Int32))]))
  refine own_go (XS.icmpYes X259.here hx rfl (pc0 := 26) (pc' := 57) rfl (hb hby d5_26) rfl (flt (by decide : ¬ ((3 : Int32) < (3 : Int32)))).2.1 (by decide) (by decide) (Steps.refl _)) ?_
  show own_Fin _ _ _ _ (T259.setTop (mkF m 57 #[rv a1, rv a2, iv (3 : Int32)] []))
  refine own_go (XS.aloadN X259.here hx rfl (hb hby d5_57) rfl rfl (Steps.refl _)) ?_
  show own_Fin _ _ _ _ (T259.setTop (mkF m 58 #[rv a1, rv a2, iv (3 : Int32)] [(.ref a1)]))
  refine own_go (XS.aloadN X259.here hx rfl (hb hby d5_58) rfl rfl (Steps.refl _)) ?_
  show own_Fin _ _ _ _ (T259.setTop (mkF m 59 #[rv a1, rv a2, iv (3 : Int32)] [(.ref a2), (.ref a1)]))
  obtain ⟨cq260, kq260, q260a, q260b, q260c⟩ := isOf hZ e259 E_a2_258
  obtain ⟨_, _, ⟨T260, L260, k260, n260⟩, -, X260, ⟨Lc260, hQ260, l260, y260, z260⟩, st260⟩ := X259.interfaceBack hx (xi := (⟨"java/util/List", "size", "()I"⟩ : MethodName)) (y := (⟨"java/util/ArrayList", "size", "()I"⟩ : MethodName)) hown (mvT hZ (hw _ (List.mem_of_getElem? (i := 33) rfl))) (mvT hZ (hw _ (List.mem_of_getElem? (i := 34) rfl))) (mvT hZ (hw _ (List.mem_of_getElem? (i := 35) rfl))) (mvT hZ (hw _ (List.mem_of_getElem? (i := 36) rfl))) (mvT hZ (hw _ (List.mem_of_getElem? (i := 37) rfl))) (mvT hZ (hw _ (List.mem_of_getElem? (i := 38) rfl))) (mvT hZ (hw _ (List.mem_of_getElem? (i := 39) rfl))) (mvT hZ (hw _ (List.mem_of_getElem? (i := 40) rfl))) (by decide) (backOf (W := 1) (rmsize l Z a0 hw [] a2 (3 : Int32) h258 n0 Z258 F_size_a2_258) hZ (hw _ (List.mem_of_getElem? (i := 41) rfl)) (hw _ (List.mem_of_getElem? (i := 2) rfl)) (by decide) (by decide)) q260a q260b q260c (g := (mkF m 59 #[rv a1, rv a2, iv (3 : Int32)] [(.ref a2), (.ref a1)])) rfl (by rw [hml]; rfl) (Steps.refl _) (argsL := []) (rest := [(.ref a1)]) (lenOf pd__28__29_I rfl) rfl (by show 2 * 0 + _ ≤ _; exact Nat.le_of_eq rfl) (hb hby d5_59) (fun _ _ => ⟨rfl, e259, (by decide : 4 + 0 ≤ _), (by decide : 6 + 0 ≤ _)⟩)
  dsimp only [Pt.U, Pt.locs, Pt.cells, Pt.slots] at X260 l260 y260 z260 st260 hQ260
  subst l260 y260 z260
  obtain ⟨rfl, Nq260, e260⟩ := hQ260
  refine own_go st260 ?_
  have N260 := Fr.app N259 Nq260
  show own_Fin _ _ _ _ (T260.setTop (mkF m 64 #[rv a1, rv a2, iv (3 : Int32)] [(.int (3 : Int32)), (.ref a1)]))
  obtain ⟨T261, h261, X261, e261, W261, st261⟩ := putF X260 hx hZ hown (host := "") (Or.inl (hw _ (List.mem_of_getElem? (i := 48) rfl))) Via.refl e260 F_none_a1_258 E_a1_258 (Or.inr ⟨(hw _ (List.mem_of_getElem? (i := 49) rfl)), rfl, hnm⟩) (hw _ (List.mem_of_getElem? (i := 27) rfl)) (ty := .int) (by decide) rfl rfl (g := (mkF m 64 #[rv a1, rv a2, iv (3 : Int32)] [(.int (3 : Int32)), (.ref a1)])) rfl rfl (hb hby d5_64)
  refine own_by st261 ?_
  have F_none_a1_261 := F_none_a1_258.same W261
  have Od261 := Od258.wr W261 g_a1
  have E_a1_261 := E_a1_258.wr W261
  have F_ids_a1_261 := F_ids_a1_258.other W261 (Or.inr (slot_ne (Or.inr (hw _ (List.mem_of_getElem? (i := 47) rfl))) (Or.inr (hw _ (List.mem_of_getElem? (i := 49) rfl))) (by decide) (t := (.array (.array .byte))) (t' := .int) (by decide) (by decide)))
  have F_following_a1_261 := F_following_a1_258.other W261 (Or.inr (slot_ne (Or.inr (hw _ (List.mem_of_getElem? (i := 52) rfl))) (Or.inr (hw _ (List.mem_of_getElem? (i := 49) rfl))) (by decide) (t := (.array .int)) (t' := .int) (by decide) (by decide)))
  have F_last_a1_261 := F_last_a1_258.other W261 (Or.inr (slot_ne (Or.inl (hw _ (List.mem_of_getElem? (i := 58) rfl))) (Or.inr (hw _ (List.mem_of_getElem? (i := 49) rfl))) (by decide) (t := .int) (t' := .int) (by decide) (by decide)))
  have E_a2_261 := E_a2_258.wr W261
  have F_size_a2_261 := F_size_a2_258.other W261 (Or.inl (Exa.ne E_a2_258 E_a1_258 (by decide)))
  have F_elementData_a2_261 := F_elementData_a2_258.other W261 (Or.inl (Exa.ne E_a2_258 E_a1_258 (by decide)))
  have V_ed_261 := V_ed_258.other W261 (Ne.symm (Exa.neArv E_a1_258 V_ed_258 (hw _ (List.mem_of_getElem? (i := 27) rfl))))
  have E_s0_261 := E_s0_258.wr W261
  have F_coder_s0_261 := F_coder_s0_258.other W261 (Or.inl (Exa.ne E_s0_258 E_a1_258 (by decide)))
  have F_value_s0_261 := F_value_s0_258.other W261 (Or.inl (Exa.ne E_s0_258 E_a1_258 (by decide)))
  have V_v0_261 := V_v0_258.other W261 (Exa.ne E_v0_258 E_a1_258 (by decide))
  have E_v0_261 := E_v0_258.wr W261
  have E_s1_261 := E_s1_258.wr W261
  have F_coder_s1_261 := F_coder_s1_258.other W261 (Or.inl (Exa.ne E_s1_258 E_a1_258 (by decide)))
  have F_value_s1_261 := F_value_s1_258.other W261 (Or.inl (Exa.ne E_s1_258 E_a1_258 (by decide)))
  have V_v1_261 := V_v1_258.other W261 (Exa.ne E_v1_258 E_a1_258 (by decide))
  have E_v1_261 := E_v1_258.wr W261
  have E_s2_261 := E_s2_258.wr W261
  have F_coder_s2_261 := F_coder_s2_258.other W261 (Or.inl (Exa.ne E_s2_258 E_a1_258 (by decide)))
  have F_value_s2_261 := F_value_s2_258.other W261 (Or.inl (Exa.ne E_s2_258 E_a1_258 (by decide)))
  have V_v2_261 := V_v2_258.other W261 (Exa.ne E_v2_258 E_a1_258 (by decide))
  have E_v2_261 := E_v2_258.wr W261
  have V_b233_261 := V_b233_258.other W261 (Ne.symm ne_a1_b233)
  have E_b233_261 := E_b233_258.wr W261
  have r240_0_261 := r240_0_258.other W261 (Ne.symm ne_a1_b_240)
  have r240_1_261 := r240_1_258.wr W261
  have r248_0_261 := r248_0_258.other W261 (Ne.symm ne_a1_b_248)
  have r248_1_261 := r248_1_258.wr W261
  have r256_0_261 := r256_0_258.other W261 (Ne.symm ne_a1_b_256)
  have r256_1_261 := r256_1_258.wr W261
  have N261 := Fr.snoc X261 N260 g_a1
  have Z261 : n0 ≤ h261.size := Nat.le_trans Z258 (Keep.of_wr W261).1
  have K261 := K258.wr W261 (Or.inl (List.mem_of_getElem? (i := 0) rfl))
  show own_Fin _ _ _ _ (T261.setTop (mkF m 67 #[rv a1, rv a2, iv (3 : Int32)] []))
  refine own_go (XS.aloadN X261.here hx rfl (hb hby d5_67) rfl rfl (Steps.refl _)) ?_
  show own_Fin _ _ _ _ (T261.setTop (mkF m 68 #[rv a1, rv a2, iv (3 : Int32)] [(.ref a1)]))
  refine own_go (XS.aloadN X261.here hx rfl (hb hby d5_68) rfl rfl (Steps.refl _)) ?_
  show own_Fin _ _ _ _ (T261.setTop (mkF m 69 #[rv a1, rv a2, iv (3 : Int32)] [(.ref a1), (.ref a1)]))
  obtain ⟨T262, X262, e262, st262⟩ := getF X261 hx hZ hown (host := "") (Or.inl (hw _ (List.mem_of_getElem? (i := 48) rfl))) Via.refl e261 F_none_a1_261 (g := (mkF m 69 #[rv a1, rv a2, iv (3 : Int32)] [(.ref a1), (.ref a1)])) rfl rfl (hb hby d5_69)
  refine own_by st262 ?_
  show own_Fin _ _ _ _ (T262.setTop (mkF m 72 #[rv a1, rv a2, iv (3 : Int32)] [(.int (3 : Int32)), (.ref a1)]))
  refine own_go (XS.iconst X262.here hx rfl (hb hby d5_72) (Steps.refl _)) ?_
  show own_Fin _ _ _ _ (T262.setTop (mkF m 73 #[rv a1, rv a2, iv (3 : Int32)] [(.int (1 : Int32)), (.int (3 : Int32)), (.ref a1)]))
  refine own_go (XS.iadd X262.here hx rfl (hb hby d5_73) rfl (Steps.refl _)) ?_
  show own_Fin _ _ _ _ (T262.setTop (mkF m 74 #[rv a1, rv a2, iv (3 : Int32)] [(.int (4 : Int32)), (.ref a1)]))
  obtain ⟨T263, h263, k263, X263, e263, E263, A263, st263⟩ := newP X262 hx hZ (hw _ (List.mem_of_getElem? (i := 50) rfl)) e262 (g := (mkF m 74 #[rv a1, rv a2, iv (3 : Int32)] [(.int (4 : Int32)), (.ref a1)])) rfl (hb hby d5_74) rfl (by decide) (cap := 4) (by decide) (by decide) (by decide) (by decide)
  obtain ⟨b263, g263⟩ : ∃ z, z = h261.size := ⟨_, rfl⟩
  rw [← g263] at A263 st263
  refine own_by st263 ?_
  have ne_a1_b263 : a1 ≠ b263 := Nat.ne_of_lt (Nat.lt_of_lt_of_eq E_a1_261.lt g263.symm)
  have ne_a2_b263 : a2 ≠ b263 := Nat.ne_of_lt (Nat.lt_of_lt_of_eq E_a2_261.lt g263.symm)
  have ne_ed_b263 : ed ≠ b263 := Nat.ne_of_lt (Nat.lt_of_lt_of_eq V_ed_261.lt g263.symm)
  have ne_s0_b263 : s0 ≠ b263 := Nat.ne_of_lt (Nat.lt_of_lt_of_eq E_s0_261.lt g263.symm)
  have ne_v0_b263 : v0 ≠ b263 := Nat.ne_of_lt (Nat.lt_of_lt_of_eq V_v0_261.lt g263.symm)
  have ne_s1_b263 : s1 ≠ b263 := Nat.ne_of_lt (Nat.lt_of_lt_of_eq E_s1_261.lt g263.symm)
  have ne_v1_b263 : v1 ≠ b263 := Nat.ne_of_lt (Nat.lt_of_lt_of_eq V_v1_261.lt g263.symm)
  have ne_s2_b263 : s2 ≠ b263 := Nat.ne_of_lt (Nat.lt_of_lt_of_eq E_s2_261.lt g263.symm)
  have ne_v2_b263 : v2 ≠ b263 := Nat.ne_of_lt (Nat.lt_of_lt_of_eq V_v2_261.lt g263.symm)
  have ne_b233_b263 : b233 ≠ b263 := Nat.ne_of_lt (Nat.lt_of_lt_of_eq V_b233_261.lt g263.symm)
  have ne_b_240_b263 : b_240 ≠ b263 := Nat.ne_of_lt (Nat.lt_of_lt_of_eq r240_0_261.lt g263.symm)
  have ne_b_248_b263 : b_248 ≠ b263 := Nat.ne_of_lt (Nat.lt_of_lt_of_eq r248_0_261.lt g263.symm)
  have ne_b_256_b263 : b_256 ≠ b263 := Nat.ne_of_lt (Nat.lt_of_lt_of_eq r256_0_261.lt g263.symm)
  have Od263 := Od261.ext E263
  have E_a1_263 := E_a1_261.ext E263
  have F_ids_a1_263 := F_ids_a1_261.ext E263
  have F_none_a1_263 := F_none_a1_261.ext E263
  have F_following_a1_263 := F_following_a1_261.ext E263
  have F_last_a1_263 := F_last_a1_261.ext E263
  have E_a2_263 := E_a2_261.ext E263
  have F_size_a2_263 := F_size_a2_261.ext E263
  have F_elementData_a2_263 := F_elementData_a2_261.ext E263
  have V_ed_263 := V_ed_261.ext E263
  have E_s0_263 := E_s0_261.ext E263
  have F_coder_s0_263 := F_coder_s0_261.ext E263
  have F_value_s0_263 := F_value_s0_261.ext E263
  have V_v0_263 := V_v0_261.ext E263
  have E_v0_263 := E_v0_261.ext E263
  have E_s1_263 := E_s1_261.ext E263
  have F_coder_s1_263 := F_coder_s1_261.ext E263
  have F_value_s1_263 := F_value_s1_261.ext E263
  have V_v1_263 := V_v1_261.ext E263
  have E_v1_263 := E_v1_261.ext E263
  have E_s2_263 := E_s2_261.ext E263
  have F_coder_s2_263 := F_coder_s2_261.ext E263
  have F_value_s2_263 := F_value_s2_261.ext E263
  have V_v2_263 := V_v2_261.ext E263
  have E_v2_263 := E_v2_261.ext E263
  have V_b233_263 := V_b233_261.ext E263
  have E_b233_263 := E_b233_261.ext E263
  have r240_0_263 := r240_0_261.ext E263
  have r240_1_263 := r240_1_261.ext E263
  have r248_0_263 := r248_0_261.ext E263
  have r248_1_263 := r248_1_261.ext E263
  have r256_0_263 := r256_0_261.ext E263
  have r256_1_263 := r256_1_261.ext E263
  have g_b263 : n0 ≤ b263 := Nat.le_trans Z261 (Nat.le_of_eq g263.symm)
  have sz_b263 : h0.size ≤ b263 := Nat.le_trans K261.1 (Nat.le_of_eq g263.symm)
  have K263 := K261.ext E263
  have Z263 : n0 ≤ h263.size := Nat.le_trans Z261 E263.1
  have V_b263 : Arv Z h263 b263 k263 .int (4 : Int32) [(.int (0 : Int32)), (.int (0 : Int32)), (.int (0 : Int32)), (.int (0 : Int32))] (.int (0 : Int32)) := (Arv.new A263 (by decide)).pad (pad_rep [] (.int (0 : Int32)) 4)
  show own_Fin _ _ _ _ (T263.setTop (mkF m 76 #[rv a1, rv a2, iv (3 : Int32)] [(.ref b263), (.ref a1)]))
  obtain ⟨T264, h264, X264, e264, W264, st264⟩ := putF X263 hx hZ hown (host := "") (Or.inl (hw _ (List.mem_of_getElem? (i := 51) rfl))) Via.refl e263 F_following_a1_263 E_a1_263 (Or.inr ⟨(hw _ (List.mem_of_getElem? (i := 52) rfl)), rfl, hnm⟩) (hw _ (List.mem_of_getElem? (i := 27) rfl)) (ty := (.array .int)) (by decide) rfl rfl (g := (mkF m 76 #[rv a1, rv a2, iv (3 : Int32)] [(.ref b263), (.ref a1)])) rfl rfl (hb hby d5_76)
  refine own_by st264 ?_
  have F_following_a1_264 := F_following_a1_263.same W264
  have Od264 := Od263.wr W264 g_a1
  have E_a1_264 := E_a1_263.wr W264
  have F_ids_a1_264 := F_ids_a1_263.other W264 (Or.inr (slot_ne (Or.inr (hw _ (List.mem_of_getElem? (i := 47) rfl))) (Or.inr (hw _ (List.mem_of_getElem? (i := 52) rfl))) (by decide) (t := (.array (.array .byte))) (t' := (.array .int)) (by decide) (by decide)))
  have F_none_a1_264 := F_none_a1_263.other W264 (Or.inr (slot_ne (Or.inr (hw _ (List.mem_of_getElem? (i := 49) rfl))) (Or.inr (hw _ (List.mem_of_getElem? (i := 52) rfl))) (by decide) (t := .int) (t' := (.array .int)) (by decide) (by decide)))
  have F_last_a1_264 := F_last_a1_263.other W264 (Or.inr (slot_ne (Or.inl (hw _ (List.mem_of_getElem? (i := 58) rfl))) (Or.inr (hw _ (List.mem_of_getElem? (i := 52) rfl))) (by decide) (t := .int) (t' := (.array .int)) (by decide) (by decide)))
  have E_a2_264 := E_a2_263.wr W264
  have F_size_a2_264 := F_size_a2_263.other W264 (Or.inl (Exa.ne E_a2_263 E_a1_263 (by decide)))
  have F_elementData_a2_264 := F_elementData_a2_263.other W264 (Or.inl (Exa.ne E_a2_263 E_a1_263 (by decide)))
  have V_ed_264 := V_ed_263.other W264 (Ne.symm (Exa.neArv E_a1_263 V_ed_263 (hw _ (List.mem_of_getElem? (i := 27) rfl))))
  have E_s0_264 := E_s0_263.wr W264
  have F_coder_s0_264 := F_coder_s0_263.other W264 (Or.inl (Exa.ne E_s0_263 E_a1_263 (by decide)))
  have F_value_s0_264 := F_value_s0_263.other W264 (Or.inl (Exa.ne E_s0_263 E_a1_263 (by decide)))
  have V_v0_264 := V_v0_263.other W264 (Exa.ne E_v0_263 E_a1_263 (by decide))
  have E_v0_264 := E_v0_263.wr W264
  have E_s1_264 := E_s1_263.wr W264
  have F_coder_s1_264 := F_coder_s1_263.other W264 (Or.inl (Exa.ne E_s1_263 E_a1_263 (by decide)))
  have F_value_s1_264 := F_value_s1_263.other W264 (Or.inl (Exa.ne E_s1_263 E_a1_263 (by decide)))
  have V_v1_264 := V_v1_263.other W264 (Exa.ne E_v1_263 E_a1_263 (by decide))
  have E_v1_264 := E_v1_263.wr W264
  have E_s2_264 := E_s2_263.wr W264
  have F_coder_s2_264 := F_coder_s2_263.other W264 (Or.inl (Exa.ne E_s2_263 E_a1_263 (by decide)))
  have F_value_s2_264 := F_value_s2_263.other W264 (Or.inl (Exa.ne E_s2_263 E_a1_263 (by decide)))
  have V_v2_264 := V_v2_263.other W264 (Exa.ne E_v2_263 E_a1_263 (by decide))
  have E_v2_264 := E_v2_263.wr W264
  have V_b233_264 := V_b233_263.other W264 (Ne.symm ne_a1_b233)
  have E_b233_264 := E_b233_263.wr W264
  have r240_0_264 := r240_0_263.other W264 (Ne.symm ne_a1_b_240)
  have r240_1_264 := r240_1_263.wr W264
  have r248_0_264 := r248_0_263.other W264 (Ne.symm ne_a1_b_248)
  have r248_1_264 := r248_1_263.wr W264
  have r256_0_264 := r256_0_263.other W264 (Ne.symm ne_a1_b_256)
  have r256_1_264 := r256_1_263.wr W264
  have V_b263_264 := V_b263.other W264 (Ne.symm ne_a1_b263)
  have N264 := Fr.snoc X264 N261 g_a1
  have Z264 : n0 ≤ h264.size := Nat.le_trans Z263 (Keep.of_wr W264).1
  have K264 := K263.wr W264 (Or.inl (List.mem_of_getElem? (i := 0) rfl))
  show own_Fin _ _ _ _ (T264.setTop (mkF m 79 #[rv a1, rv a2, iv (3 : Int32)] []))
  refine own_go (XS.aloadN X264.here hx rfl (hb hby d5_79) rfl rfl (Steps.refl _)) ?_
  show own_Fin _ _ _ _ (T264.setTop (mkF m 80 #[rv a1, rv a2, iv (3 : Int32)] [(.ref a1)]))
  obtain ⟨T265, X265, e265, st265⟩ := getF X264 hx hZ hown (host := "") (Or.inl (hw _ (List.mem_of_getElem? (i := 51) rfl))) Via.refl e264 F_following_a1_264 (g := (mkF m 80 #[rv a1, rv a2, iv (3 : Int32)] [(.ref a1)])) rfl rfl (hb hby d5_80)
  refine own_by st265 ?_
  show own_Fin _ _ _ _ (T265.setTop (mkF m 83 #[rv a1, rv a2, iv (3 : Int32)] [(.ref b263)]))
  refine own_go (XS.iconst X265.here hx rfl (hb hby d5_83) (Steps.refl _)) ?_
  show own_Fin _ _ _ _ (T265.setTop (mkF m 84 #[rv a1, rv a2, iv (3 : Int32)] [(.int (-1 : Int32)), (.ref b263)]))
  obtain ⟨_, _, ⟨T266, L266, k266, n266⟩, -, X266, ⟨Lc266, hQ266, l266, y266, z266⟩, st266⟩ := Jvm.LawKit.callS X265 hx (y := (⟨"java/util/Arrays", "fill", "([II)V"⟩ : MethodName)) hown (mvT hZ (hw _ (List.mem_of_getElem? (i := 53) rfl))) (mvT hZ (hw _ (List.mem_of_getElem? (i := 54) rfl))) (mvT hZ (hw _ (List.mem_of_getElem? (i := 55) rfl))) (mvT hZ (hw _ (List.mem_of_getElem? (i := 56) rfl))) (by decide) (backOf (W := 0) (rmfill_4 l Z a0 hw [] b263 k263 h264 n0 Z264 V_b263_264 g_b263) hZ (hw _ (List.mem_of_getElem? (i := 56) rfl)) (hw _ (List.mem_of_getElem? (i := 55) rfl)) (by decide) (by decide)) (g := (mkF m 84 #[rv a1, rv a2, iv (3 : Int32)] [(.int (-1 : Int32)), (.ref b263)])) rfl (by rw [hml]; rfl) (argsL := [(.ref b263), (.int (-1 : Int32))]) (rest := []) (lenOf pd__28__5b_II_29_V rfl) rfl (by show 2 * 0 + _ ≤ _; exact Nat.le_of_eq rfl) (hb hby d5_84) (fun _ _ => ⟨rfl, e265, (by decide : 5 + 0 ≤ _), (by decide : 10 + 0 ≤ _)⟩)
  dsimp only [Pt.U, Pt.locs, Pt.cells, Pt.slots] at X266 l266 y266 z266 st266 hQ266
  subst l266 y266 z266
  refine own_by st266 ?_
  obtain ⟨rfl, Nq266, K266, r266_0⟩ := hQ266
  have Od266 := Od264.keep K266 (allS g_b263 all0)
  have E_a1_266 := E_a1_264.keep K266
  have F_ids_a1_266 := F_ids_a1_264.keep K266 (ninS ne_a1_b263 nin0)
  have F_none_a1_266 := F_none_a1_264.keep K266 (ninS ne_a1_b263 nin0)
  have F_following_a1_266 := F_following_a1_264.keep K266 (ninS ne_a1_b263 nin0)
  have F_last_a1_266 := F_last_a1_264.keep K266 (ninS ne_a1_b263 nin0)
  have E_a2_266 := E_a2_264.keep K266
  have F_size_a2_266 := F_size_a2_264.keep K266 (ninS ne_a2_b263 nin0)
  have F_elementData_a2_266 := F_elementData_a2_264.keep K266 (ninS ne_a2_b263 nin0)
  have V_ed_266 := V_ed_264.keep K266 (ninS ne_ed_b263 nin0)
  have E_s0_266 := E_s0_264.keep K266
  have F_coder_s0_266 := F_coder_s0_264.keep K266 (ninS ne_s0_b263 nin0)
  have F_value_s0_266 := F_value_s0_264.keep K266 (ninS ne_s0_b263 nin0)
  have V_v0_266 := V_v0_264.keep K266 (ninS ne_v0_b263 nin0)
  have E_v0_266 := E_v0_264.keep K266
  have E_s1_266 := E_s1_264.keep K266
  have F_coder_s1_266 := F_coder_s1_264.keep K266 (ninS ne_s1_b263 nin0)
  have F_value_s1_266 := F_value_s1_264.keep K266 (ninS ne_s1_b263 nin0)
  have V_v1_266 := V_v1_264.keep K266 (ninS ne_v1_b263 nin0)
  have E_v1_266 := E_v1_264.keep K266
  have E_s2_266 := E_s2_264.keep K266
  have F_coder_s2_266 := F_coder_s2_264.keep K266 (ninS ne_s2_b263 nin0)
  have F_value_s2_266 := F_value_s2_264.keep K266 (ninS ne_s2_b263 nin0)
  have V_v2_266 := V_v2_264.keep K266 (ninS ne_v2_b263 nin0)
  have E_v2_266 := E_v2_264.keep K266
  have V_b233_266 := V_b233_264.keep K266 (ninS ne_b233_b263 nin0)
  have E_b233_266 := E_b233_264.keep K266
  have r240_0_266 := r240_0_264.keep K266 (ninS ne_b_240_b263 nin0)
  have r240_1_266 := r240_1_264.keep K266
  have r248_0_266 := r248_0_264.keep K266 (ninS ne_b_248_b263 nin0)
  have r248_1_266 := r248_1_264.keep K266
  have r256_0_266 := r256_0_264.keep K266 (ninS ne_b_256_b263 nin0)
  have r256_1_266 := r256_1_264.keep K266
  have Z266 : n0 ≤ T266.heap.size := Nat.le_trans Z264 K266.1
  have Kt266 := K264.trans K266 (allS (P := fun x => x ∈ _ ∨ _ ≤ x) (Or.inr sz_b263) all0)
  have N266 := Fr.app N264 Nq266
  show own_Fin _ _ _ _ (T266.setTop (mkF m 87 #[rv a1, rv a2, iv (3 : Int32)] []))
  refine own_go (XS.aloadN X266.here hx rfl (hb hby d5_87) rfl rfl (Steps.refl _)) ?_
  show own_Fin _ _ _ _ (T266.setTop (mkF m 88 #[rv a1, rv a2, iv (3 : Int32)] [(.ref a1)]))
  obtain ⟨T267, X267, e267, st267⟩ := getF X266 hx hZ hown (host := "") (Or.inl (hw _ (List.mem_of_getElem? (i := 51) rfl))) Via.refl rfl F_following_a1_266 (g := (mkF m 88 #[rv a1, rv a2, iv (3 : Int32)] [(.ref a1)])) rfl rfl (hb hby d5_88)
  refine own_by st267 ?_
  show own_Fin _ _ _ _ (T267.setTop (mkF m 91 #[rv a1, rv a2, iv (3 : Int32)] [(.ref b263)]))
  refine own_go (XS.aloadN X267.here hx rfl (hb hby d5_91) rfl rfl (Steps.refl _)) ?_
  show own_Fin _ _ _ _ (T267.setTop (mkF m 92 #[rv a1, rv a2, iv (3 : Int32)] [(.ref a1), (.ref b263)]))
  obtain ⟨T268, X268, e268, st268⟩ := getF X267 hx hZ hown (host := "") (Or.inl (hw _ (List.mem_of_getElem? (i := 48) rfl))) Via.refl e267 F_none_a1_266 (g := (mkF m 92 #[rv a1, rv a2, iv (3 : Int32)] [(.ref a1), (.ref b263)])) rfl rfl (hb hby d5_92)
  refine own_by st268 ?_
  show own_Fin _ _ _ _ (T268.setTop (mkF m 95 #[rv a1, rv a2, iv (3 : Int32)] [(.int (3 : Int32)), (.ref b263)]))
  refine own_go (XS.iconst X268.here hx rfl (hb hby d5_95) (Steps.refl _)) ?_
  show own_Fin _ _ _ _ (T268.setTop (mkF m 96 #[rv a1, rv a2, iv (3 : Int32)] [(.int (0 : Int32)), (.int (3 : Int32)), (.ref b263)]))
  obtain ⟨cl269, Ar269, qa269, Sa269, Na269, Ha269, Ga269⟩ := id r266_0
  have hin269 : ¬ ((3 : Int32) < 0 ∨ cl269.slots.size ≤ ((3 : Int32)).toNatClampNeg) := inb_of Sa269 ⟨by decide, by decide⟩
  obtain ⟨T270, h270, X270, e270, W270, st270⟩ := stI X268 hx hZ e268 Ar269 (j := (3 : Int32)) hin269 (g := (mkF m 96 #[rv a1, rv a2, iv (3 : Int32)] [(.int (0 : Int32)), (.int (3 : Int32)), (.ref b263)])) rfl rfl (hb hby d5_96)
  refine own_by st270 ?_
  have V_b263_270 : Arv Z h270 b263 k263 .int (4 : Int32) [(.int (-1 : Int32)), (.int (-1 : Int32)), (.int (-1 : Int32)), (.int (0 : Int32))] (.int (0 : Int32)) := Arv.set Ar269 qa269 Sa269 Na269 Ha269 Ga269 rfl W270 3 rfl (Nat.le_of_ble_eq_true rfl)
  have Od270 := Od266.wr W270 g_b263
  have E_a1_270 := E_a1_266.wr W270
  have F_ids_a1_270 := F_ids_a1_266.other W270 (Or.inl ne_a1_b263)
  have F_none_a1_270 := F_none_a1_266.other W270 (Or.inl ne_a1_b263)
  have F_following_a1_270 := F_following_a1_266.other W270 (Or.inl ne_a1_b263)
  have F_last_a1_270 := F_last_a1_266.other W270 (Or.inl ne_a1_b263)
  have E_a2_270 := E_a2_266.wr W270
  have F_size_a2_270 := F_size_a2_266.other W270 (Or.inl ne_a2_b263)
  have F_elementData_a2_270 := F_elementData_a2_266.other W270 (Or.inl ne_a2_b263)
  have V_ed_270 := V_ed_266.other W270 ne_ed_b263
  have E_s0_270 := E_s0_266.wr W270
  have F_coder_s0_270 := F_coder_s0_266.other W270 (Or.inl ne_s0_b263)
  have F_value_s0_270 := F_value_s0_266.other W270 (Or.inl ne_s0_b263)
  have V_v0_270 := V_v0_266.other W270 ne_v0_b263
  have E_v0_270 := E_v0_266.wr W270
  have E_s1_270 := E_s1_266.wr W270
  have F_coder_s1_270 := F_coder_s1_266.other W270 (Or.inl ne_s1_b263)
  have F_value_s1_270 := F_value_s1_266.other W270 (Or.inl ne_s1_b263)
  have V_v1_270 := V_v1_266.other W270 ne_v1_b263
  have E_v1_270 := E_v1_266.wr W270
  have E_s2_270 := E_s2_266.wr W270
  have F_coder_s2_270 := F_coder_s2_266.other W270 (Or.inl ne_s2_b263)
  have F_value_s2_270 := F_value_s2_266.other W270 (Or.inl ne_s2_b263)
  have V_v2_270 := V_v2_266.other W270 ne_v2_b263
  have E_v2_270 := E_v2_266.wr W270
  have V_b233_270 := V_b233_266.other W270 ne_b233_b263
  have E_b233_270 := E_b233_266.wr W270
  have r240_0_270 := r240_0_266.other W270 ne_b_240_b263
  have r240_1_270 := r240_1_266.wr W270
  have r248_0_270 := r248_0_266.other W270 ne_b_248_b263
  have r248_1_270 := r248_1_266.wr W270
  have r256_0_270 := r256_0_266.other W270 ne_b_256_b263
  have r256_1_270 := r256_1_266.wr W270
  have N270 := Fr.snoc X270 N266 g_b263
  have Z270 : n0 ≤ h270.size := Nat.le_trans Z266 (Keep.of_wr W270).1
  have K270 := Kt266.wr W270 (Or.inr sz_b263)
  show own_Fin _ _ _ _ (T270.setTop (mkF m 97 #[rv a1, rv a2, iv (3 : Int32)] []))
  refine own_go (XS.aloadN X270.here hx rfl (hb hby d5_97) rfl rfl (Steps.refl _)) ?_
  show own_Fin _ _ _ _ (T270.setTop (mkF m 98 #[rv a1, rv a2, iv (3 : Int32)] [(.ref a1)]))
  refine own_go (XS.aloadN X270.here hx rfl (hb hby d5_98) rfl rfl (Steps.refl _)) ?_
  show own_Fin _ _ _ _ (T270.setTop (mkF m 99 #[rv a1, rv a2, iv (3 : Int32)] [(.ref a1), (.ref a1)]))
  obtain ⟨T271, X271, e271, st271⟩ := getF X270 hx hZ hown (host := "") (Or.inl (hw _ (List.mem_of_getElem? (i := 48) rfl))) Via.refl e270 F_none_a1_270 (g := (mkF m 99 #[rv a1, rv a2, iv (3 : Int32)] [(.ref a1), (.ref a1)])) rfl rfl (hb hby d5_99)
  refine own_by st271 ?_
  show own_Fin _ _ _ _ (T271.setTop (mkF m 102 #[rv a1, rv a2, iv (3 : Int32)] [(.int (3 : Int32)), (.ref a1)]))
  obtain ⟨T272, h272, X272, e272, W272, st272⟩ := putF X271 hx hZ hown (host := "") (Or.inl (hw _ (List.mem_of_getElem? (i := 57) rfl))) Via.refl e271 F_last_a1_270 E_a1_270 (Or.inl (hw _ (List.mem_of_getElem? (i := 58) rfl))) (hw _ (List.mem_of_getElem? (i := 27) rfl)) (ty := .int) (by decide) rfl rfl (g := (mkF m 102 #[rv a1, rv a2, iv (3 : Int32)] [(.int (3 : Int32)), (.ref a1)])) rfl rfl (hb hby d5_102)
  refine own_by st272 ?_
  have F_last_a1_272 := F_last_a1_270.same W272
  have Od272 := Od270.wr W272 g_a1
  have E_a1_272 := E_a1_270.wr W272
  have F_ids_a1_272 := F_ids_a1_270.other W272 (Or.inr (slot_ne (Or.inr (hw _ (List.mem_of_getElem? (i := 47) rfl))) (Or.inl (hw _ (List.mem_of_getElem? (i := 58) rfl))) (by decide) (t := (.array (.array .byte))) (t' := .int) (by decide) (by decide)))
  have F_none_a1_272 := F_none_a1_270.other W272 (Or.inr (slot_ne (Or.inr (hw _ (List.mem_of_getElem? (i := 49) rfl))) (Or.inl (hw _ (List.mem_of_getElem? (i := 58) rfl))) (by decide) (t := .int) (t' := .int) (by decide) (by decide)))
  have F_following_a1_272 := F_following_a1_270.other W272 (Or.inr (slot_ne (Or.inr (hw _ (List.mem_of_getElem? (i := 52) rfl))) (Or.inl (hw _ (List.mem_of_getElem? (i := 58) rfl))) (by decide) (t := (.array .int)) (t' := .int) (by decide) (by decide)))
  have E_a2_272 := E_a2_270.wr W272
  have F_size_a2_272 := F_size_a2_270.other W272 (Or.inl (Exa.ne E_a2_270 E_a1_270 (by decide)))
  have F_elementData_a2_272 := F_elementData_a2_270.other W272 (Or.inl (Exa.ne E_a2_270 E_a1_270 (by decide)))
  have V_ed_272 := V_ed_270.other W272 (Ne.symm (Exa.neArv E_a1_270 V_ed_270 (hw _ (List.mem_of_getElem? (i := 27) rfl))))
  have E_s0_272 := E_s0_270.wr W272
  have F_coder_s0_272 := F_coder_s0_270.other W272 (Or.inl (Exa.ne E_s0_270 E_a1_270 (by decide)))
  have F_value_s0_272 := F_value_s0_270.other W272 (Or.inl (Exa.ne E_s0_270 E_a1_270 (by decide)))
  have V_v0_272 := V_v0_270.other W272 (Exa.ne E_v0_270 E_a1_270 (by decide))
  have E_v0_272 := E_v0_270.wr W272
  have E_s1_272 := E_s1_270.wr W272
  have F_coder_s1_272 := F_coder_s1_270.other W272 (Or.inl (Exa.ne E_s1_270 E_a1_270 (by decide)))
  have F_value_s1_272 := F_value_s1_270.other W272 (Or.inl (Exa.ne E_s1_270 E_a1_270 (by decide)))
  have V_v1_272 := V_v1_270.other W272 (Exa.ne E_v1_270 E_a1_270 (by decide))
  have E_v1_272 := E_v1_270.wr W272
  have E_s2_272 := E_s2_270.wr W272
  have F_coder_s2_272 := F_coder_s2_270.other W272 (Or.inl (Exa.ne E_s2_270 E_a1_270 (by decide)))
  have F_value_s2_272 := F_value_s2_270.other W272 (Or.inl (Exa.ne E_s2_270 E_a1_270 (by decide)))
  have V_v2_272 := V_v2_270.other W272 (Exa.ne E_v2_270 E_a1_270 (by decide))
  have E_v2_272 := E_v2_270.wr W272
  have V_b233_272 := V_b233_270.other W272 (Ne.symm ne_a1_b233)
  have E_b233_272 := E_b233_270.wr W272
  have r240_0_272 := r240_0_270.other W272 (Ne.symm ne_a1_b_240)
  have r240_1_272 := r240_1_270.wr W272
  have r248_0_272 := r248_0_270.other W272 (Ne.symm ne_a1_b_248)
  have r248_1_272 := r248_1_270.wr W272
  have r256_0_272 := r256_0_270.other W272 (Ne.symm ne_a1_b_256)
  have r256_1_272 := r256_1_270.wr W272
  have V_b263_272 := V_b263_270.other W272 (Ne.symm ne_a1_b263)
  have N272 := Fr.snoc X272 N270 g_a1
  have Z272 : n0 ≤ h272.size := Nat.le_trans Z270 (Keep.of_wr W272).1
  have K272 := K270.wr W272 (Or.inl (List.mem_of_getElem? (i := 0) rfl))
  show own_Fin _ _ _ _ (T272.setTop (mkF m 105 #[rv a1, rv a2, iv (3 : Int32)] []))
  obtain ⟨fs273, hr273, hrun273, hended273, hW273, hsame273⟩ := X272.leave (v := none) (fun _ => rfl)
  refine own_done (X272.returnOut hx Bd.returns (hb hby d5_105) hr273) hrun273 hended273 ⟨_, _, rfl, ?_, ⟨_, rfl⟩, hW273, hsame273.mono (by decide) (by decide)⟩
  show Qinit_3 Z a1 a2 u cs ed ke s0 s1 s2 v0 v1 v2 q0 q1 q2 h0 n0 _ T272.heap _
  rw [e272]
  exact ⟨b233, b263, b_240, b_248, b_256, k233, k263, rfl, N272, K272, g_b233, sz_b233, g_b263, sz_b263, g_b_240, sz_b_240, g_b_248, sz_b_248, g_b_256, sz_b_256, E_a1_272, F_ids_a1_272, F_none_a1_272, F_following_a1_272, F_last_a1_272, V_b233_272, V_b263_272⟩
def own_next (n c : Int32) : Int32 := if c < n then c else (-1 : Int32)
def own_key (n p : Int32) : Int32 := if p < (0 : Int32) then n else p
theorem own_in {i n : Int32} (h0 : 0 ≤ i.toInt) (h1 : i.toInt < n.toInt) : ¬ i < 0 ∧ i < n := by
  rw [Int32.lt_iff_toInt_lt, Int32.lt_iff_toInt_lt]; refine ⟨?_, h1⟩
  have : (0 : Int32).toInt = 0 := rfl
  omega
theorem own_clamp {i : Int32} {k : Nat} (h0 : 0 ≤ i.toInt) (h1 : i.toInt < k) : i.toNatClampNeg < k := by unfold Int32.toNatClampNeg; omega
theorem d9_0 : decode prog_15_method_3_code 0 = .ok (.aload_n 0, 1) := by decide +kernel
theorem d9_1 : decode prog_15_method_3_code 1 = .ok (.getfield 41, 3) := by decide +kernel
theorem d9_4 : decode prog_15_method_3_code 4 = .ok (.aload_n 0, 1) := by decide +kernel
theorem d9_5 : decode prog_15_method_3_code 5 = .ok (.getfield 51, 3) := by decide +kernel
theorem d9_8 : decode prog_15_method_3_code 8 = .ok (.iaload, 1) := by decide +kernel
theorem d9_9 : decode prog_15_method_3_code 9 = .ok (.istore_n 1, 1) := by decide +kernel
theorem d9_10 : decode prog_15_method_3_code 10 = .ok (.iload_n 1, 1) := by decide +kernel
theorem d9_11 : decode prog_15_method_3_code 11 = .ok (.aload_n 0, 1) := by decide +kernel
theorem d9_12 : decode prog_15_method_3_code 12 = .ok (.getfield 15, 3) := by decide +kernel
theorem d9_15 : decode prog_15_method_3_code 15 = .ok (.arraylength, 1) := by decide +kernel
theorem d9_16 : decode prog_15_method_3_code 16 = .ok (.if_icmp .ge 7, 3) := by decide +kernel
theorem d9_19 : decode prog_15_method_3_code 19 = .ok (.iload_n 1, 1) := by decide +kernel
theorem d9_20 : decode prog_15_method_3_code 20 = .ok (.goto 4, 3) := by decide +kernel
theorem d9_23 : decode prog_15_method_3_code 23 = .ok (.iconst (-1), 1) := by decide +kernel
theorem d9_24 : decode prog_15_method_3_code 24 = .ok (.ireturn, 1) := by decide +kernel
theorem ef_next (m : MethodId) (x0 : Addr) : entryFrame m #[(.ref x0)] 2 = mkF m 0 #[.val (.ref x0), .unset] [] := by first | (simp [entryFrame, mkF, argsToLocals, Value.category]; done) | rfl
def Qnext (Z : State) (a1 : Addr) (bi : Addr) (ki : ClassId) (vsI : List Value) (bf : Addr) (kf : ClassId) (nl : Int32) (nn : Int32) (la : Int32) (rs : List Int32) (h0 : Heap) (n0 : Nat) (v : Option Value) (h : Heap) (L : List Loc) : Prop := v = some (.int (own_next nn (own_get rs la))) ∧ Fr n0 L ∧ h = h0
abbrev Gnext (Z : State) (a1 : Addr) (bi : Addr) (ki : ClassId) (vsI : List Value) (bf : Addr) (kf : ClassId) (nl : Int32) (nn : Int32) (la : Int32) (rs : List Int32) (h0 : Heap) (n0 : Nat) (s : State) : Outcome → State → Prop := fun o U' => ∃ v L, o = .returned v ∧ Qnext Z a1 bi ki vsI bf kf nl nn la rs h0 n0 v U'.heap L ∧ FrameEnd s o U' L ({ frames := 0, cells := 0, slots := 0, locals := 0 } : Room).cells ({ frames := 0, cells := 0, slots := 0, locals := 0 } : Room).slots
set_option maxRecDepth 65536 in
set_option maxHeartbeats 40000000 in
theorem rmnext (l : Launch) (Z : State) (a0 : Array Value) (hw : ∀ d ∈ tables_1, d.before a0 Z = true) (ws : List Jvm.Cond) (a1 : Addr) (bi : Addr) (ki : ClassId) (vsI : List Value) (bf : Addr) (kf : ClassId) (nl : Int32) (nn : Int32) (la : Int32) (rs : List Int32) (h0 : Heap) (n0 : Nat) (Z0 : n0 ≤ h0.size) (F_ids_a1 : Fld Z h0 a1 "com/example/gridtally/gridtally/casefile/IdSequence" "ids" "[[B" (.ref bi)) (F_none_a1 : Fld Z h0 a1 "com/example/gridtally/gridtally/casefile/IdSequence" "none" "I" (.int nn)) (F_following_a1 : Fld Z h0 a1 "com/example/gridtally/gridtally/casefile/IdSequence" "following" "[I" (.ref bf)) (F_last_a1 : Fld Z h0 a1 "com/example/gridtally/gridtally/casefile/IdSequence" "last" "I" (.int la)) (V_bi : Arv Z h0 bi ki (.array .byte) nn vsI .null) (V_bf : Arv Z h0 bf kf .int nl (List.map Value.int rs) (.int (0 : Int32))) (hl0 : 0 ≤ la.toInt) (hl1 : la.toInt < nl.toInt) :
    MetFree l (⟨"com/example/gridtally/gridtally/casefile/IdSequence", "nextExpected", "()I"⟩ : MethodName) (head1 (Jvm.Cond.code (⟨"com/example/gridtally/gridtally/casefile/IdSequence", "nextExpected", "()I"⟩ : MethodName) prog_15_method_3_code 2 (some .int) :: ws) ({ frames := 0, cells := 0, slots := 0, locals := 0 } : Room)) (fun a U => a = #[(.ref a1)] ∧ Z.Warmed39 U.vm ∧ U.heap = h0) (fun _ _ _ _ _ => True) (fun _ U o U' => ∃ v L, o = .returned v ∧ Qnext Z a1 bi ki vsI bf kf nl nn la rs h0 n0 v U'.heap L ∧ FrameEnd U o U' L ({ frames := 0, cells := 0, slots := 0, locals := 0 } : Room).cells ({ frames := 0, cells := 0, slots := 0, locals := 0 } : Room).slots) := by
  refine MetFree.of_bodySF (plainFor_of_name pn_com_example_gridtally_gridtally_casefile_IdSequence) hisR ?_
  intro p e s m args below meth c s₁ Bd hml0 hP hK
  obtain ⟨rfl, hZ, hh⟩ := hP
  have hx := Bd.exec
  have hby := Bd.bytes
  have hml : c.maxLocals = 2 := hml0
  have hown : s.vm.findClass "com/example/gridtally/gridtally/casefile/IdSequence" = some m.cls := findClass_of_methodNamed Bd.named
  have hnm := (name_of_methodNamed Bd.named Bd.method).1
  have X0 : Stand p l e ({ frames := 0, cells := 0, slots := 0, locals := 0 } : Room) s m #[(.ref a1)] below meth c s₁ [] 0 0 := Stand.of_body Bd
  have e0 : s₁.heap = h0 := by rw [← hh, Bd.state]; rfl
  have es0 : s.heap = h0 := hh
  have N0 := Fr.nil n0
  show own_Fin p e below (Gnext Z a1 bi ki vsI bf kf nl nn la rs h0 n0 s) (s₁.setTop (entryFrame m #[(.ref a1)] 2))
  rw [ef_next m a1]
  refine own_go (XS.aloadN X0.here hx rfl (hb hby d9_0) rfl rfl (Steps.refl _)) ?_
  show own_Fin _ _ _ _ (s₁.setTop (mkF m 1 #[rv a1, .unset] [(.ref a1)]))
  obtain ⟨T274, X274, e274, st274⟩ := getF X0 hx hZ hown (host := "") (Or.inl (hw _ (List.mem_of_getElem? (i := 51) rfl))) Via.refl e0 F_following_a1 (g := (mkF m 1 #[rv a1, .unset] [(.ref a1)])) rfl rfl (hb hby d9_1)
  refine own_by st274 ?_
  show own_Fin _ _ _ _ (T274.setTop (mkF m 4 #[rv a1, .unset] [(.ref bf)]))
  refine own_go (XS.aloadN X274.here hx rfl (hb hby d9_4) rfl rfl (Steps.refl _)) ?_
  show own_Fin _ _ _ _ (T274.setTop (mkF m 5 #[rv a1, .unset] [(.ref a1), (.ref bf)]))
  obtain ⟨T275, X275, e275, st275⟩ := getF X274 hx hZ hown (host := "") (Or.inl (hw _ (List.mem_of_getElem? (i := 57) rfl))) Via.refl e274 F_last_a1 (g := (mkF m 5 #[rv a1, .unset] [(.ref a1), (.ref bf)])) rfl rfl (hb hby d9_5)
  refine own_by st275 ?_
  show own_Fin _ _ _ _ (T275.setTop (mkF m 8 #[rv a1, .unset] [(.int la), (.ref bf)]))
  obtain ⟨cl276, Ar276, qa276, Sa276, Na276, Ha276, Ga276⟩ := id V_bf
  have hin276 : ¬ (la < 0 ∨ cl276.slots.size ≤ (la).toNatClampNeg) := inb_of Sa276 (own_in hl0 hl1)
  have hat276 : cl276.slots[(la).toNatClampNeg]? = some (.int (own_get rs la)) := Has.at Ha276 hin276 (own_getD _ _)
  refine own_by (X275.iaload hx (j := la) (v := (.int (own_get rs la))) (by rw [e275]; exact Ar276.1) (State.isArrayOf_alike hZ.alike Ar276.2.1) Ar276.2.2 hin276 hat276 (g := (mkF m 8 #[rv a1, .unset] [(.int la), (.ref bf)])) rfl rfl (hb hby d9_8)) ?_
  show own_Fin _ _ _ _ (T275.setTop (mkF m 9 #[rv a1, .unset] [(.int (own_get rs la))]))
  refine own_go (XS.istoreN X275.here hx rfl (hb hby d9_9) rfl rfl (Steps.refl _)) ?_
  show own_Fin _ _ _ _ (T275.setTop (mkF m 10 #[rv a1, iv (own_get rs la)] []))
  refine own_go (XS.iloadN X275.here hx rfl (hb hby d9_10) rfl (Steps.refl _)) ?_
  show own_Fin _ _ _ _ (T275.setTop (mkF m 11 #[rv a1, iv (own_get rs la)] [(.int (own_get rs la))]))
  refine own_go (XS.aloadN X275.here hx rfl (hb hby d9_11) rfl rfl (Steps.refl _)) ?_
  show own_Fin _ _ _ _ (T275.setTop (mkF m 12 #[rv a1, iv (own_get rs la)] [(.ref a1), (.int (own_get rs la))]))
  obtain ⟨T277, X277, e277, st277⟩ := getF X275 hx hZ hown (host := "") (Or.inl (hw _ (List.mem_of_getElem? (i := 46) rfl))) Via.refl e275 F_ids_a1 (g := (mkF m 12 #[rv a1, iv (own_get rs la)] [(.ref a1), (.int (own_get rs la))])) rfl rfl (hb hby d9_12)
  refine own_by st277 ?_
  show own_Fin _ _ _ _ (T277.setTop (mkF m 15 #[rv a1, iv (own_get rs la)] [(.ref bi), (.int (own_get rs la))]))
  obtain ⟨cl278, Ar278, qa278, Sa278, Na278, Ha278, Ga278⟩ := id V_bi
  refine own_by (X277.arraylength hx (by rw [e277]; exact Ar278.1) (State.isArrayOf_alike hZ.alike Ar278.2.1) (g := (mkF m 15 #[rv a1, iv (own_get rs la)] [(.ref bi), (.int (own_get rs la))])) rfl rfl (hb hby d9_15)) ?_
  rw [len_of Sa278 Na278]
  show own_Fin _ _ _ _ (T277.setTop (mkF m 16 #[rv a1, iv (own_get rs la)] [(.int nn), (.int (own_get rs la))]))
  have di279 : Steps p.tables e below (T277.setTop (mkF m 16 #[rv a1, iv (own_get rs la)] [(.int nn), (.int (own_get rs la))])) (T277.setTop (mkF m 24 #[rv a1, iv (own_get rs la)] [(.int (own_next nn (own_get rs la)))])) := by
    by_cases c16_280 : (own_get rs la) < nn
    · refine XS.icmpNo X277.here hx rfl (hb hby d9_16) rfl (tlt c16_280).2.1 ?_
      show Steps _ _ _ (T277.setTop (mkF m 19 #[rv a1, iv (own_get rs la)] [])) _
      refine XS.iloadN X277.here hx rfl (hb hby d9_19) rfl ?_
      show Steps _ _ _ (T277.setTop (mkF m 20 #[rv a1, iv (own_get rs la)] [(.int (own_get rs la))])) _
      refine XS.goto X277.here hx rfl (pc0 := 20) (pc' := 24) rfl (hb hby d9_20) (by decide) (by decide) ?_
      show Steps _ _ _ (T277.setTop (mkF m 24 #[rv a1, iv (own_get rs la)] [(.int (own_get rs la))])) _
      rw [show (own_next nn (own_get rs la)) = (own_get rs la) from by simp [own_next, c16_280]]; exact Steps.refl _
    · refine XS.icmpYes X277.here hx rfl (pc0 := 16) (pc' := 23) rfl (hb hby d9_16) rfl (flt c16_280).2.1 (by decide) (by decide) ?_
      show Steps _ _ _ (T277.setTop (mkF m 23 #[rv a1, iv (own_get rs la)] [])) _
      refine XS.iconst X277.here hx rfl (hb hby d9_23) ?_
      show Steps _ _ _ (T277.setTop (mkF m 24 #[rv a1, iv (own_get rs la)] [(.int (-1 : Int32))])) _
      rw [show (own_next nn (own_get rs la)) = (-1 : Int32) from by simp [own_next, c16_280]]; exact Steps.refl _
  refine own_go di279 ?_
  show own_Fin _ _ _ _ (T277.setTop (mkF m 24 #[rv a1, iv (own_get rs la)] [(.int (own_next nn (own_get rs la)))]))
  obtain ⟨fs281, hr281, hrun281, hended281, hW281, hsame281⟩ := X277.leave (v := some (.int (own_next nn (own_get rs la)))) (fun h => by rw [Bd.returns] at h; cases h)
  refine own_done (own_retI X277 hx Bd.returns (hb hby d9_24) hr281) hrun281 hended281 ⟨_, _, rfl, ?_, ⟨_, rfl⟩, hW281, hsame281.mono (by decide) (by decide)⟩
  show Qnext Z a1 bi ki vsI bf kf nl nn la rs h0 n0 _ T277.heap _
  rw [e277]
  exact ⟨rfl, N0, rfl⟩
theorem d10_0 : decode prog_15_method_4_code 0 = .ok (.aload_n 0, 1) := by decide +kernel
theorem d10_1 : decode prog_15_method_4_code 1 = .ok (.getfield 41, 3) := by decide +kernel
theorem d10_4 : decode prog_15_method_4_code 4 = .ok (.aload_n 0, 1) := by decide +kernel
theorem d10_5 : decode prog_15_method_4_code 5 = .ok (.getfield 51, 3) := by decide +kernel
theorem d10_8 : decode prog_15_method_4_code 8 = .ok (.iload_n 1, 1) := by decide +kernel
theorem d10_9 : decode prog_15_method_4_code 9 = .ok (.iastore, 1) := by decide +kernel
theorem d10_10 : decode prog_15_method_4_code 10 = .ok (.aload_n 0, 1) := by decide +kernel
theorem d10_11 : decode prog_15_method_4_code 11 = .ok (.iload_n 1, 1) := by decide +kernel
theorem d10_12 : decode prog_15_method_4_code 12 = .ok (.ifCond .ge 10, 3) := by decide +kernel
theorem d10_15 : decode prog_15_method_4_code 15 = .ok (.aload_n 0, 1) := by decide +kernel
theorem d10_16 : decode prog_15_method_4_code 16 = .ok (.getfield 37, 3) := by decide +kernel
theorem d10_19 : decode prog_15_method_4_code 19 = .ok (.goto 4, 3) := by decide +kernel
theorem d10_22 : decode prog_15_method_4_code 22 = .ok (.iload_n 1, 1) := by decide +kernel
theorem d10_23 : decode prog_15_method_4_code 23 = .ok (.putfield 51, 3) := by decide +kernel
theorem d10_26 : decode prog_15_method_4_code 26 = .ok (.return_, 1) := by decide +kernel
theorem ef_named (m : MethodId) (x0 : Addr) (x1 : Int32) : entryFrame m #[(.ref x0), (.int x1)] 2 = mkF m 0 #[.val (.ref x0), .val (.int x1)] [] := by first | (simp [entryFrame, mkF, argsToLocals, Value.category]; done) | rfl
def Qnamed (Z : State) (a1 : Addr) (bi : Addr) (ki : ClassId) (vsI : List Value) (bf : Addr) (kf : ClassId) (nl : Int32) (nn : Int32) (la : Int32) (rs : List Int32) (p2 : Int32) (h0 : Heap) (n0 : Nat) (v : Option Value) (h : Heap) (L : List Loc) : Prop := v = none ∧ Fr n0 L ∧ Keep h0 h [a1, bf] ∧ Exa Z h a1 "com/example/gridtally/gridtally/casefile/IdSequence" ∧ Fld Z h a1 "com/example/gridtally/gridtally/casefile/IdSequence" "ids" "[[B" (.ref bi) ∧ Fld Z h a1 "com/example/gridtally/gridtally/casefile/IdSequence" "none" "I" (.int nn) ∧ Fld Z h a1 "com/example/gridtally/gridtally/casefile/IdSequence" "following" "[I" (.ref bf) ∧ Fld Z h a1 "com/example/gridtally/gridtally/casefile/IdSequence" "last" "I" (.int (own_key nn p2)) ∧ Arv Z h bf kf .int nl (List.map Value.int (rs.set la.toNatClampNeg p2)) (.int (0 : Int32))
abbrev Gnamed (Z : State) (a1 : Addr) (bi : Addr) (ki : ClassId) (vsI : List Value) (bf : Addr) (kf : ClassId) (nl : Int32) (nn : Int32) (la : Int32) (rs : List Int32) (p2 : Int32) (h0 : Heap) (n0 : Nat) (s : State) : Outcome → State → Prop := fun o U' => ∃ v L, o = .returned v ∧ Qnamed Z a1 bi ki vsI bf kf nl nn la rs p2 h0 n0 v U'.heap L ∧ FrameEnd s o U' L ({ frames := 0, cells := 0, slots := 0, locals := 0 } : Room).cells ({ frames := 0, cells := 0, slots := 0, locals := 0 } : Room).slots
set_option maxRecDepth 65536 in
set_option maxHeartbeats 40000000 in
theorem rmnamed (l : Launch) (Z : State) (a0 : Array Value) (hw : ∀ d ∈ tables_1, d.before a0 Z = true) (ws : List Jvm.Cond) (a1 : Addr) (bi : Addr) (ki : ClassId) (vsI : List Value) (bf : Addr) (kf : ClassId) (nl : Int32) (nn : Int32) (la : Int32) (rs : List Int32) (p2 : Int32) (h0 : Heap) (n0 : Nat) (Z0 : n0 ≤ h0.size) (E_a1 : Exa Z h0 a1 "com/example/gridtally/gridtally/casefile/IdSequence") (F_ids_a1 : Fld Z h0 a1 "com/example/gridtally/gridtally/casefile/IdSequence" "ids" "[[B" (.ref bi)) (F_none_a1 : Fld Z h0 a1 "com/example/gridtally/gridtally/casefile/IdSequence" "none" "I" (.int nn)) (F_following_a1 : Fld Z h0 a1 "com/example/gridtally/gridtally/casefile/IdSequence" "following" "[I" (.ref bf)) (F_last_a1 : Fld Z h0 a1 "com/example/gridtally/gridtally/casefile/IdSequence" "last" "I" (.int la)) (V_bf : Arv Z h0 bf kf .int nl (List.map Value.int rs) (.int (0 : Int32))) (hl0 : 0 ≤ la.toInt) (hl1 : la.toInt < nl.toInt) (g_a1 : n0 ≤ a1) (g_bf : n0 ≤ bf) (ne1f : a1 ≠ bf) (hlen : rs.length = nl.toNatClampNeg) :
    MetFree l (⟨"com/example/gridtally/gridtally/casefile/IdSequence", "named", "(I)V"⟩ : MethodName) (head1 (Jvm.Cond.code (⟨"com/example/gridtally/gridtally/casefile/IdSequence", "named", "(I)V"⟩ : MethodName) prog_15_method_4_code 2 none :: ws) ({ frames := 0, cells := 0, slots := 0, locals := 0 } : Room)) (fun a U => a = #[(.ref a1), (.int p2)] ∧ Z.Warmed39 U.vm ∧ U.heap = h0) (fun _ _ _ _ _ => True) (fun _ U o U' => ∃ v L, o = .returned v ∧ Qnamed Z a1 bi ki vsI bf kf nl nn la rs p2 h0 n0 v U'.heap L ∧ FrameEnd U o U' L ({ frames := 0, cells := 0, slots := 0, locals := 0 } : Room).cells ({ frames := 0, cells := 0, slots := 0, locals := 0 } : Room).slots) := by
  refine MetFree.of_bodySF (plainFor_of_name pn_com_example_gridtally_gridtally_casefile_IdSequence) hisR ?_
  intro p e s m args below meth c s₁ Bd hml0 hP hK
  obtain ⟨rfl, hZ, hh⟩ := hP
  have hx := Bd.exec
  have hby := Bd.bytes
  have hml : c.maxLocals = 2 := hml0
  have hown : s.vm.findClass "com/example/gridtally/gridtally/casefile/IdSequence" = some m.cls := findClass_of_methodNamed Bd.named
  have hnm := (name_of_methodNamed Bd.named Bd.method).1
  have X0 : Stand p l e ({ frames := 0, cells := 0, slots := 0, locals := 0 } : Room) s m #[(.ref a1), (.int p2)] below meth c s₁ [] 0 0 := Stand.of_body Bd
  have e0 : s₁.heap = h0 := by rw [← hh, Bd.state]; rfl
  have es0 : s.heap = h0 := hh
  have N0 := Fr.nil n0
  show own_Fin p e below (Gnamed Z a1 bi ki vsI bf kf nl nn la rs p2 h0 n0 s) (s₁.setTop (entryFrame m #[(.ref a1), (.int p2)] 2))
  rw [ef_named m a1 p2]
  have Kz := Keep.refl h0 [a1, bf]
  refine own_go (XS.aloadN X0.here hx rfl (hb hby d10_0) rfl rfl (Steps.refl _)) ?_
  show own_Fin _ _ _ _ (s₁.setTop (mkF m 1 #[rv a1, iv p2] [(.ref a1)]))
  obtain ⟨T282, X282, e282, st282⟩ := getF X0 hx hZ hown (host := "") (Or.inl (hw _ (List.mem_of_getElem? (i := 51) rfl))) Via.refl e0 F_following_a1 (g := (mkF m 1 #[rv a1, iv p2] [(.ref a1)])) rfl rfl (hb hby d10_1)
  refine own_by st282 ?_
  show own_Fin _ _ _ _ (T282.setTop (mkF m 4 #[rv a1, iv p2] [(.ref bf)]))
  refine own_go (XS.aloadN X282.here hx rfl (hb hby d10_4) rfl rfl (Steps.refl _)) ?_
  show own_Fin _ _ _ _ (T282.setTop (mkF m 5 #[rv a1, iv p2] [(.ref a1), (.ref bf)]))
  obtain ⟨T283, X283, e283, st283⟩ := getF X282 hx hZ hown (host := "") (Or.inl (hw _ (List.mem_of_getElem? (i := 57) rfl))) Via.refl e282 F_last_a1 (g := (mkF m 5 #[rv a1, iv p2] [(.ref a1), (.ref bf)])) rfl rfl (hb hby d10_5)
  refine own_by st283 ?_
  show own_Fin _ _ _ _ (T283.setTop (mkF m 8 #[rv a1, iv p2] [(.int la), (.ref bf)]))
  refine own_go (XS.iloadN X283.here hx rfl (hb hby d10_8) rfl (Steps.refl _)) ?_
  show own_Fin _ _ _ _ (T283.setTop (mkF m 9 #[rv a1, iv p2] [(.int p2), (.int la), (.ref bf)]))
  obtain ⟨cl284, Ar284, qa284, Sa284, Na284, Ha284, Ga284⟩ := id V_bf
  have hin284 : ¬ (la < 0 ∨ cl284.slots.size ≤ (la).toNatClampNeg) := inb_of Sa284 (own_in hl0 hl1)
  obtain ⟨T285, h285, X285, e285, W285, st285⟩ := stI X283 hx hZ e283 Ar284 (j := la) hin284 (g := (mkF m 9 #[rv a1, iv p2] [(.int p2), (.int la), (.ref bf)])) rfl rfl (hb hby d10_9)
  refine own_by st285 ?_
  have V_bf_285 : Arv Z h285 bf kf .int nl (List.map Value.int (rs.set (la).toNatClampNeg p2)) (.int (0 : Int32)) := by
    rw [List.map_set]; exact Arv.set Ar284 qa284 Sa284 Na284 Ha284 Ga284 rfl W285 _ rfl (by rw [List.length_map, hlen]; exact own_clamp hl0 (by unfold Int32.toNatClampNeg; omega))
  have E_a1_285 := E_a1.wr W285
  have F_ids_a1_285 := F_ids_a1.other W285 (Or.inl ne1f)
  have F_none_a1_285 := F_none_a1.other W285 (Or.inl ne1f)
  have F_following_a1_285 := F_following_a1.other W285 (Or.inl ne1f)
  have F_last_a1_285 := F_last_a1.other W285 (Or.inl ne1f)
  have N285 := Fr.snoc X285 N0 g_bf
  have Z285 : n0 ≤ h285.size := Nat.le_trans Z0 (Keep.of_wr W285).1
  have K285 := Kz.wr W285 (Or.inl (List.mem_of_getElem? (i := 1) rfl))
  show own_Fin _ _ _ _ (T285.setTop (mkF m 10 #[rv a1, iv p2] []))
  refine own_go (XS.aloadN X285.here hx rfl (hb hby d10_10) rfl rfl (Steps.refl _)) ?_
  show own_Fin _ _ _ _ (T285.setTop (mkF m 11 #[rv a1, iv p2] [(.ref a1)]))
  refine own_go (XS.iloadN X285.here hx rfl (hb hby d10_11) rfl (Steps.refl _)) ?_
  show own_Fin _ _ _ _ (T285.setTop (mkF m 12 #[rv a1, iv p2] [(.int p2), (.ref a1)]))
  have jn286 : ∀ (Tj286 : State) (Lj286 : List Loc) (xl : Int32), Stand p l e ({ frames := 0, cells := 0, slots := 0, locals := 0 } : Room) s m #[(.ref a1), (.int p2)] below meth c Tj286 Lj286 0 0 → Tj286.heap = h285 → Fr n0 Lj286 → (xl = own_key nn p2) → own_Fin p e below (Gnamed Z a1 bi ki vsI bf kf nl nn la rs p2 h0 n0 s) (Tj286.setTop (mkF m 23 #[rv a1, iv p2] [(.int xl), (.ref a1)])) := by
    intro Tj286 Lj286 xl Xj286 ej286 Nj286 hj286
    subst hj286
    show own_Fin _ _ _ _ (Tj286.setTop (mkF m 23 #[rv a1, iv p2] [(.int (own_key nn p2)), (.ref a1)]))
    obtain ⟨T287, h287, X287, e287, W287, st287⟩ := putF Xj286 hx hZ hown (host := "") (Or.inl (hw _ (List.mem_of_getElem? (i := 57) rfl))) Via.refl ej286 F_last_a1_285 E_a1_285 (Or.inl (hw _ (List.mem_of_getElem? (i := 58) rfl))) (hw _ (List.mem_of_getElem? (i := 27) rfl)) (ty := .int) (by decide) rfl rfl (g := (mkF m 23 #[rv a1, iv p2] [(.int (own_key nn p2)), (.ref a1)])) rfl rfl (hb hby d10_23)
    refine own_by st287 ?_
    have F_last_a1_287 := F_last_a1_285.same W287
    have E_a1_287 := E_a1_285.wr W287
    have F_ids_a1_287 := F_ids_a1_285.other W287 (Or.inr (slot_ne (Or.inr (hw _ (List.mem_of_getElem? (i := 47) rfl))) (Or.inl (hw _ (List.mem_of_getElem? (i := 58) rfl))) (by decide) (t := (.array (.array .byte))) (t' := .int) (by decide) (by decide)))
    have F_none_a1_287 := F_none_a1_285.other W287 (Or.inr (slot_ne (Or.inr (hw _ (List.mem_of_getElem? (i := 49) rfl))) (Or.inl (hw _ (List.mem_of_getElem? (i := 58) rfl))) (by decide) (t := .int) (t' := .int) (by decide) (by decide)))
    have F_following_a1_287 := F_following_a1_285.other W287 (Or.inr (slot_ne (Or.inr (hw _ (List.mem_of_getElem? (i := 52) rfl))) (Or.inl (hw _ (List.mem_of_getElem? (i := 58) rfl))) (by decide) (t := (.array .int)) (t' := .int) (by decide) (by decide)))
    have V_bf_287 := V_bf_285.other W287 (Ne.symm ne1f)
    have N287 := Fr.snoc X287 Nj286 g_a1
    have Z287 : n0 ≤ h287.size := Nat.le_trans Z285 (Keep.of_wr W287).1
    have K287 := K285.wr W287 (Or.inl (List.mem_of_getElem? (i := 0) rfl))
    show own_Fin _ _ _ _ (T287.setTop (mkF m 26 #[rv a1, iv p2] []))
    obtain ⟨fs288, hr288, hrun288, hended288, hW288, hsame288⟩ := X287.leave (v := none) (fun _ => rfl)
    refine own_done (X287.returnOut hx Bd.returns (hb hby d10_26) hr288) hrun288 hended288 ⟨_, _, rfl, ?_, ⟨_, rfl⟩, hW288, hsame288.mono (by decide) (by decide)⟩
    show Qnamed Z a1 bi ki vsI bf kf nl nn la rs p2 h0 n0 _ T287.heap _
    rw [e287]
    exact ⟨rfl, N287, K287, E_a1_287, F_ids_a1_287, F_none_a1_287, F_following_a1_287, F_last_a1_287, V_bf_287⟩
  by_cases c12_289 : p2 < (0 : Int32)
  · refine own_go (XS.ifNo X285.here hx rfl (hb hby d10_12) rfl ((if0 _ _).trans (tlt c12_289).2.1) (Steps.refl _)) ?_
    show own_Fin _ _ _ _ (T285.setTop (mkF m 15 #[rv a1, iv p2] [(.ref a1)]))
    refine own_go (XS.aloadN X285.here hx rfl (hb hby d10_15) rfl rfl (Steps.refl _)) ?_
    show own_Fin _ _ _ _ (T285.setTop (mkF m 16 #[rv a1, iv p2] [(.ref a1), (.ref a1)]))
    obtain ⟨T290, X290, e290, st290⟩ := getF X285 hx hZ hown (host := "") (Or.inl (hw _ (List.mem_of_getElem? (i := 48) rfl))) Via.refl e285 F_none_a1_285 (g := (mkF m 16 #[rv a1, iv p2] [(.ref a1), (.ref a1)])) rfl rfl (hb hby d10_16)
    refine own_by st290 ?_
    show own_Fin _ _ _ _ (T290.setTop (mkF m 19 #[rv a1, iv p2] [(.int nn), (.ref a1)]))
    refine own_go (XS.goto X290.here hx rfl (pc0 := 19) (pc' := 23) rfl (hb hby d10_19) (by decide) (by decide) (Steps.refl _)) ?_
    show own_Fin _ _ _ _ (T290.setTop (mkF m 23 #[rv a1, iv p2] [(.int nn), (.ref a1)]))
    exact jn286 T290 _ nn X290 e290 N285 (by simp [own_key, c12_289])
  · refine own_go (XS.ifYes X285.here hx rfl (pc0 := 12) (pc' := 22) rfl (hb hby d10_12) rfl ((if0 _ _).trans (flt c12_289).2.1) (by decide) (by decide) (Steps.refl _)) ?_
    show own_Fin _ _ _ _ (T285.setTop (mkF m 22 #[rv a1, iv p2] [(.ref a1)]))
    refine own_go (XS.iloadN X285.here hx rfl (hb hby d10_22) rfl (Steps.refl _)) ?_
    show own_Fin _ _ _ _ (T285.setTop (mkF m 23 #[rv a1, iv p2] [(.int p2), (.ref a1)]))
    exact jn286 T285 _ p2 X285 e285 N285 (by simp [own_key, c12_289])
def own_pm (x d : Int32) : Int32 := ((x &&& (2147483647 : Int32)) % d) - (1 : Int32)
def own_i0 (n : Int32) : Int32 := if (0 : Int32) < n then (0 : Int32) else (-1 : Int32)
def own_tl (k n : Int32) : Int32 := if k < (0 : Int32) then (if (0 : Int32) < n then (0 : Int32) else (-1 : Int32)) else (-1 : Int32)
def own_rf1 (c0 c1 n : Int32) : Int32 := if c0 = c1 then c1 else own_tl c1 n
def own_rf2 (c0 c1 c2 n : Int32) : Int32 := if c1 = c2 then c2 else if c0 = c2 then c1 else own_tl c2 n
def own_rf3 (c0 c1 c2 c3 n : Int32) : Int32 := if c2 = c3 then c3 else if c1 = c3 then c2 else if c0 = c3 then c1 else own_tl c3 n
def own_rf4 (c0 c1 c2 c3 c4 n : Int32) : Int32 := if c3 = c4 then c4 else if c2 = c4 then c3 else if c1 = c4 then c2 else if c0 = c4 then c1 else own_tl c4 n
def own_rs0 (n : Int32) : List Int32 := if n = (0 : Int32) then [0] else if n = (1 : Int32) then [-1, 0] else if n = (2 : Int32) then [-1, -1, 0] else [-1, -1, -1, 0]
def own_s1 (n p1 : Int32) : List Int32 := (own_rs0 n).set n.toNatClampNeg p1
def own_s2 (n p1 p2 : Int32) : List Int32 := (own_s1 n p1).set (own_key n p1).toNatClampNeg p2
def own_s3 (n p1 p2 p3 : Int32) : List Int32 := (own_s2 n p1 p2).set (own_key n p2).toNatClampNeg p3
def own_s4 (n p1 p2 p3 p4 : Int32) : List Int32 := (own_s3 n p1 p2 p3).set (own_key n p3).toNatClampNeg p4
def own_e0 (n : Int32) : Int32 := own_next n (own_get (own_rs0 n) n)
def own_e1 (n p1 : Int32) : Int32 := own_next n (own_get (own_s1 n p1) (own_key n p1))
def own_e2 (n p1 p2 : Int32) : Int32 := own_next n (own_get (own_s2 n p1 p2) (own_key n p2))
def own_e3 (n p1 p2 p3 : Int32) : Int32 := own_next n (own_get (own_s3 n p1 p2 p3) (own_key n p3))
def own_e4 (n p1 p2 p3 p4 : Int32) : Int32 := own_next n (own_get (own_s4 n p1 p2 p3 p4) (own_key n p4))
def own_p (i : Fin 4) : Int32 := Int32.ofNat i.val - 1
def own_chk (n p1 p2 p3 p4 : Int32) : Bool := !(decide (p1 < n) && decide (p2 < n) && decide (p3 < n) && decide (p4 < n)) || (decide (own_e0 n = own_i0 n) && decide (own_e1 n p1 = own_rf1 (-1) p1 n) && decide (own_e2 n p1 p2 = own_rf2 (-1) p1 p2 n) && decide (own_e3 n p1 p2 p3 = own_rf3 (-1) p1 p2 p3 n) && decide (own_e4 n p1 p2 p3 p4 = own_rf4 (-1) p1 p2 p3 p4 n))
set_option maxRecDepth 100000 in
theorem own_all : ∀ (n i j k q : Fin 4), own_chk (Int32.ofNat n.val) (own_p i) (own_p j) (own_p k) (own_p q) = true := by decide +kernel
def own_R (n p : Int32) : Prop := (∃ i : Fin 4, p = own_p i) ∧ p < n
theorem own_eqs {n p1 p2 p3 p4 : Int32} (hn : ∃ i : Fin 4, n = Int32.ofNat i.val) (h1 : own_R n p1) (h2 : own_R n p2) (h3 : own_R n p3) (h4 : own_R n p4) : own_e0 n = own_i0 n ∧ own_e1 n p1 = own_rf1 (-1) p1 n ∧ own_e2 n p1 p2 = own_rf2 (-1) p1 p2 n ∧ own_e3 n p1 p2 p3 = own_rf3 (-1) p1 p2 p3 n ∧ own_e4 n p1 p2 p3 p4 = own_rf4 (-1) p1 p2 p3 p4 n := by
  obtain ⟨n, rfl⟩ := hn; obtain ⟨⟨i, rfl⟩, q1⟩ := h1; obtain ⟨⟨j, rfl⟩, q2⟩ := h2; obtain ⟨⟨k, rfl⟩, q3⟩ := h3; obtain ⟨⟨q, rfl⟩, q4⟩ := h4
  have h := own_all n i j k q
  unfold own_chk at h
  simp only [q1, q2, q3, q4, decide_true, Bool.and_true, Bool.not_true, Bool.false_or, Bool.and_eq_true, decide_eq_true_eq, and_assoc] at h
  exact h
def own_chb (n p : Int32) : Bool := !(decide (p < n)) || (decide (0 ≤ (own_key n p).toInt) && decide ((own_key n p).toInt < (n + (1 : Int32)).toInt))
theorem own_ball : ∀ (n i : Fin 4), own_chb (Int32.ofNat n.val) (own_p i) = true := by decide +kernel
theorem own_kb {n p : Int32} (hn : ∃ i : Fin 4, n = Int32.ofNat i.val) (h1 : own_R n p) : 0 ≤ (own_key n p).toInt ∧ (own_key n p).toInt < (n + (1 : Int32)).toInt := by
  obtain ⟨n, rfl⟩ := hn; obtain ⟨⟨i, rfl⟩, q1⟩ := h1
  have h := own_ball n i
  unfold own_chb at h
  simp only [q1, decide_true, Bool.not_true, Bool.false_or, Bool.and_eq_true, decide_eq_true_eq] at h
  exact h
theorem own_nb {n : Int32} (hn : ∃ i : Fin 4, n = Int32.ofNat i.val) : 0 ≤ n.toInt ∧ n.toInt < (n + (1 : Int32)).toInt ∧ (own_rs0 n).length = (n + (1 : Int32)).toNatClampNeg := by
  obtain ⟨n, rfl⟩ := hn
  exact (show ∀ n : Fin 4, 0 ≤ (Int32.ofNat n.val).toInt ∧ (Int32.ofNat n.val).toInt < (Int32.ofNat n.val + (1 : Int32)).toInt ∧ (own_rs0 (Int32.ofNat n.val)).length = (Int32.ofNat n.val + (1 : Int32)).toNatClampNeg by decide +kernel) n
theorem own_n4 (x : Int32) : x &&& (3 : Int32) = 0 ∨ x &&& (3 : Int32) = 1 ∨ x &&& (3 : Int32) = 2 ∨ x &&& (3 : Int32) = 3 := by
  have h1 : (x &&& (3 : Int32)).toInt = x.toInt % (2 ^ 2 : Nat) := c_mask x 3 2 (by decide) (by decide)
  generalize x &&& (3 : Int32) = y at h1 ⊢
  have h3 : y.toInt = (0 : Int32).toInt ∨ y.toInt = (1 : Int32).toInt ∨ y.toInt = (2 : Int32).toInt ∨ y.toInt = (3 : Int32).toInt := by
    simp only [Int32.reduceToInt]; omega
  simpa only [Int32.toInt_inj] using h3
theorem own_nz {n : Int32} (hn : ∃ i : Fin 4, n = Int32.ofNat i.val) : n + (1 : Int32) ≠ 0 := by
  obtain ⟨n, rfl⟩ := hn
  exact (show ∀ n : Fin 4, Int32.ofNat n.val + (1 : Int32) ≠ 0 by decide +kernel) n
theorem own_posR (x : Int32) (n : Fin 4) : own_R (Int32.ofNat n.val) (own_pm x (Int32.ofNat n.val + (1 : Int32))) := by
  have h1 : (x &&& (2147483647 : Int32)).toInt = x.toInt % (2 ^ 31 : Nat) := c_mask x 2147483647 31 (by decide) (by decide)
  have hd : (Int32.ofNat n.val + (1 : Int32)).toInt = n.val + 1 := (show ∀ n : Fin 4, (Int32.ofNat n.val + (1 : Int32)).toInt = n.val + 1 by decide +kernel) n
  have h2 := (c_irem (x &&& (2147483647 : Int32)) (Int32.ofNat n.val + (1 : Int32)) (n.val + 1) hd).1 (by omega)
  unfold own_pm
  generalize (x &&& (2147483647 : Int32)) % (Int32.ofNat n.val + (1 : Int32)) = y at h2 ⊢
  have h4 : 0 ≤ y.toInt ∧ y.toInt < n.val + 1 := by
    rw [h2]; exact ⟨Int.emod_nonneg _ (by omega), Int.emod_lt_of_pos _ (by omega)⟩
  have h5 := n.isLt
  have h6 : y = Int32.ofNat y.toNatClampNeg := by
    apply Int32.toInt_inj.mp
    rw [Int32.toInt_ofNat_of_lt (by unfold Int32.toNatClampNeg; omega)]
    unfold Int32.toNatClampNeg; omega
  have h7 : y.toNatClampNeg < 4 := by unfold Int32.toNatClampNeg; omega
  have h8 : y.toNatClampNeg < n.val + 1 := by unfold Int32.toNatClampNeg; omega
  refine ⟨⟨⟨y.toNatClampNeg, h7⟩, by unfold own_p; rw [← h6]⟩, ?_⟩
  rw [h6]
  exact (show ∀ (n i : Fin 4), i.val < n.val + 1 → Int32.ofNat i.val - 1 < Int32.ofNat n.val by decide +kernel) n ⟨y.toNatClampNeg, h7⟩ h8
theorem own_pmR {n : Int32} (hn : ∃ i : Fin 4, n = Int32.ofNat i.val) (x : Int32) : own_R n (own_pm x (n + (1 : Int32))) := by
  obtain ⟨n, rfl⟩ := hn; exact own_posR x n
theorem d8_0 : decode method_2_code 0 = .ok (.iload_n 0, 1) := by decide +kernel
theorem d8_1 : decode method_2_code 1 = .ok (.ldc 7, 2) := by decide +kernel
theorem d8_3 : decode method_2_code 3 = .ok (.iand, 1) := by decide +kernel
theorem d8_4 : decode method_2_code 4 = .ok (.iload_n 1, 1) := by decide +kernel
theorem d8_5 : decode method_2_code 5 = .ok (.irem, 1) := by decide +kernel
theorem d8_6 : decode method_2_code 6 = .ok (.iconst 1, 1) := by decide +kernel
theorem d8_7 : decode method_2_code 7 = .ok (.isub, 1) := by decide +kernel
theorem d8_8 : decode method_2_code 8 = .ok (.ireturn, 1) := by decide +kernel
theorem pn_com_example_gridtally_gridtally_casefile_IdSequenceNamedPinLaw : plainName "com/example/gridtally/gridtally/casefile/IdSequenceNamedPinLaw" = true := by first | (simp [plainName, overriddenIn]; done) | decide +kernel
theorem ef_pos (m : MethodId) (x0 : Int32) (x1 : Int32) : entryFrame m #[(.int x0), (.int x1)] 2 = mkF m 0 #[.val (.int x0), .val (.int x1)] [] := by first | (simp [entryFrame, mkF, argsToLocals, Value.category]; done) | rfl
def Qpos (Z : State) (p1 : Int32) (p2 : Int32) (h0 : Heap) (n0 : Nat) (v : Option Value) (h : Heap) (L : List Loc) : Prop := v = some (.int (own_pm p1 p2)) ∧ Fr n0 L ∧ h = h0
abbrev Gpos (Z : State) (p1 : Int32) (p2 : Int32) (h0 : Heap) (n0 : Nat) (s : State) : Outcome → State → Prop := fun o U' => ∃ v L, o = .returned v ∧ Qpos Z p1 p2 h0 n0 v U'.heap L ∧ FrameEnd s o U' L ({ frames := 0, cells := 0, slots := 0, locals := 0 } : Room).cells ({ frames := 0, cells := 0, slots := 0, locals := 0 } : Room).slots
set_option maxRecDepth 65536 in
set_option maxHeartbeats 40000000 in
theorem rmpos (l : Launch) (Z : State) (a0 : Array Value) (hw : ∀ d ∈ tables_1, d.before a0 Z = true) (ws : List Jvm.Cond) (p1 : Int32) (p2 : Int32) (h0 : Heap) (n0 : Nat) (Z0 : n0 ≤ h0.size) (hnz : p2 ≠ 0) :
    MetFree l (⟨"com/example/gridtally/gridtally/casefile/IdSequenceNamedPinLaw", "pos", "(II)I"⟩ : MethodName) (head1 (Jvm.Cond.code (⟨"com/example/gridtally/gridtally/casefile/IdSequenceNamedPinLaw", "pos", "(II)I"⟩ : MethodName) method_2_code 2 (some .int) :: ws) ({ frames := 0, cells := 0, slots := 0, locals := 0 } : Room)) (fun a U => a = #[(.int p1), (.int p2)] ∧ Z.Warmed39 U.vm ∧ U.heap = h0) (fun _ _ _ _ _ => True) (fun _ U o U' => ∃ v L, o = .returned v ∧ Qpos Z p1 p2 h0 n0 v U'.heap L ∧ FrameEnd U o U' L ({ frames := 0, cells := 0, slots := 0, locals := 0 } : Room).cells ({ frames := 0, cells := 0, slots := 0, locals := 0 } : Room).slots) := by
  refine MetFree.of_bodySF (plainFor_of_name pn_com_example_gridtally_gridtally_casefile_IdSequenceNamedPinLaw) hisR ?_
  intro p e s m args below meth c s₁ Bd hml0 hP hK
  obtain ⟨rfl, hZ, hh⟩ := hP
  have hx := Bd.exec
  have hby := Bd.bytes
  have hml : c.maxLocals = 2 := hml0
  have hown : s.vm.findClass "com/example/gridtally/gridtally/casefile/IdSequenceNamedPinLaw" = some m.cls := findClass_of_methodNamed Bd.named
  have hnm := (name_of_methodNamed Bd.named Bd.method).1
  have X0 : Stand p l e ({ frames := 0, cells := 0, slots := 0, locals := 0 } : Room) s m #[(.int p1), (.int p2)] below meth c s₁ [] 0 0 := Stand.of_body Bd
  have e0 : s₁.heap = h0 := by rw [← hh, Bd.state]; rfl
  have es0 : s.heap = h0 := hh
  have N0 := Fr.nil n0
  show own_Fin p e below (Gpos Z p1 p2 h0 n0 s) (s₁.setTop (entryFrame m #[(.int p1), (.int p2)] 2))
  rw [ef_pos m p1 p2]
  refine own_go (XS.iloadN X0.here hx rfl (hb hby d8_0) rfl (Steps.refl _)) ?_
  show own_Fin _ _ _ _ (s₁.setTop (mkF m 1 #[iv p1, iv p2] [(.int p1)]))
  refine own_by (X0.ldcInt hx hown (mvT hZ (hw _ (List.mem_of_getElem? (i := 63) rfl))) (g := (mkF m 1 #[iv p1, iv p2] [(.int p1)])) rfl (hb hby d8_1)) ?_
  show own_Fin _ _ _ _ (s₁.setTop (mkF m 3 #[iv p1, iv p2] [(.int (2147483647 : Int32)), (.int p1)]))
  refine own_go (XS.iand X0.here hx rfl (hb hby d8_3) rfl (Steps.refl _)) ?_
  show own_Fin _ _ _ _ (s₁.setTop (mkF m 4 #[iv p1, iv p2] [(.int (p1 &&& (2147483647 : Int32)))]))
  refine own_go (XS.iloadN X0.here hx rfl (hb hby d8_4) rfl (Steps.refl _)) ?_
  show own_Fin _ _ _ _ (s₁.setTop (mkF m 5 #[iv p1, iv p2] [(.int p2), (.int (p1 &&& (2147483647 : Int32)))]))
  refine own_go (iremM X0 hx rfl (hb hby d8_5) rfl hnz (Steps.refl _)) ?_
  show own_Fin _ _ _ _ (s₁.setTop (mkF m 6 #[iv p1, iv p2] [(.int ((p1 &&& (2147483647 : Int32)) % p2))]))
  refine own_go (XS.iconst X0.here hx rfl (hb hby d8_6) (Steps.refl _)) ?_
  show own_Fin _ _ _ _ (s₁.setTop (mkF m 7 #[iv p1, iv p2] [(.int (1 : Int32)), (.int ((p1 &&& (2147483647 : Int32)) % p2))]))
  refine own_go (XS.isub X0.here hx rfl (hb hby d8_7) rfl (Steps.refl _)) ?_
  show own_Fin _ _ _ _ (s₁.setTop (mkF m 8 #[iv p1, iv p2] [(.int (((p1 &&& (2147483647 : Int32)) % p2) - (1 : Int32)))]))
  obtain ⟨fs291, hr291, hrun291, hended291, hW291, hsame291⟩ := X0.leave (v := some (.int (((p1 &&& (2147483647 : Int32)) % p2) - (1 : Int32)))) (fun h => by rw [Bd.returns] at h; cases h)
  refine own_done (own_retI X0 hx Bd.returns (hb hby d8_8) hr291) hrun291 hended291 ⟨_, _, rfl, ?_, ⟨_, rfl⟩, hW291, hsame291.mono (by decide) (by decide)⟩
  show Qpos Z p1 p2 h0 n0 _ s₁.heap _
  rw [e0]
  exact ⟨rfl, N0, rfl⟩
theorem d11_0 : decode method_3_code 0 = .ok (.aload_n 0, 1) := by decide +kernel
theorem d11_1 : decode method_3_code 1 = .ok (.iload_n 1, 1) := by decide +kernel
theorem d11_2 : decode method_3_code 2 = .ok (.iaload, 1) := by decide +kernel
theorem d11_3 : decode method_3_code 3 = .ok (.istore_n 3, 1) := by decide +kernel
theorem d11_4 : decode method_3_code 4 = .ok (.iload_n 1, 1) := by decide +kernel
theorem d11_5 : decode method_3_code 5 = .ok (.iconst 1, 1) := by decide +kernel
theorem d11_6 : decode method_3_code 6 = .ok (.isub, 1) := by decide +kernel
theorem d11_7 : decode method_3_code 7 = .ok (.ifCond .lt 16, 3) := by decide +kernel
theorem d11_10 : decode method_3_code 10 = .ok (.aload_n 0, 1) := by decide +kernel
theorem d11_11 : decode method_3_code 11 = .ok (.iload_n 1, 1) := by decide +kernel
theorem d11_12 : decode method_3_code 12 = .ok (.iconst 1, 1) := by decide +kernel
theorem d11_13 : decode method_3_code 13 = .ok (.isub, 1) := by decide +kernel
theorem d11_14 : decode method_3_code 14 = .ok (.iaload, 1) := by decide +kernel
theorem d11_15 : decode method_3_code 15 = .ok (.iload_n 3, 1) := by decide +kernel
theorem d11_16 : decode method_3_code 16 = .ok (.if_icmp .ne 7, 3) := by decide +kernel
theorem d11_19 : decode method_3_code 19 = .ok (.aload_n 0, 1) := by decide +kernel
theorem d11_20 : decode method_3_code 20 = .ok (.iload_n 1, 1) := by decide +kernel
theorem d11_21 : decode method_3_code 21 = .ok (.iaload, 1) := by decide +kernel
theorem d11_22 : decode method_3_code 22 = .ok (.ireturn, 1) := by decide +kernel
theorem d11_23 : decode method_3_code 23 = .ok (.iload_n 1, 1) := by decide +kernel
theorem d11_24 : decode method_3_code 24 = .ok (.iconst 2, 1) := by decide +kernel
theorem d11_25 : decode method_3_code 25 = .ok (.isub, 1) := by decide +kernel
theorem d11_26 : decode method_3_code 26 = .ok (.ifCond .lt 18, 3) := by decide +kernel
theorem d11_29 : decode method_3_code 29 = .ok (.aload_n 0, 1) := by decide +kernel
theorem d11_30 : decode method_3_code 30 = .ok (.iload_n 1, 1) := by decide +kernel
theorem d11_31 : decode method_3_code 31 = .ok (.iconst 2, 1) := by decide +kernel
theorem d11_32 : decode method_3_code 32 = .ok (.isub, 1) := by decide +kernel
theorem d11_33 : decode method_3_code 33 = .ok (.iaload, 1) := by decide +kernel
theorem d11_34 : decode method_3_code 34 = .ok (.iload_n 3, 1) := by decide +kernel
theorem d11_35 : decode method_3_code 35 = .ok (.if_icmp .ne 9, 3) := by decide +kernel
theorem d11_38 : decode method_3_code 38 = .ok (.aload_n 0, 1) := by decide +kernel
theorem d11_39 : decode method_3_code 39 = .ok (.iload_n 1, 1) := by decide +kernel
theorem d11_40 : decode method_3_code 40 = .ok (.iconst 1, 1) := by decide +kernel
theorem d11_41 : decode method_3_code 41 = .ok (.isub, 1) := by decide +kernel
theorem d11_42 : decode method_3_code 42 = .ok (.iaload, 1) := by decide +kernel
theorem d11_43 : decode method_3_code 43 = .ok (.ireturn, 1) := by decide +kernel
theorem d11_44 : decode method_3_code 44 = .ok (.iload_n 1, 1) := by decide +kernel
theorem d11_45 : decode method_3_code 45 = .ok (.iconst 3, 1) := by decide +kernel
theorem d11_46 : decode method_3_code 46 = .ok (.isub, 1) := by decide +kernel
theorem d11_47 : decode method_3_code 47 = .ok (.ifCond .lt 18, 3) := by decide +kernel
theorem d11_50 : decode method_3_code 50 = .ok (.aload_n 0, 1) := by decide +kernel
theorem d11_51 : decode method_3_code 51 = .ok (.iload_n 1, 1) := by decide +kernel
theorem d11_52 : decode method_3_code 52 = .ok (.iconst 3, 1) := by decide +kernel
theorem d11_53 : decode method_3_code 53 = .ok (.isub, 1) := by decide +kernel
theorem d11_54 : decode method_3_code 54 = .ok (.iaload, 1) := by decide +kernel
theorem d11_55 : decode method_3_code 55 = .ok (.iload_n 3, 1) := by decide +kernel
theorem d11_56 : decode method_3_code 56 = .ok (.if_icmp .ne 9, 3) := by decide +kernel
theorem d11_59 : decode method_3_code 59 = .ok (.aload_n 0, 1) := by decide +kernel
theorem d11_60 : decode method_3_code 60 = .ok (.iload_n 1, 1) := by decide +kernel
theorem d11_61 : decode method_3_code 61 = .ok (.iconst 2, 1) := by decide +kernel
theorem d11_62 : decode method_3_code 62 = .ok (.isub, 1) := by decide +kernel
theorem d11_63 : decode method_3_code 63 = .ok (.iaload, 1) := by decide +kernel
theorem d11_64 : decode method_3_code 64 = .ok (.ireturn, 1) := by decide +kernel
theorem d11_65 : decode method_3_code 65 = .ok (.iload_n 1, 1) := by decide +kernel
theorem d11_66 : decode method_3_code 66 = .ok (.iconst 4, 1) := by decide +kernel
theorem d11_67 : decode method_3_code 67 = .ok (.isub, 1) := by decide +kernel
theorem d11_68 : decode method_3_code 68 = .ok (.ifCond .lt 18, 3) := by decide +kernel
theorem d11_71 : decode method_3_code 71 = .ok (.aload_n 0, 1) := by decide +kernel
theorem d11_72 : decode method_3_code 72 = .ok (.iload_n 1, 1) := by decide +kernel
theorem d11_73 : decode method_3_code 73 = .ok (.iconst 4, 1) := by decide +kernel
theorem d11_74 : decode method_3_code 74 = .ok (.isub, 1) := by decide +kernel
theorem d11_75 : decode method_3_code 75 = .ok (.iaload, 1) := by decide +kernel
theorem d11_76 : decode method_3_code 76 = .ok (.iload_n 3, 1) := by decide +kernel
theorem d11_77 : decode method_3_code 77 = .ok (.if_icmp .ne 9, 3) := by decide +kernel
theorem d11_80 : decode method_3_code 80 = .ok (.aload_n 0, 1) := by decide +kernel
theorem d11_81 : decode method_3_code 81 = .ok (.iload_n 1, 1) := by decide +kernel
theorem d11_82 : decode method_3_code 82 = .ok (.iconst 3, 1) := by decide +kernel
theorem d11_83 : decode method_3_code 83 = .ok (.isub, 1) := by decide +kernel
theorem d11_84 : decode method_3_code 84 = .ok (.iaload, 1) := by decide +kernel
theorem d11_85 : decode method_3_code 85 = .ok (.ireturn, 1) := by decide +kernel
theorem d11_86 : decode method_3_code 86 = .ok (.iload_n 3, 1) := by decide +kernel
theorem d11_87 : decode method_3_code 87 = .ok (.ifCond .ge 15, 3) := by decide +kernel
theorem d11_90 : decode method_3_code 90 = .ok (.iload_n 2, 1) := by decide +kernel
theorem d11_91 : decode method_3_code 91 = .ok (.ifCond .le 7, 3) := by decide +kernel
theorem d11_94 : decode method_3_code 94 = .ok (.iconst 0, 1) := by decide +kernel
theorem d11_95 : decode method_3_code 95 = .ok (.goto 8, 3) := by decide +kernel
theorem d11_98 : decode method_3_code 98 = .ok (.iconst (-1), 1) := by decide +kernel
theorem d11_99 : decode method_3_code 99 = .ok (.goto 4, 3) := by decide +kernel
theorem d11_102 : decode method_3_code 102 = .ok (.iconst (-1), 1) := by decide +kernel
theorem d11_103 : decode method_3_code 103 = .ok (.ireturn, 1) := by decide +kernel
theorem ef_ref_1 (m : MethodId) (x0 : Addr) (x1 : Int32) (x2 : Int32) : entryFrame m #[(.ref x0), (.int x1), (.int x2)] 4 = mkF m 0 #[.val (.ref x0), .val (.int x1), .val (.int x2), .unset] [] := by first | (simp [entryFrame, mkF, argsToLocals, Value.category]; done) | rfl
def Qref_1 (Z : State) (a1 : Addr) (k : ClassId) (c0 : Int32) (c1 : Int32) (c2 : Int32) (c3 : Int32) (c4 : Int32) (p3 : Int32) (h0 : Heap) (n0 : Nat) (v : Option Value) (h : Heap) (L : List Loc) : Prop := v = some (.int (own_rf1 c0 c1 p3)) ∧ Fr n0 L ∧ h = h0
abbrev Gref_1 (Z : State) (a1 : Addr) (k : ClassId) (c0 : Int32) (c1 : Int32) (c2 : Int32) (c3 : Int32) (c4 : Int32) (p3 : Int32) (h0 : Heap) (n0 : Nat) (s : State) : Outcome → State → Prop := fun o U' => ∃ v L, o = .returned v ∧ Qref_1 Z a1 k c0 c1 c2 c3 c4 p3 h0 n0 v U'.heap L ∧ FrameEnd s o U' L ({ frames := 0, cells := 0, slots := 0, locals := 0 } : Room).cells ({ frames := 0, cells := 0, slots := 0, locals := 0 } : Room).slots
set_option maxRecDepth 65536 in
set_option maxHeartbeats 40000000 in
theorem rmref_1 (l : Launch) (Z : State) (a0 : Array Value) (hw : ∀ d ∈ tables_1, d.before a0 Z = true) (ws : List Jvm.Cond) (a1 : Addr) (k : ClassId) (c0 : Int32) (c1 : Int32) (c2 : Int32) (c3 : Int32) (c4 : Int32) (p3 : Int32) (h0 : Heap) (n0 : Nat) (Z0 : n0 ≤ h0.size) (V_a1 : Arv Z h0 a1 k .int (5 : Int32) [(.int c0), (.int c1), (.int c2), (.int c3), (.int c4)] (.int (0 : Int32))) :
    MetFree l (⟨"com/example/gridtally/gridtally/casefile/IdSequenceNamedPinLaw", "ref", "([III)I"⟩ : MethodName) (head1 (Jvm.Cond.code (⟨"com/example/gridtally/gridtally/casefile/IdSequenceNamedPinLaw", "ref", "([III)I"⟩ : MethodName) method_3_code 4 (some .int) :: ws) ({ frames := 0, cells := 0, slots := 0, locals := 0 } : Room)) (fun a U => a = #[(.ref a1), (.int (1 : Int32)), (.int p3)] ∧ Z.Warmed39 U.vm ∧ U.heap = h0) (fun _ _ _ _ _ => True) (fun _ U o U' => ∃ v L, o = .returned v ∧ Qref_1 Z a1 k c0 c1 c2 c3 c4 p3 h0 n0 v U'.heap L ∧ FrameEnd U o U' L ({ frames := 0, cells := 0, slots := 0, locals := 0 } : Room).cells ({ frames := 0, cells := 0, slots := 0, locals := 0 } : Room).slots) := by
  refine MetFree.of_bodySF (plainFor_of_name pn_com_example_gridtally_gridtally_casefile_IdSequenceNamedPinLaw) hisR ?_
  intro p e s m args below meth c s₁ Bd hml0 hP hK
  obtain ⟨rfl, hZ, hh⟩ := hP
  have hx := Bd.exec
  have hby := Bd.bytes
  have hml : c.maxLocals = 4 := hml0
  have hown : s.vm.findClass "com/example/gridtally/gridtally/casefile/IdSequenceNamedPinLaw" = some m.cls := findClass_of_methodNamed Bd.named
  have hnm := (name_of_methodNamed Bd.named Bd.method).1
  have X0 : Stand p l e ({ frames := 0, cells := 0, slots := 0, locals := 0 } : Room) s m #[(.ref a1), (.int (1 : Int32)), (.int p3)] below meth c s₁ [] 0 0 := Stand.of_body Bd
  have e0 : s₁.heap = h0 := by rw [← hh, Bd.state]; rfl
  have es0 : s.heap = h0 := hh
  have N0 := Fr.nil n0
  show own_Fin p e below (Gref_1 Z a1 k c0 c1 c2 c3 c4 p3 h0 n0 s) (s₁.setTop (entryFrame m #[(.ref a1), (.int (1 : Int32)), (.int p3)] 4))
  rw [ef_ref_1 m a1 (1 : Int32) p3]
  refine own_go (XS.aloadN X0.here hx rfl (hb hby d11_0) rfl rfl (Steps.refl _)) ?_
  show own_Fin _ _ _ _ (s₁.setTop (mkF m 1 #[rv a1, iv (1 : Int32), iv p3, .unset] [(.ref a1)]))
  refine own_go (XS.iloadN X0.here hx rfl (hb hby d11_1) rfl (Steps.refl _)) ?_
  show own_Fin _ _ _ _ (s₁.setTop (mkF m 2 #[rv a1, iv (1 : Int32), iv p3, .unset] [(.int (1 : Int32)), (.ref a1)]))
  obtain ⟨cl292, Ar292, qa292, Sa292, Na292, Ha292, Ga292⟩ := id V_a1
  have hin292 : ¬ ((1 : Int32) < 0 ∨ cl292.slots.size ≤ ((1 : Int32)).toNatClampNeg) := inb_of Sa292 ⟨by decide, by decide⟩
  have hat292 : cl292.slots[((1 : Int32)).toNatClampNeg]? = some (.int c1) := Has.at Ha292 hin292 rfl
  refine own_by (X0.iaload hx (j := (1 : Int32)) (v := (.int c1)) (by rw [e0]; exact Ar292.1) (State.isArrayOf_alike hZ.alike Ar292.2.1) Ar292.2.2 hin292 hat292 (g := (mkF m 2 #[rv a1, iv (1 : Int32), iv p3, .unset] [(.int (1 : Int32)), (.ref a1)])) rfl rfl (hb hby d11_2)) ?_
  show own_Fin _ _ _ _ (s₁.setTop (mkF m 3 #[rv a1, iv (1 : Int32), iv p3, .unset] [(.int c1)]))
  refine own_go (XS.istoreN X0.here hx rfl (hb hby d11_3) rfl rfl (Steps.refl _)) ?_
  show own_Fin _ _ _ _ (s₁.setTop (mkF m 4 #[rv a1, iv (1 : Int32), iv p3, iv c1] []))
  refine own_go (XS.iloadN X0.here hx rfl (hb hby d11_4) rfl (Steps.refl _)) ?_
  show own_Fin _ _ _ _ (s₁.setTop (mkF m 5 #[rv a1, iv (1 : Int32), iv p3, iv c1] [(.int (1 : Int32))]))
  refine own_go (XS.iconst X0.here hx rfl (hb hby d11_5) (Steps.refl _)) ?_
  show own_Fin _ _ _ _ (s₁.setTop (mkF m 6 #[rv a1, iv (1 : Int32), iv p3, iv c1] [(.int (1 : Int32)), (.int (1 : Int32))]))
  refine own_go (XS.isub X0.here hx rfl (hb hby d11_6) rfl (Steps.refl _)) ?_
  show own_Fin _ _ _ _ (s₁.setTop (mkF m 7 #[rv a1, iv (1 : Int32), iv p3, iv c1] [(.int (0 : Int32))]))
  refine own_go (XS.ifNo X0.here hx rfl (hb hby d11_7) rfl ((if0 _ _).trans (flt (by decide : ¬ ((0 : Int32) < (0 : Int32)))).1) (Steps.refl _)) ?_
  show own_Fin _ _ _ _ (s₁.setTop (mkF m 10 #[rv a1, iv (1 : Int32), iv p3, iv c1] []))
  refine own_go (XS.aloadN X0.here hx rfl (hb hby d11_10) rfl rfl (Steps.refl _)) ?_
  show own_Fin _ _ _ _ (s₁.setTop (mkF m 11 #[rv a1, iv (1 : Int32), iv p3, iv c1] [(.ref a1)]))
  refine own_go (XS.iloadN X0.here hx rfl (hb hby d11_11) rfl (Steps.refl _)) ?_
  show own_Fin _ _ _ _ (s₁.setTop (mkF m 12 #[rv a1, iv (1 : Int32), iv p3, iv c1] [(.int (1 : Int32)), (.ref a1)]))
  refine own_go (XS.iconst X0.here hx rfl (hb hby d11_12) (Steps.refl _)) ?_
  show own_Fin _ _ _ _ (s₁.setTop (mkF m 13 #[rv a1, iv (1 : Int32), iv p3, iv c1] [(.int (1 : Int32)), (.int (1 : Int32)), (.ref a1)]))
  refine own_go (XS.isub X0.here hx rfl (hb hby d11_13) rfl (Steps.refl _)) ?_
  show own_Fin _ _ _ _ (s₁.setTop (mkF m 14 #[rv a1, iv (1 : Int32), iv p3, iv c1] [(.int (0 : Int32)), (.ref a1)]))
  obtain ⟨cl293, Ar293, qa293, Sa293, Na293, Ha293, Ga293⟩ := id V_a1
  have hin293 : ¬ ((0 : Int32) < 0 ∨ cl293.slots.size ≤ ((0 : Int32)).toNatClampNeg) := inb_of Sa293 ⟨by decide, by decide⟩
  have hat293 : cl293.slots[((0 : Int32)).toNatClampNeg]? = some (.int c0) := Has.at Ha293 hin293 rfl
  refine own_by (X0.iaload hx (j := (0 : Int32)) (v := (.int c0)) (by rw [e0]; exact Ar293.1) (State.isArrayOf_alike hZ.alike Ar293.2.1) Ar293.2.2 hin293 hat293 (g := (mkF m 14 #[rv a1, iv (1 : Int32), iv p3, iv c1] [(.int (0 : Int32)), (.ref a1)])) rfl rfl (hb hby d11_14)) ?_
  show own_Fin _ _ _ _ (s₁.setTop (mkF m 15 #[rv a1, iv (1 : Int32), iv p3, iv c1] [(.int c0)]))
  refine own_go (XS.iloadN X0.here hx rfl (hb hby d11_15) rfl (Steps.refl _)) ?_
  show own_Fin _ _ _ _ (s₁.setTop (mkF m 16 #[rv a1, iv (1 : Int32), iv p3, iv c1] [(.int c1), (.int c0)]))
  by_cases c16_294 : c0 = c1
  · refine own_go (XS.icmpNo X0.here hx rfl (hb hby d11_16) rfl (teq c16_294).2 (Steps.refl _)) ?_
    show own_Fin _ _ _ _ (s₁.setTop (mkF m 19 #[rv a1, iv (1 : Int32), iv p3, iv c1] []))
    refine own_go (XS.aloadN X0.here hx rfl (hb hby d11_19) rfl rfl (Steps.refl _)) ?_
    show own_Fin _ _ _ _ (s₁.setTop (mkF m 20 #[rv a1, iv (1 : Int32), iv p3, iv c1] [(.ref a1)]))
    refine own_go (XS.iloadN X0.here hx rfl (hb hby d11_20) rfl (Steps.refl _)) ?_
    show own_Fin _ _ _ _ (s₁.setTop (mkF m 21 #[rv a1, iv (1 : Int32), iv p3, iv c1] [(.int (1 : Int32)), (.ref a1)]))
    obtain ⟨cl295, Ar295, qa295, Sa295, Na295, Ha295, Ga295⟩ := id V_a1
    have hin295 : ¬ ((1 : Int32) < 0 ∨ cl295.slots.size ≤ ((1 : Int32)).toNatClampNeg) := inb_of Sa295 ⟨by decide, by decide⟩
    have hat295 : cl295.slots[((1 : Int32)).toNatClampNeg]? = some (.int c1) := Has.at Ha295 hin295 rfl
    refine own_by (X0.iaload hx (j := (1 : Int32)) (v := (.int c1)) (by rw [e0]; exact Ar295.1) (State.isArrayOf_alike hZ.alike Ar295.2.1) Ar295.2.2 hin295 hat295 (g := (mkF m 21 #[rv a1, iv (1 : Int32), iv p3, iv c1] [(.int (1 : Int32)), (.ref a1)])) rfl rfl (hb hby d11_21)) ?_
    show own_Fin _ _ _ _ (s₁.setTop (mkF m 22 #[rv a1, iv (1 : Int32), iv p3, iv c1] [(.int c1)]))
    obtain ⟨fs296, hr296, hrun296, hended296, hW296, hsame296⟩ := X0.leave (v := some (.int c1)) (fun h => by rw [Bd.returns] at h; cases h)
    refine own_done (own_retI X0 hx Bd.returns (hb hby d11_22) hr296) hrun296 hended296 ⟨_, _, rfl, ?_, ⟨_, rfl⟩, hW296, hsame296.mono (by decide) (by decide)⟩
    show Qref_1 Z a1 k c0 c1 c2 c3 c4 p3 h0 n0 _ s₁.heap _
    rw [e0]
    exact ⟨(by unfold own_rf1; first | rw [if_pos c16_294] | (unfold own_tl; rw [if_pos c16_294])), N0, rfl⟩
  · refine own_go (XS.icmpYes X0.here hx rfl (pc0 := 16) (pc' := 23) rfl (hb hby d11_16) rfl (feq c16_294).2 (by decide) (by decide) (Steps.refl _)) ?_
    show own_Fin _ _ _ _ (s₁.setTop (mkF m 23 #[rv a1, iv (1 : Int32), iv p3, iv c1] []))
    refine own_go (XS.iloadN X0.here hx rfl (hb hby d11_23) rfl (Steps.refl _)) ?_
    show own_Fin _ _ _ _ (s₁.setTop (mkF m 24 #[rv a1, iv (1 : Int32), iv p3, iv c1] [(.int (1 : Int32))]))
    refine own_go (XS.iconst X0.here hx rfl (hb hby d11_24) (Steps.refl _)) ?_
    show own_Fin _ _ _ _ (s₁.setTop (mkF m 25 #[rv a1, iv (1 : Int32), iv p3, iv c1] [(.int (2 : Int32)), (.int (1 : Int32))]))
    refine own_go (XS.isub X0.here hx rfl (hb hby d11_25) rfl (Steps.refl _)) ?_
    show own_Fin _ _ _ _ (s₁.setTop (mkF m 26 #[rv a1, iv (1 : Int32), iv p3, iv c1] [(.int (-1 : Int32))]))
    refine own_go (XS.ifYes X0.here hx rfl (pc0 := 26) (pc' := 44) rfl (hb hby d11_26) rfl ((if0 _ _).trans (tlt (by decide : (-1 : Int32) < (0 : Int32))).1) (by decide) (by decide) (Steps.refl _)) ?_
    show own_Fin _ _ _ _ (s₁.setTop (mkF m 44 #[rv a1, iv (1 : Int32), iv p3, iv c1] []))
    refine own_go (XS.iloadN X0.here hx rfl (hb hby d11_44) rfl (Steps.refl _)) ?_
    show own_Fin _ _ _ _ (s₁.setTop (mkF m 45 #[rv a1, iv (1 : Int32), iv p3, iv c1] [(.int (1 : Int32))]))
    refine own_go (XS.iconst X0.here hx rfl (hb hby d11_45) (Steps.refl _)) ?_
    show own_Fin _ _ _ _ (s₁.setTop (mkF m 46 #[rv a1, iv (1 : Int32), iv p3, iv c1] [(.int (3 : Int32)), (.int (1 : Int32))]))
    refine own_go (XS.isub X0.here hx rfl (hb hby d11_46) rfl (Steps.refl _)) ?_
    show own_Fin _ _ _ _ (s₁.setTop (mkF m 47 #[rv a1, iv (1 : Int32), iv p3, iv c1] [(.int (-2 : Int32))]))
    refine own_go (XS.ifYes X0.here hx rfl (pc0 := 47) (pc' := 65) rfl (hb hby d11_47) rfl ((if0 _ _).trans (tlt (by decide : (-2 : Int32) < (0 : Int32))).1) (by decide) (by decide) (Steps.refl _)) ?_
    show own_Fin _ _ _ _ (s₁.setTop (mkF m 65 #[rv a1, iv (1 : Int32), iv p3, iv c1] []))
    refine own_go (XS.iloadN X0.here hx rfl (hb hby d11_65) rfl (Steps.refl _)) ?_
    show own_Fin _ _ _ _ (s₁.setTop (mkF m 66 #[rv a1, iv (1 : Int32), iv p3, iv c1] [(.int (1 : Int32))]))
    refine own_go (XS.iconst X0.here hx rfl (hb hby d11_66) (Steps.refl _)) ?_
    show own_Fin _ _ _ _ (s₁.setTop (mkF m 67 #[rv a1, iv (1 : Int32), iv p3, iv c1] [(.int (4 : Int32)), (.int (1 : Int32))]))
    refine own_go (XS.isub X0.here hx rfl (hb hby d11_67) rfl (Steps.refl _)) ?_
    show own_Fin _ _ _ _ (s₁.setTop (mkF m 68 #[rv a1, iv (1 : Int32), iv p3, iv c1] [(.int (-3 : Int32))]))
    refine own_go (XS.ifYes X0.here hx rfl (pc0 := 68) (pc' := 86) rfl (hb hby d11_68) rfl ((if0 _ _).trans (tlt (by decide : (-3 : Int32) < (0 : Int32))).1) (by decide) (by decide) (Steps.refl _)) ?_
    show own_Fin _ _ _ _ (s₁.setTop (mkF m 86 #[rv a1, iv (1 : Int32), iv p3, iv c1] []))
    refine own_go (XS.iloadN X0.here hx rfl (hb hby d11_86) rfl (Steps.refl _)) ?_
    show own_Fin _ _ _ _ (s₁.setTop (mkF m 87 #[rv a1, iv (1 : Int32), iv p3, iv c1] [(.int c1)]))
    by_cases c87_297 : c1 < (0 : Int32)
    · refine own_go (XS.ifNo X0.here hx rfl (hb hby d11_87) rfl ((if0 _ _).trans (tlt c87_297).2.1) (Steps.refl _)) ?_
      show own_Fin _ _ _ _ (s₁.setTop (mkF m 90 #[rv a1, iv (1 : Int32), iv p3, iv c1] []))
      refine own_go (XS.iloadN X0.here hx rfl (hb hby d11_90) rfl (Steps.refl _)) ?_
      show own_Fin _ _ _ _ (s₁.setTop (mkF m 91 #[rv a1, iv (1 : Int32), iv p3, iv c1] [(.int p3)]))
      by_cases c91_298 : (0 : Int32) < p3
      · refine own_go (XS.ifNo X0.here hx rfl (hb hby d11_91) rfl ((if0 _ _).trans (tlt c91_298).2.2.2) (Steps.refl _)) ?_
        show own_Fin _ _ _ _ (s₁.setTop (mkF m 94 #[rv a1, iv (1 : Int32), iv p3, iv c1] []))
        refine own_go (XS.iconst X0.here hx rfl (hb hby d11_94) (Steps.refl _)) ?_
        show own_Fin _ _ _ _ (s₁.setTop (mkF m 95 #[rv a1, iv (1 : Int32), iv p3, iv c1] [(.int (0 : Int32))]))
        refine own_go (XS.goto X0.here hx rfl (pc0 := 95) (pc' := 103) rfl (hb hby d11_95) (by decide) (by decide) (Steps.refl _)) ?_
        show own_Fin _ _ _ _ (s₁.setTop (mkF m 103 #[rv a1, iv (1 : Int32), iv p3, iv c1] [(.int (0 : Int32))]))
        obtain ⟨fs299, hr299, hrun299, hended299, hW299, hsame299⟩ := X0.leave (v := some (.int (0 : Int32))) (fun h => by rw [Bd.returns] at h; cases h)
        refine own_done (own_retI X0 hx Bd.returns (hb hby d11_103) hr299) hrun299 hended299 ⟨_, _, rfl, ?_, ⟨_, rfl⟩, hW299, hsame299.mono (by decide) (by decide)⟩
        show Qref_1 Z a1 k c0 c1 c2 c3 c4 p3 h0 n0 _ s₁.heap _
        rw [e0]
        exact ⟨(by unfold own_rf1; first | rw [if_neg c16_294, if_pos c87_297, if_pos c91_298] | (unfold own_tl; rw [if_neg c16_294, if_pos c87_297, if_pos c91_298])), N0, rfl⟩
      · refine own_go (XS.ifYes X0.here hx rfl (pc0 := 91) (pc' := 98) rfl (hb hby d11_91) rfl ((if0 _ _).trans (flt c91_298).2.2.2) (by decide) (by decide) (Steps.refl _)) ?_
        show own_Fin _ _ _ _ (s₁.setTop (mkF m 98 #[rv a1, iv (1 : Int32), iv p3, iv c1] []))
        refine own_go (XS.iconst X0.here hx rfl (hb hby d11_98) (Steps.refl _)) ?_
        show own_Fin _ _ _ _ (s₁.setTop (mkF m 99 #[rv a1, iv (1 : Int32), iv p3, iv c1] [(.int (-1 : Int32))]))
        refine own_go (XS.goto X0.here hx rfl (pc0 := 99) (pc' := 103) rfl (hb hby d11_99) (by decide) (by decide) (Steps.refl _)) ?_
        show own_Fin _ _ _ _ (s₁.setTop (mkF m 103 #[rv a1, iv (1 : Int32), iv p3, iv c1] [(.int (-1 : Int32))]))
        obtain ⟨fs300, hr300, hrun300, hended300, hW300, hsame300⟩ := X0.leave (v := some (.int (-1 : Int32))) (fun h => by rw [Bd.returns] at h; cases h)
        refine own_done (own_retI X0 hx Bd.returns (hb hby d11_103) hr300) hrun300 hended300 ⟨_, _, rfl, ?_, ⟨_, rfl⟩, hW300, hsame300.mono (by decide) (by decide)⟩
        show Qref_1 Z a1 k c0 c1 c2 c3 c4 p3 h0 n0 _ s₁.heap _
        rw [e0]
        exact ⟨(by unfold own_rf1; first | rw [if_neg c16_294, if_pos c87_297, if_neg c91_298] | (unfold own_tl; rw [if_neg c16_294, if_pos c87_297, if_neg c91_298])), N0, rfl⟩
    · refine own_go (XS.ifYes X0.here hx rfl (pc0 := 87) (pc' := 102) rfl (hb hby d11_87) rfl ((if0 _ _).trans (flt c87_297).2.1) (by decide) (by decide) (Steps.refl _)) ?_
      show own_Fin _ _ _ _ (s₁.setTop (mkF m 102 #[rv a1, iv (1 : Int32), iv p3, iv c1] []))
      refine own_go (XS.iconst X0.here hx rfl (hb hby d11_102) (Steps.refl _)) ?_
      show own_Fin _ _ _ _ (s₁.setTop (mkF m 103 #[rv a1, iv (1 : Int32), iv p3, iv c1] [(.int (-1 : Int32))]))
      obtain ⟨fs301, hr301, hrun301, hended301, hW301, hsame301⟩ := X0.leave (v := some (.int (-1 : Int32))) (fun h => by rw [Bd.returns] at h; cases h)
      refine own_done (own_retI X0 hx Bd.returns (hb hby d11_103) hr301) hrun301 hended301 ⟨_, _, rfl, ?_, ⟨_, rfl⟩, hW301, hsame301.mono (by decide) (by decide)⟩
      show Qref_1 Z a1 k c0 c1 c2 c3 c4 p3 h0 n0 _ s₁.heap _
      rw [e0]
      exact ⟨(by unfold own_rf1; first | rw [if_neg c16_294, if_neg c87_297] | (unfold own_tl; rw [if_neg c16_294, if_neg c87_297])), N0, rfl⟩
theorem ef_ref_2 (m : MethodId) (x0 : Addr) (x1 : Int32) (x2 : Int32) : entryFrame m #[(.ref x0), (.int x1), (.int x2)] 4 = mkF m 0 #[.val (.ref x0), .val (.int x1), .val (.int x2), .unset] [] := by first | (simp [entryFrame, mkF, argsToLocals, Value.category]; done) | rfl
def Qref_2 (Z : State) (a1 : Addr) (k : ClassId) (c0 : Int32) (c1 : Int32) (c2 : Int32) (c3 : Int32) (c4 : Int32) (p3 : Int32) (h0 : Heap) (n0 : Nat) (v : Option Value) (h : Heap) (L : List Loc) : Prop := v = some (.int (own_rf2 c0 c1 c2 p3)) ∧ Fr n0 L ∧ h = h0
abbrev Gref_2 (Z : State) (a1 : Addr) (k : ClassId) (c0 : Int32) (c1 : Int32) (c2 : Int32) (c3 : Int32) (c4 : Int32) (p3 : Int32) (h0 : Heap) (n0 : Nat) (s : State) : Outcome → State → Prop := fun o U' => ∃ v L, o = .returned v ∧ Qref_2 Z a1 k c0 c1 c2 c3 c4 p3 h0 n0 v U'.heap L ∧ FrameEnd s o U' L ({ frames := 0, cells := 0, slots := 0, locals := 0 } : Room).cells ({ frames := 0, cells := 0, slots := 0, locals := 0 } : Room).slots
set_option maxRecDepth 65536 in
set_option maxHeartbeats 40000000 in
theorem rmref_2 (l : Launch) (Z : State) (a0 : Array Value) (hw : ∀ d ∈ tables_1, d.before a0 Z = true) (ws : List Jvm.Cond) (a1 : Addr) (k : ClassId) (c0 : Int32) (c1 : Int32) (c2 : Int32) (c3 : Int32) (c4 : Int32) (p3 : Int32) (h0 : Heap) (n0 : Nat) (Z0 : n0 ≤ h0.size) (V_a1 : Arv Z h0 a1 k .int (5 : Int32) [(.int c0), (.int c1), (.int c2), (.int c3), (.int c4)] (.int (0 : Int32))) :
    MetFree l (⟨"com/example/gridtally/gridtally/casefile/IdSequenceNamedPinLaw", "ref", "([III)I"⟩ : MethodName) (head1 (Jvm.Cond.code (⟨"com/example/gridtally/gridtally/casefile/IdSequenceNamedPinLaw", "ref", "([III)I"⟩ : MethodName) method_3_code 4 (some .int) :: ws) ({ frames := 0, cells := 0, slots := 0, locals := 0 } : Room)) (fun a U => a = #[(.ref a1), (.int (2 : Int32)), (.int p3)] ∧ Z.Warmed39 U.vm ∧ U.heap = h0) (fun _ _ _ _ _ => True) (fun _ U o U' => ∃ v L, o = .returned v ∧ Qref_2 Z a1 k c0 c1 c2 c3 c4 p3 h0 n0 v U'.heap L ∧ FrameEnd U o U' L ({ frames := 0, cells := 0, slots := 0, locals := 0 } : Room).cells ({ frames := 0, cells := 0, slots := 0, locals := 0 } : Room).slots) := by
  refine MetFree.of_bodySF (plainFor_of_name pn_com_example_gridtally_gridtally_casefile_IdSequenceNamedPinLaw) hisR ?_
  intro p e s m args below meth c s₁ Bd hml0 hP hK
  obtain ⟨rfl, hZ, hh⟩ := hP
  have hx := Bd.exec
  have hby := Bd.bytes
  have hml : c.maxLocals = 4 := hml0
  have hown : s.vm.findClass "com/example/gridtally/gridtally/casefile/IdSequenceNamedPinLaw" = some m.cls := findClass_of_methodNamed Bd.named
  have hnm := (name_of_methodNamed Bd.named Bd.method).1
  have X0 : Stand p l e ({ frames := 0, cells := 0, slots := 0, locals := 0 } : Room) s m #[(.ref a1), (.int (2 : Int32)), (.int p3)] below meth c s₁ [] 0 0 := Stand.of_body Bd
  have e0 : s₁.heap = h0 := by rw [← hh, Bd.state]; rfl
  have es0 : s.heap = h0 := hh
  have N0 := Fr.nil n0
  show own_Fin p e below (Gref_2 Z a1 k c0 c1 c2 c3 c4 p3 h0 n0 s) (s₁.setTop (entryFrame m #[(.ref a1), (.int (2 : Int32)), (.int p3)] 4))
  rw [ef_ref_2 m a1 (2 : Int32) p3]
  refine own_go (XS.aloadN X0.here hx rfl (hb hby d11_0) rfl rfl (Steps.refl _)) ?_
  show own_Fin _ _ _ _ (s₁.setTop (mkF m 1 #[rv a1, iv (2 : Int32), iv p3, .unset] [(.ref a1)]))
  refine own_go (XS.iloadN X0.here hx rfl (hb hby d11_1) rfl (Steps.refl _)) ?_
  show own_Fin _ _ _ _ (s₁.setTop (mkF m 2 #[rv a1, iv (2 : Int32), iv p3, .unset] [(.int (2 : Int32)), (.ref a1)]))
  obtain ⟨cl302, Ar302, qa302, Sa302, Na302, Ha302, Ga302⟩ := id V_a1
  have hin302 : ¬ ((2 : Int32) < 0 ∨ cl302.slots.size ≤ ((2 : Int32)).toNatClampNeg) := inb_of Sa302 ⟨by decide, by decide⟩
  have hat302 : cl302.slots[((2 : Int32)).toNatClampNeg]? = some (.int c2) := Has.at Ha302 hin302 rfl
  refine own_by (X0.iaload hx (j := (2 : Int32)) (v := (.int c2)) (by rw [e0]; exact Ar302.1) (State.isArrayOf_alike hZ.alike Ar302.2.1) Ar302.2.2 hin302 hat302 (g := (mkF m 2 #[rv a1, iv (2 : Int32), iv p3, .unset] [(.int (2 : Int32)), (.ref a1)])) rfl rfl (hb hby d11_2)) ?_
  show own_Fin _ _ _ _ (s₁.setTop (mkF m 3 #[rv a1, iv (2 : Int32), iv p3, .unset] [(.int c2)]))
  refine own_go (XS.istoreN X0.here hx rfl (hb hby d11_3) rfl rfl (Steps.refl _)) ?_
  show own_Fin _ _ _ _ (s₁.setTop (mkF m 4 #[rv a1, iv (2 : Int32), iv p3, iv c2] []))
  refine own_go (XS.iloadN X0.here hx rfl (hb hby d11_4) rfl (Steps.refl _)) ?_
  show own_Fin _ _ _ _ (s₁.setTop (mkF m 5 #[rv a1, iv (2 : Int32), iv p3, iv c2] [(.int (2 : Int32))]))
  refine own_go (XS.iconst X0.here hx rfl (hb hby d11_5) (Steps.refl _)) ?_
  show own_Fin _ _ _ _ (s₁.setTop (mkF m 6 #[rv a1, iv (2 : Int32), iv p3, iv c2] [(.int (1 : Int32)), (.int (2 : Int32))]))
  refine own_go (XS.isub X0.here hx rfl (hb hby d11_6) rfl (Steps.refl _)) ?_
  show own_Fin _ _ _ _ (s₁.setTop (mkF m 7 #[rv a1, iv (2 : Int32), iv p3, iv c2] [(.int (1 : Int32))]))
  refine own_go (XS.ifNo X0.here hx rfl (hb hby d11_7) rfl ((if0 _ _).trans (flt (by decide : ¬ ((1 : Int32) < (0 : Int32)))).1) (Steps.refl _)) ?_
  show own_Fin _ _ _ _ (s₁.setTop (mkF m 10 #[rv a1, iv (2 : Int32), iv p3, iv c2] []))
  refine own_go (XS.aloadN X0.here hx rfl (hb hby d11_10) rfl rfl (Steps.refl _)) ?_
  show own_Fin _ _ _ _ (s₁.setTop (mkF m 11 #[rv a1, iv (2 : Int32), iv p3, iv c2] [(.ref a1)]))
  refine own_go (XS.iloadN X0.here hx rfl (hb hby d11_11) rfl (Steps.refl _)) ?_
  show own_Fin _ _ _ _ (s₁.setTop (mkF m 12 #[rv a1, iv (2 : Int32), iv p3, iv c2] [(.int (2 : Int32)), (.ref a1)]))
  refine own_go (XS.iconst X0.here hx rfl (hb hby d11_12) (Steps.refl _)) ?_
  show own_Fin _ _ _ _ (s₁.setTop (mkF m 13 #[rv a1, iv (2 : Int32), iv p3, iv c2] [(.int (1 : Int32)), (.int (2 : Int32)), (.ref a1)]))
  refine own_go (XS.isub X0.here hx rfl (hb hby d11_13) rfl (Steps.refl _)) ?_
  show own_Fin _ _ _ _ (s₁.setTop (mkF m 14 #[rv a1, iv (2 : Int32), iv p3, iv c2] [(.int (1 : Int32)), (.ref a1)]))
  obtain ⟨cl303, Ar303, qa303, Sa303, Na303, Ha303, Ga303⟩ := id V_a1
  have hin303 : ¬ ((1 : Int32) < 0 ∨ cl303.slots.size ≤ ((1 : Int32)).toNatClampNeg) := inb_of Sa303 ⟨by decide, by decide⟩
  have hat303 : cl303.slots[((1 : Int32)).toNatClampNeg]? = some (.int c1) := Has.at Ha303 hin303 rfl
  refine own_by (X0.iaload hx (j := (1 : Int32)) (v := (.int c1)) (by rw [e0]; exact Ar303.1) (State.isArrayOf_alike hZ.alike Ar303.2.1) Ar303.2.2 hin303 hat303 (g := (mkF m 14 #[rv a1, iv (2 : Int32), iv p3, iv c2] [(.int (1 : Int32)), (.ref a1)])) rfl rfl (hb hby d11_14)) ?_
  show own_Fin _ _ _ _ (s₁.setTop (mkF m 15 #[rv a1, iv (2 : Int32), iv p3, iv c2] [(.int c1)]))
  refine own_go (XS.iloadN X0.here hx rfl (hb hby d11_15) rfl (Steps.refl _)) ?_
  show own_Fin _ _ _ _ (s₁.setTop (mkF m 16 #[rv a1, iv (2 : Int32), iv p3, iv c2] [(.int c2), (.int c1)]))
  by_cases c16_304 : c1 = c2
  · refine own_go (XS.icmpNo X0.here hx rfl (hb hby d11_16) rfl (teq c16_304).2 (Steps.refl _)) ?_
    show own_Fin _ _ _ _ (s₁.setTop (mkF m 19 #[rv a1, iv (2 : Int32), iv p3, iv c2] []))
    refine own_go (XS.aloadN X0.here hx rfl (hb hby d11_19) rfl rfl (Steps.refl _)) ?_
    show own_Fin _ _ _ _ (s₁.setTop (mkF m 20 #[rv a1, iv (2 : Int32), iv p3, iv c2] [(.ref a1)]))
    refine own_go (XS.iloadN X0.here hx rfl (hb hby d11_20) rfl (Steps.refl _)) ?_
    show own_Fin _ _ _ _ (s₁.setTop (mkF m 21 #[rv a1, iv (2 : Int32), iv p3, iv c2] [(.int (2 : Int32)), (.ref a1)]))
    obtain ⟨cl305, Ar305, qa305, Sa305, Na305, Ha305, Ga305⟩ := id V_a1
    have hin305 : ¬ ((2 : Int32) < 0 ∨ cl305.slots.size ≤ ((2 : Int32)).toNatClampNeg) := inb_of Sa305 ⟨by decide, by decide⟩
    have hat305 : cl305.slots[((2 : Int32)).toNatClampNeg]? = some (.int c2) := Has.at Ha305 hin305 rfl
    refine own_by (X0.iaload hx (j := (2 : Int32)) (v := (.int c2)) (by rw [e0]; exact Ar305.1) (State.isArrayOf_alike hZ.alike Ar305.2.1) Ar305.2.2 hin305 hat305 (g := (mkF m 21 #[rv a1, iv (2 : Int32), iv p3, iv c2] [(.int (2 : Int32)), (.ref a1)])) rfl rfl (hb hby d11_21)) ?_
    show own_Fin _ _ _ _ (s₁.setTop (mkF m 22 #[rv a1, iv (2 : Int32), iv p3, iv c2] [(.int c2)]))
    obtain ⟨fs306, hr306, hrun306, hended306, hW306, hsame306⟩ := X0.leave (v := some (.int c2)) (fun h => by rw [Bd.returns] at h; cases h)
    refine own_done (own_retI X0 hx Bd.returns (hb hby d11_22) hr306) hrun306 hended306 ⟨_, _, rfl, ?_, ⟨_, rfl⟩, hW306, hsame306.mono (by decide) (by decide)⟩
    show Qref_2 Z a1 k c0 c1 c2 c3 c4 p3 h0 n0 _ s₁.heap _
    rw [e0]
    exact ⟨(by unfold own_rf2; first | rw [if_pos c16_304] | (unfold own_tl; rw [if_pos c16_304])), N0, rfl⟩
  · refine own_go (XS.icmpYes X0.here hx rfl (pc0 := 16) (pc' := 23) rfl (hb hby d11_16) rfl (feq c16_304).2 (by decide) (by decide) (Steps.refl _)) ?_
    show own_Fin _ _ _ _ (s₁.setTop (mkF m 23 #[rv a1, iv (2 : Int32), iv p3, iv c2] []))
    refine own_go (XS.iloadN X0.here hx rfl (hb hby d11_23) rfl (Steps.refl _)) ?_
    show own_Fin _ _ _ _ (s₁.setTop (mkF m 24 #[rv a1, iv (2 : Int32), iv p3, iv c2] [(.int (2 : Int32))]))
    refine own_go (XS.iconst X0.here hx rfl (hb hby d11_24) (Steps.refl _)) ?_
    show own_Fin _ _ _ _ (s₁.setTop (mkF m 25 #[rv a1, iv (2 : Int32), iv p3, iv c2] [(.int (2 : Int32)), (.int (2 : Int32))]))
    refine own_go (XS.isub X0.here hx rfl (hb hby d11_25) rfl (Steps.refl _)) ?_
    show own_Fin _ _ _ _ (s₁.setTop (mkF m 26 #[rv a1, iv (2 : Int32), iv p3, iv c2] [(.int (0 : Int32))]))
    refine own_go (XS.ifNo X0.here hx rfl (hb hby d11_26) rfl ((if0 _ _).trans (flt (by decide : ¬ ((0 : Int32) < (0 : Int32)))).1) (Steps.refl _)) ?_
    show own_Fin _ _ _ _ (s₁.setTop (mkF m 29 #[rv a1, iv (2 : Int32), iv p3, iv c2] []))
    refine own_go (XS.aloadN X0.here hx rfl (hb hby d11_29) rfl rfl (Steps.refl _)) ?_
    show own_Fin _ _ _ _ (s₁.setTop (mkF m 30 #[rv a1, iv (2 : Int32), iv p3, iv c2] [(.ref a1)]))
    refine own_go (XS.iloadN X0.here hx rfl (hb hby d11_30) rfl (Steps.refl _)) ?_
    show own_Fin _ _ _ _ (s₁.setTop (mkF m 31 #[rv a1, iv (2 : Int32), iv p3, iv c2] [(.int (2 : Int32)), (.ref a1)]))
    refine own_go (XS.iconst X0.here hx rfl (hb hby d11_31) (Steps.refl _)) ?_
    show own_Fin _ _ _ _ (s₁.setTop (mkF m 32 #[rv a1, iv (2 : Int32), iv p3, iv c2] [(.int (2 : Int32)), (.int (2 : Int32)), (.ref a1)]))
    refine own_go (XS.isub X0.here hx rfl (hb hby d11_32) rfl (Steps.refl _)) ?_
    show own_Fin _ _ _ _ (s₁.setTop (mkF m 33 #[rv a1, iv (2 : Int32), iv p3, iv c2] [(.int (0 : Int32)), (.ref a1)]))
    obtain ⟨cl307, Ar307, qa307, Sa307, Na307, Ha307, Ga307⟩ := id V_a1
    have hin307 : ¬ ((0 : Int32) < 0 ∨ cl307.slots.size ≤ ((0 : Int32)).toNatClampNeg) := inb_of Sa307 ⟨by decide, by decide⟩
    have hat307 : cl307.slots[((0 : Int32)).toNatClampNeg]? = some (.int c0) := Has.at Ha307 hin307 rfl
    refine own_by (X0.iaload hx (j := (0 : Int32)) (v := (.int c0)) (by rw [e0]; exact Ar307.1) (State.isArrayOf_alike hZ.alike Ar307.2.1) Ar307.2.2 hin307 hat307 (g := (mkF m 33 #[rv a1, iv (2 : Int32), iv p3, iv c2] [(.int (0 : Int32)), (.ref a1)])) rfl rfl (hb hby d11_33)) ?_
    show own_Fin _ _ _ _ (s₁.setTop (mkF m 34 #[rv a1, iv (2 : Int32), iv p3, iv c2] [(.int c0)]))
    refine own_go (XS.iloadN X0.here hx rfl (hb hby d11_34) rfl (Steps.refl _)) ?_
    show own_Fin _ _ _ _ (s₁.setTop (mkF m 35 #[rv a1, iv (2 : Int32), iv p3, iv c2] [(.int c2), (.int c0)]))
    by_cases c35_308 : c0 = c2
    · refine own_go (XS.icmpNo X0.here hx rfl (hb hby d11_35) rfl (teq c35_308).2 (Steps.refl _)) ?_
      show own_Fin _ _ _ _ (s₁.setTop (mkF m 38 #[rv a1, iv (2 : Int32), iv p3, iv c2] []))
      refine own_go (XS.aloadN X0.here hx rfl (hb hby d11_38) rfl rfl (Steps.refl _)) ?_
      show own_Fin _ _ _ _ (s₁.setTop (mkF m 39 #[rv a1, iv (2 : Int32), iv p3, iv c2] [(.ref a1)]))
      refine own_go (XS.iloadN X0.here hx rfl (hb hby d11_39) rfl (Steps.refl _)) ?_
      show own_Fin _ _ _ _ (s₁.setTop (mkF m 40 #[rv a1, iv (2 : Int32), iv p3, iv c2] [(.int (2 : Int32)), (.ref a1)]))
      refine own_go (XS.iconst X0.here hx rfl (hb hby d11_40) (Steps.refl _)) ?_
      show own_Fin _ _ _ _ (s₁.setTop (mkF m 41 #[rv a1, iv (2 : Int32), iv p3, iv c2] [(.int (1 : Int32)), (.int (2 : Int32)), (.ref a1)]))
      refine own_go (XS.isub X0.here hx rfl (hb hby d11_41) rfl (Steps.refl _)) ?_
      show own_Fin _ _ _ _ (s₁.setTop (mkF m 42 #[rv a1, iv (2 : Int32), iv p3, iv c2] [(.int (1 : Int32)), (.ref a1)]))
      obtain ⟨cl309, Ar309, qa309, Sa309, Na309, Ha309, Ga309⟩ := id V_a1
      have hin309 : ¬ ((1 : Int32) < 0 ∨ cl309.slots.size ≤ ((1 : Int32)).toNatClampNeg) := inb_of Sa309 ⟨by decide, by decide⟩
      have hat309 : cl309.slots[((1 : Int32)).toNatClampNeg]? = some (.int c1) := Has.at Ha309 hin309 rfl
      refine own_by (X0.iaload hx (j := (1 : Int32)) (v := (.int c1)) (by rw [e0]; exact Ar309.1) (State.isArrayOf_alike hZ.alike Ar309.2.1) Ar309.2.2 hin309 hat309 (g := (mkF m 42 #[rv a1, iv (2 : Int32), iv p3, iv c2] [(.int (1 : Int32)), (.ref a1)])) rfl rfl (hb hby d11_42)) ?_
      show own_Fin _ _ _ _ (s₁.setTop (mkF m 43 #[rv a1, iv (2 : Int32), iv p3, iv c2] [(.int c1)]))
      obtain ⟨fs310, hr310, hrun310, hended310, hW310, hsame310⟩ := X0.leave (v := some (.int c1)) (fun h => by rw [Bd.returns] at h; cases h)
      refine own_done (own_retI X0 hx Bd.returns (hb hby d11_43) hr310) hrun310 hended310 ⟨_, _, rfl, ?_, ⟨_, rfl⟩, hW310, hsame310.mono (by decide) (by decide)⟩
      show Qref_2 Z a1 k c0 c1 c2 c3 c4 p3 h0 n0 _ s₁.heap _
      rw [e0]
      exact ⟨(by unfold own_rf2; first | rw [if_neg c16_304, if_pos c35_308] | (unfold own_tl; rw [if_neg c16_304, if_pos c35_308])), N0, rfl⟩
    · refine own_go (XS.icmpYes X0.here hx rfl (pc0 := 35) (pc' := 44) rfl (hb hby d11_35) rfl (feq c35_308).2 (by decide) (by decide) (Steps.refl _)) ?_
      show own_Fin _ _ _ _ (s₁.setTop (mkF m 44 #[rv a1, iv (2 : Int32), iv p3, iv c2] []))
      refine own_go (XS.iloadN X0.here hx rfl (hb hby d11_44) rfl (Steps.refl _)) ?_
      show own_Fin _ _ _ _ (s₁.setTop (mkF m 45 #[rv a1, iv (2 : Int32), iv p3, iv c2] [(.int (2 : Int32))]))
      refine own_go (XS.iconst X0.here hx rfl (hb hby d11_45) (Steps.refl _)) ?_
      show own_Fin _ _ _ _ (s₁.setTop (mkF m 46 #[rv a1, iv (2 : Int32), iv p3, iv c2] [(.int (3 : Int32)), (.int (2 : Int32))]))
      refine own_go (XS.isub X0.here hx rfl (hb hby d11_46) rfl (Steps.refl _)) ?_
      show own_Fin _ _ _ _ (s₁.setTop (mkF m 47 #[rv a1, iv (2 : Int32), iv p3, iv c2] [(.int (-1 : Int32))]))
      refine own_go (XS.ifYes X0.here hx rfl (pc0 := 47) (pc' := 65) rfl (hb hby d11_47) rfl ((if0 _ _).trans (tlt (by decide : (-1 : Int32) < (0 : Int32))).1) (by decide) (by decide) (Steps.refl _)) ?_
      show own_Fin _ _ _ _ (s₁.setTop (mkF m 65 #[rv a1, iv (2 : Int32), iv p3, iv c2] []))
      refine own_go (XS.iloadN X0.here hx rfl (hb hby d11_65) rfl (Steps.refl _)) ?_
      show own_Fin _ _ _ _ (s₁.setTop (mkF m 66 #[rv a1, iv (2 : Int32), iv p3, iv c2] [(.int (2 : Int32))]))
      refine own_go (XS.iconst X0.here hx rfl (hb hby d11_66) (Steps.refl _)) ?_
      show own_Fin _ _ _ _ (s₁.setTop (mkF m 67 #[rv a1, iv (2 : Int32), iv p3, iv c2] [(.int (4 : Int32)), (.int (2 : Int32))]))
      refine own_go (XS.isub X0.here hx rfl (hb hby d11_67) rfl (Steps.refl _)) ?_
      show own_Fin _ _ _ _ (s₁.setTop (mkF m 68 #[rv a1, iv (2 : Int32), iv p3, iv c2] [(.int (-2 : Int32))]))
      refine own_go (XS.ifYes X0.here hx rfl (pc0 := 68) (pc' := 86) rfl (hb hby d11_68) rfl ((if0 _ _).trans (tlt (by decide : (-2 : Int32) < (0 : Int32))).1) (by decide) (by decide) (Steps.refl _)) ?_
      show own_Fin _ _ _ _ (s₁.setTop (mkF m 86 #[rv a1, iv (2 : Int32), iv p3, iv c2] []))
      refine own_go (XS.iloadN X0.here hx rfl (hb hby d11_86) rfl (Steps.refl _)) ?_
      show own_Fin _ _ _ _ (s₁.setTop (mkF m 87 #[rv a1, iv (2 : Int32), iv p3, iv c2] [(.int c2)]))
      by_cases c87_311 : c2 < (0 : Int32)
      · refine own_go (XS.ifNo X0.here hx rfl (hb hby d11_87) rfl ((if0 _ _).trans (tlt c87_311).2.1) (Steps.refl _)) ?_
        show own_Fin _ _ _ _ (s₁.setTop (mkF m 90 #[rv a1, iv (2 : Int32), iv p3, iv c2] []))
        refine own_go (XS.iloadN X0.here hx rfl (hb hby d11_90) rfl (Steps.refl _)) ?_
        show own_Fin _ _ _ _ (s₁.setTop (mkF m 91 #[rv a1, iv (2 : Int32), iv p3, iv c2] [(.int p3)]))
        by_cases c91_312 : (0 : Int32) < p3
        · refine own_go (XS.ifNo X0.here hx rfl (hb hby d11_91) rfl ((if0 _ _).trans (tlt c91_312).2.2.2) (Steps.refl _)) ?_
          show own_Fin _ _ _ _ (s₁.setTop (mkF m 94 #[rv a1, iv (2 : Int32), iv p3, iv c2] []))
          refine own_go (XS.iconst X0.here hx rfl (hb hby d11_94) (Steps.refl _)) ?_
          show own_Fin _ _ _ _ (s₁.setTop (mkF m 95 #[rv a1, iv (2 : Int32), iv p3, iv c2] [(.int (0 : Int32))]))
          refine own_go (XS.goto X0.here hx rfl (pc0 := 95) (pc' := 103) rfl (hb hby d11_95) (by decide) (by decide) (Steps.refl _)) ?_
          show own_Fin _ _ _ _ (s₁.setTop (mkF m 103 #[rv a1, iv (2 : Int32), iv p3, iv c2] [(.int (0 : Int32))]))
          obtain ⟨fs313, hr313, hrun313, hended313, hW313, hsame313⟩ := X0.leave (v := some (.int (0 : Int32))) (fun h => by rw [Bd.returns] at h; cases h)
          refine own_done (own_retI X0 hx Bd.returns (hb hby d11_103) hr313) hrun313 hended313 ⟨_, _, rfl, ?_, ⟨_, rfl⟩, hW313, hsame313.mono (by decide) (by decide)⟩
          show Qref_2 Z a1 k c0 c1 c2 c3 c4 p3 h0 n0 _ s₁.heap _
          rw [e0]
          exact ⟨(by unfold own_rf2; first | rw [if_neg c16_304, if_neg c35_308, if_pos c87_311, if_pos c91_312] | (unfold own_tl; rw [if_neg c16_304, if_neg c35_308, if_pos c87_311, if_pos c91_312])), N0, rfl⟩
        · refine own_go (XS.ifYes X0.here hx rfl (pc0 := 91) (pc' := 98) rfl (hb hby d11_91) rfl ((if0 _ _).trans (flt c91_312).2.2.2) (by decide) (by decide) (Steps.refl _)) ?_
          show own_Fin _ _ _ _ (s₁.setTop (mkF m 98 #[rv a1, iv (2 : Int32), iv p3, iv c2] []))
          refine own_go (XS.iconst X0.here hx rfl (hb hby d11_98) (Steps.refl _)) ?_
          show own_Fin _ _ _ _ (s₁.setTop (mkF m 99 #[rv a1, iv (2 : Int32), iv p3, iv c2] [(.int (-1 : Int32))]))
          refine own_go (XS.goto X0.here hx rfl (pc0 := 99) (pc' := 103) rfl (hb hby d11_99) (by decide) (by decide) (Steps.refl _)) ?_
          show own_Fin _ _ _ _ (s₁.setTop (mkF m 103 #[rv a1, iv (2 : Int32), iv p3, iv c2] [(.int (-1 : Int32))]))
          obtain ⟨fs314, hr314, hrun314, hended314, hW314, hsame314⟩ := X0.leave (v := some (.int (-1 : Int32))) (fun h => by rw [Bd.returns] at h; cases h)
          refine own_done (own_retI X0 hx Bd.returns (hb hby d11_103) hr314) hrun314 hended314 ⟨_, _, rfl, ?_, ⟨_, rfl⟩, hW314, hsame314.mono (by decide) (by decide)⟩
          show Qref_2 Z a1 k c0 c1 c2 c3 c4 p3 h0 n0 _ s₁.heap _
          rw [e0]
          exact ⟨(by unfold own_rf2; first | rw [if_neg c16_304, if_neg c35_308, if_pos c87_311, if_neg c91_312] | (unfold own_tl; rw [if_neg c16_304, if_neg c35_308, if_pos c87_311, if_neg c91_312])), N0, rfl⟩
      · refine own_go (XS.ifYes X0.here hx rfl (pc0 := 87) (pc' := 102) rfl (hb hby d11_87) rfl ((if0 _ _).trans (flt c87_311).2.1) (by decide) (by decide) (Steps.refl _)) ?_
        show own_Fin _ _ _ _ (s₁.setTop (mkF m 102 #[rv a1, iv (2 : Int32), iv p3, iv c2] []))
        refine own_go (XS.iconst X0.here hx rfl (hb hby d11_102) (Steps.refl _)) ?_
        show own_Fin _ _ _ _ (s₁.setTop (mkF m 103 #[rv a1, iv (2 : Int32), iv p3, iv c2] [(.int (-1 : Int32))]))
        obtain ⟨fs315, hr315, hrun315, hended315, hW315, hsame315⟩ := X0.leave (v := some (.int (-1 : Int32))) (fun h => by rw [Bd.returns] at h; cases h)
        refine own_done (own_retI X0 hx Bd.returns (hb hby d11_103) hr315) hrun315 hended315 ⟨_, _, rfl, ?_, ⟨_, rfl⟩, hW315, hsame315.mono (by decide) (by decide)⟩
        show Qref_2 Z a1 k c0 c1 c2 c3 c4 p3 h0 n0 _ s₁.heap _
        rw [e0]
        exact ⟨(by unfold own_rf2; first | rw [if_neg c16_304, if_neg c35_308, if_neg c87_311] | (unfold own_tl; rw [if_neg c16_304, if_neg c35_308, if_neg c87_311])), N0, rfl⟩
theorem ef_ref_3 (m : MethodId) (x0 : Addr) (x1 : Int32) (x2 : Int32) : entryFrame m #[(.ref x0), (.int x1), (.int x2)] 4 = mkF m 0 #[.val (.ref x0), .val (.int x1), .val (.int x2), .unset] [] := by first | (simp [entryFrame, mkF, argsToLocals, Value.category]; done) | rfl
def Qref_3 (Z : State) (a1 : Addr) (k : ClassId) (c0 : Int32) (c1 : Int32) (c2 : Int32) (c3 : Int32) (c4 : Int32) (p3 : Int32) (h0 : Heap) (n0 : Nat) (v : Option Value) (h : Heap) (L : List Loc) : Prop := v = some (.int (own_rf3 c0 c1 c2 c3 p3)) ∧ Fr n0 L ∧ h = h0
abbrev Gref_3 (Z : State) (a1 : Addr) (k : ClassId) (c0 : Int32) (c1 : Int32) (c2 : Int32) (c3 : Int32) (c4 : Int32) (p3 : Int32) (h0 : Heap) (n0 : Nat) (s : State) : Outcome → State → Prop := fun o U' => ∃ v L, o = .returned v ∧ Qref_3 Z a1 k c0 c1 c2 c3 c4 p3 h0 n0 v U'.heap L ∧ FrameEnd s o U' L ({ frames := 0, cells := 0, slots := 0, locals := 0 } : Room).cells ({ frames := 0, cells := 0, slots := 0, locals := 0 } : Room).slots
set_option maxRecDepth 65536 in
set_option maxHeartbeats 40000000 in
theorem rmref_3 (l : Launch) (Z : State) (a0 : Array Value) (hw : ∀ d ∈ tables_1, d.before a0 Z = true) (ws : List Jvm.Cond) (a1 : Addr) (k : ClassId) (c0 : Int32) (c1 : Int32) (c2 : Int32) (c3 : Int32) (c4 : Int32) (p3 : Int32) (h0 : Heap) (n0 : Nat) (Z0 : n0 ≤ h0.size) (V_a1 : Arv Z h0 a1 k .int (5 : Int32) [(.int c0), (.int c1), (.int c2), (.int c3), (.int c4)] (.int (0 : Int32))) :
    MetFree l (⟨"com/example/gridtally/gridtally/casefile/IdSequenceNamedPinLaw", "ref", "([III)I"⟩ : MethodName) (head1 (Jvm.Cond.code (⟨"com/example/gridtally/gridtally/casefile/IdSequenceNamedPinLaw", "ref", "([III)I"⟩ : MethodName) method_3_code 4 (some .int) :: ws) ({ frames := 0, cells := 0, slots := 0, locals := 0 } : Room)) (fun a U => a = #[(.ref a1), (.int (3 : Int32)), (.int p3)] ∧ Z.Warmed39 U.vm ∧ U.heap = h0) (fun _ _ _ _ _ => True) (fun _ U o U' => ∃ v L, o = .returned v ∧ Qref_3 Z a1 k c0 c1 c2 c3 c4 p3 h0 n0 v U'.heap L ∧ FrameEnd U o U' L ({ frames := 0, cells := 0, slots := 0, locals := 0 } : Room).cells ({ frames := 0, cells := 0, slots := 0, locals := 0 } : Room).slots) := by
  refine MetFree.of_bodySF (plainFor_of_name pn_com_example_gridtally_gridtally_casefile_IdSequenceNamedPinLaw) hisR ?_
  intro p e s m args below meth c s₁ Bd hml0 hP hK
  obtain ⟨rfl, hZ, hh⟩ := hP
  have hx := Bd.exec
  have hby := Bd.bytes
  have hml : c.maxLocals = 4 := hml0
  have hown : s.vm.findClass "com/example/gridtally/gridtally/casefile/IdSequenceNamedPinLaw" = some m.cls := findClass_of_methodNamed Bd.named
  have hnm := (name_of_methodNamed Bd.named Bd.method).1
  have X0 : Stand p l e ({ frames := 0, cells := 0, slots := 0, locals := 0 } : Room) s m #[(.ref a1), (.int (3 : Int32)), (.int p3)] below meth c s₁ [] 0 0 := Stand.of_body Bd
  have e0 : s₁.heap = h0 := by rw [← hh, Bd.state]; rfl
  have es0 : s.heap = h0 := hh
  have N0 := Fr.nil n0
  show own_Fin p e below (Gref_3 Z a1 k c0 c1 c2 c3 c4 p3 h0 n0 s) (s₁.setTop (entryFrame m #[(.ref a1), (.int (3 : Int32)), (.int p3)] 4))
  rw [ef_ref_3 m a1 (3 : Int32) p3]
  refine own_go (XS.aloadN X0.here hx rfl (hb hby d11_0) rfl rfl (Steps.refl _)) ?_
  show own_Fin _ _ _ _ (s₁.setTop (mkF m 1 #[rv a1, iv (3 : Int32), iv p3, .unset] [(.ref a1)]))
  refine own_go (XS.iloadN X0.here hx rfl (hb hby d11_1) rfl (Steps.refl _)) ?_
  show own_Fin _ _ _ _ (s₁.setTop (mkF m 2 #[rv a1, iv (3 : Int32), iv p3, .unset] [(.int (3 : Int32)), (.ref a1)]))
  obtain ⟨cl316, Ar316, qa316, Sa316, Na316, Ha316, Ga316⟩ := id V_a1
  have hin316 : ¬ ((3 : Int32) < 0 ∨ cl316.slots.size ≤ ((3 : Int32)).toNatClampNeg) := inb_of Sa316 ⟨by decide, by decide⟩
  have hat316 : cl316.slots[((3 : Int32)).toNatClampNeg]? = some (.int c3) := Has.at Ha316 hin316 rfl
  refine own_by (X0.iaload hx (j := (3 : Int32)) (v := (.int c3)) (by rw [e0]; exact Ar316.1) (State.isArrayOf_alike hZ.alike Ar316.2.1) Ar316.2.2 hin316 hat316 (g := (mkF m 2 #[rv a1, iv (3 : Int32), iv p3, .unset] [(.int (3 : Int32)), (.ref a1)])) rfl rfl (hb hby d11_2)) ?_
  show own_Fin _ _ _ _ (s₁.setTop (mkF m 3 #[rv a1, iv (3 : Int32), iv p3, .unset] [(.int c3)]))
  refine own_go (XS.istoreN X0.here hx rfl (hb hby d11_3) rfl rfl (Steps.refl _)) ?_
  show own_Fin _ _ _ _ (s₁.setTop (mkF m 4 #[rv a1, iv (3 : Int32), iv p3, iv c3] []))
  refine own_go (XS.iloadN X0.here hx rfl (hb hby d11_4) rfl (Steps.refl _)) ?_
  show own_Fin _ _ _ _ (s₁.setTop (mkF m 5 #[rv a1, iv (3 : Int32), iv p3, iv c3] [(.int (3 : Int32))]))
  refine own_go (XS.iconst X0.here hx rfl (hb hby d11_5) (Steps.refl _)) ?_
  show own_Fin _ _ _ _ (s₁.setTop (mkF m 6 #[rv a1, iv (3 : Int32), iv p3, iv c3] [(.int (1 : Int32)), (.int (3 : Int32))]))
  refine own_go (XS.isub X0.here hx rfl (hb hby d11_6) rfl (Steps.refl _)) ?_
  show own_Fin _ _ _ _ (s₁.setTop (mkF m 7 #[rv a1, iv (3 : Int32), iv p3, iv c3] [(.int (2 : Int32))]))
  refine own_go (XS.ifNo X0.here hx rfl (hb hby d11_7) rfl ((if0 _ _).trans (flt (by decide : ¬ ((2 : Int32) < (0 : Int32)))).1) (Steps.refl _)) ?_
  show own_Fin _ _ _ _ (s₁.setTop (mkF m 10 #[rv a1, iv (3 : Int32), iv p3, iv c3] []))
  refine own_go (XS.aloadN X0.here hx rfl (hb hby d11_10) rfl rfl (Steps.refl _)) ?_
  show own_Fin _ _ _ _ (s₁.setTop (mkF m 11 #[rv a1, iv (3 : Int32), iv p3, iv c3] [(.ref a1)]))
  refine own_go (XS.iloadN X0.here hx rfl (hb hby d11_11) rfl (Steps.refl _)) ?_
  show own_Fin _ _ _ _ (s₁.setTop (mkF m 12 #[rv a1, iv (3 : Int32), iv p3, iv c3] [(.int (3 : Int32)), (.ref a1)]))
  refine own_go (XS.iconst X0.here hx rfl (hb hby d11_12) (Steps.refl _)) ?_
  show own_Fin _ _ _ _ (s₁.setTop (mkF m 13 #[rv a1, iv (3 : Int32), iv p3, iv c3] [(.int (1 : Int32)), (.int (3 : Int32)), (.ref a1)]))
  refine own_go (XS.isub X0.here hx rfl (hb hby d11_13) rfl (Steps.refl _)) ?_
  show own_Fin _ _ _ _ (s₁.setTop (mkF m 14 #[rv a1, iv (3 : Int32), iv p3, iv c3] [(.int (2 : Int32)), (.ref a1)]))
  obtain ⟨cl317, Ar317, qa317, Sa317, Na317, Ha317, Ga317⟩ := id V_a1
  have hin317 : ¬ ((2 : Int32) < 0 ∨ cl317.slots.size ≤ ((2 : Int32)).toNatClampNeg) := inb_of Sa317 ⟨by decide, by decide⟩
  have hat317 : cl317.slots[((2 : Int32)).toNatClampNeg]? = some (.int c2) := Has.at Ha317 hin317 rfl
  refine own_by (X0.iaload hx (j := (2 : Int32)) (v := (.int c2)) (by rw [e0]; exact Ar317.1) (State.isArrayOf_alike hZ.alike Ar317.2.1) Ar317.2.2 hin317 hat317 (g := (mkF m 14 #[rv a1, iv (3 : Int32), iv p3, iv c3] [(.int (2 : Int32)), (.ref a1)])) rfl rfl (hb hby d11_14)) ?_
  show own_Fin _ _ _ _ (s₁.setTop (mkF m 15 #[rv a1, iv (3 : Int32), iv p3, iv c3] [(.int c2)]))
  refine own_go (XS.iloadN X0.here hx rfl (hb hby d11_15) rfl (Steps.refl _)) ?_
  show own_Fin _ _ _ _ (s₁.setTop (mkF m 16 #[rv a1, iv (3 : Int32), iv p3, iv c3] [(.int c3), (.int c2)]))
  by_cases c16_318 : c2 = c3
  · refine own_go (XS.icmpNo X0.here hx rfl (hb hby d11_16) rfl (teq c16_318).2 (Steps.refl _)) ?_
    show own_Fin _ _ _ _ (s₁.setTop (mkF m 19 #[rv a1, iv (3 : Int32), iv p3, iv c3] []))
    refine own_go (XS.aloadN X0.here hx rfl (hb hby d11_19) rfl rfl (Steps.refl _)) ?_
    show own_Fin _ _ _ _ (s₁.setTop (mkF m 20 #[rv a1, iv (3 : Int32), iv p3, iv c3] [(.ref a1)]))
    refine own_go (XS.iloadN X0.here hx rfl (hb hby d11_20) rfl (Steps.refl _)) ?_
    show own_Fin _ _ _ _ (s₁.setTop (mkF m 21 #[rv a1, iv (3 : Int32), iv p3, iv c3] [(.int (3 : Int32)), (.ref a1)]))
    obtain ⟨cl319, Ar319, qa319, Sa319, Na319, Ha319, Ga319⟩ := id V_a1
    have hin319 : ¬ ((3 : Int32) < 0 ∨ cl319.slots.size ≤ ((3 : Int32)).toNatClampNeg) := inb_of Sa319 ⟨by decide, by decide⟩
    have hat319 : cl319.slots[((3 : Int32)).toNatClampNeg]? = some (.int c3) := Has.at Ha319 hin319 rfl
    refine own_by (X0.iaload hx (j := (3 : Int32)) (v := (.int c3)) (by rw [e0]; exact Ar319.1) (State.isArrayOf_alike hZ.alike Ar319.2.1) Ar319.2.2 hin319 hat319 (g := (mkF m 21 #[rv a1, iv (3 : Int32), iv p3, iv c3] [(.int (3 : Int32)), (.ref a1)])) rfl rfl (hb hby d11_21)) ?_
    show own_Fin _ _ _ _ (s₁.setTop (mkF m 22 #[rv a1, iv (3 : Int32), iv p3, iv c3] [(.int c3)]))
    obtain ⟨fs320, hr320, hrun320, hended320, hW320, hsame320⟩ := X0.leave (v := some (.int c3)) (fun h => by rw [Bd.returns] at h; cases h)
    refine own_done (own_retI X0 hx Bd.returns (hb hby d11_22) hr320) hrun320 hended320 ⟨_, _, rfl, ?_, ⟨_, rfl⟩, hW320, hsame320.mono (by decide) (by decide)⟩
    show Qref_3 Z a1 k c0 c1 c2 c3 c4 p3 h0 n0 _ s₁.heap _
    rw [e0]
    exact ⟨(by unfold own_rf3; first | rw [if_pos c16_318] | (unfold own_tl; rw [if_pos c16_318])), N0, rfl⟩
  · refine own_go (XS.icmpYes X0.here hx rfl (pc0 := 16) (pc' := 23) rfl (hb hby d11_16) rfl (feq c16_318).2 (by decide) (by decide) (Steps.refl _)) ?_
    show own_Fin _ _ _ _ (s₁.setTop (mkF m 23 #[rv a1, iv (3 : Int32), iv p3, iv c3] []))
    refine own_go (XS.iloadN X0.here hx rfl (hb hby d11_23) rfl (Steps.refl _)) ?_
    show own_Fin _ _ _ _ (s₁.setTop (mkF m 24 #[rv a1, iv (3 : Int32), iv p3, iv c3] [(.int (3 : Int32))]))
    refine own_go (XS.iconst X0.here hx rfl (hb hby d11_24) (Steps.refl _)) ?_
    show own_Fin _ _ _ _ (s₁.setTop (mkF m 25 #[rv a1, iv (3 : Int32), iv p3, iv c3] [(.int (2 : Int32)), (.int (3 : Int32))]))
    refine own_go (XS.isub X0.here hx rfl (hb hby d11_25) rfl (Steps.refl _)) ?_
    show own_Fin _ _ _ _ (s₁.setTop (mkF m 26 #[rv a1, iv (3 : Int32), iv p3, iv c3] [(.int (1 : Int32))]))
    refine own_go (XS.ifNo X0.here hx rfl (hb hby d11_26) rfl ((if0 _ _).trans (flt (by decide : ¬ ((1 : Int32) < (0 : Int32)))).1) (Steps.refl _)) ?_
    show own_Fin _ _ _ _ (s₁.setTop (mkF m 29 #[rv a1, iv (3 : Int32), iv p3, iv c3] []))
    refine own_go (XS.aloadN X0.here hx rfl (hb hby d11_29) rfl rfl (Steps.refl _)) ?_
    show own_Fin _ _ _ _ (s₁.setTop (mkF m 30 #[rv a1, iv (3 : Int32), iv p3, iv c3] [(.ref a1)]))
    refine own_go (XS.iloadN X0.here hx rfl (hb hby d11_30) rfl (Steps.refl _)) ?_
    show own_Fin _ _ _ _ (s₁.setTop (mkF m 31 #[rv a1, iv (3 : Int32), iv p3, iv c3] [(.int (3 : Int32)), (.ref a1)]))
    refine own_go (XS.iconst X0.here hx rfl (hb hby d11_31) (Steps.refl _)) ?_
    show own_Fin _ _ _ _ (s₁.setTop (mkF m 32 #[rv a1, iv (3 : Int32), iv p3, iv c3] [(.int (2 : Int32)), (.int (3 : Int32)), (.ref a1)]))
    refine own_go (XS.isub X0.here hx rfl (hb hby d11_32) rfl (Steps.refl _)) ?_
    show own_Fin _ _ _ _ (s₁.setTop (mkF m 33 #[rv a1, iv (3 : Int32), iv p3, iv c3] [(.int (1 : Int32)), (.ref a1)]))
    obtain ⟨cl321, Ar321, qa321, Sa321, Na321, Ha321, Ga321⟩ := id V_a1
    have hin321 : ¬ ((1 : Int32) < 0 ∨ cl321.slots.size ≤ ((1 : Int32)).toNatClampNeg) := inb_of Sa321 ⟨by decide, by decide⟩
    have hat321 : cl321.slots[((1 : Int32)).toNatClampNeg]? = some (.int c1) := Has.at Ha321 hin321 rfl
    refine own_by (X0.iaload hx (j := (1 : Int32)) (v := (.int c1)) (by rw [e0]; exact Ar321.1) (State.isArrayOf_alike hZ.alike Ar321.2.1) Ar321.2.2 hin321 hat321 (g := (mkF m 33 #[rv a1, iv (3 : Int32), iv p3, iv c3] [(.int (1 : Int32)), (.ref a1)])) rfl rfl (hb hby d11_33)) ?_
    show own_Fin _ _ _ _ (s₁.setTop (mkF m 34 #[rv a1, iv (3 : Int32), iv p3, iv c3] [(.int c1)]))
    refine own_go (XS.iloadN X0.here hx rfl (hb hby d11_34) rfl (Steps.refl _)) ?_
    show own_Fin _ _ _ _ (s₁.setTop (mkF m 35 #[rv a1, iv (3 : Int32), iv p3, iv c3] [(.int c3), (.int c1)]))
    by_cases c35_322 : c1 = c3
    · refine own_go (XS.icmpNo X0.here hx rfl (hb hby d11_35) rfl (teq c35_322).2 (Steps.refl _)) ?_
      show own_Fin _ _ _ _ (s₁.setTop (mkF m 38 #[rv a1, iv (3 : Int32), iv p3, iv c3] []))
      refine own_go (XS.aloadN X0.here hx rfl (hb hby d11_38) rfl rfl (Steps.refl _)) ?_
      show own_Fin _ _ _ _ (s₁.setTop (mkF m 39 #[rv a1, iv (3 : Int32), iv p3, iv c3] [(.ref a1)]))
      refine own_go (XS.iloadN X0.here hx rfl (hb hby d11_39) rfl (Steps.refl _)) ?_
      show own_Fin _ _ _ _ (s₁.setTop (mkF m 40 #[rv a1, iv (3 : Int32), iv p3, iv c3] [(.int (3 : Int32)), (.ref a1)]))
      refine own_go (XS.iconst X0.here hx rfl (hb hby d11_40) (Steps.refl _)) ?_
      show own_Fin _ _ _ _ (s₁.setTop (mkF m 41 #[rv a1, iv (3 : Int32), iv p3, iv c3] [(.int (1 : Int32)), (.int (3 : Int32)), (.ref a1)]))
      refine own_go (XS.isub X0.here hx rfl (hb hby d11_41) rfl (Steps.refl _)) ?_
      show own_Fin _ _ _ _ (s₁.setTop (mkF m 42 #[rv a1, iv (3 : Int32), iv p3, iv c3] [(.int (2 : Int32)), (.ref a1)]))
      obtain ⟨cl323, Ar323, qa323, Sa323, Na323, Ha323, Ga323⟩ := id V_a1
      have hin323 : ¬ ((2 : Int32) < 0 ∨ cl323.slots.size ≤ ((2 : Int32)).toNatClampNeg) := inb_of Sa323 ⟨by decide, by decide⟩
      have hat323 : cl323.slots[((2 : Int32)).toNatClampNeg]? = some (.int c2) := Has.at Ha323 hin323 rfl
      refine own_by (X0.iaload hx (j := (2 : Int32)) (v := (.int c2)) (by rw [e0]; exact Ar323.1) (State.isArrayOf_alike hZ.alike Ar323.2.1) Ar323.2.2 hin323 hat323 (g := (mkF m 42 #[rv a1, iv (3 : Int32), iv p3, iv c3] [(.int (2 : Int32)), (.ref a1)])) rfl rfl (hb hby d11_42)) ?_
      show own_Fin _ _ _ _ (s₁.setTop (mkF m 43 #[rv a1, iv (3 : Int32), iv p3, iv c3] [(.int c2)]))
      obtain ⟨fs324, hr324, hrun324, hended324, hW324, hsame324⟩ := X0.leave (v := some (.int c2)) (fun h => by rw [Bd.returns] at h; cases h)
      refine own_done (own_retI X0 hx Bd.returns (hb hby d11_43) hr324) hrun324 hended324 ⟨_, _, rfl, ?_, ⟨_, rfl⟩, hW324, hsame324.mono (by decide) (by decide)⟩
      show Qref_3 Z a1 k c0 c1 c2 c3 c4 p3 h0 n0 _ s₁.heap _
      rw [e0]
      exact ⟨(by unfold own_rf3; first | rw [if_neg c16_318, if_pos c35_322] | (unfold own_tl; rw [if_neg c16_318, if_pos c35_322])), N0, rfl⟩
    · refine own_go (XS.icmpYes X0.here hx rfl (pc0 := 35) (pc' := 44) rfl (hb hby d11_35) rfl (feq c35_322).2 (by decide) (by decide) (Steps.refl _)) ?_
      show own_Fin _ _ _ _ (s₁.setTop (mkF m 44 #[rv a1, iv (3 : Int32), iv p3, iv c3] []))
      refine own_go (XS.iloadN X0.here hx rfl (hb hby d11_44) rfl (Steps.refl _)) ?_
      show own_Fin _ _ _ _ (s₁.setTop (mkF m 45 #[rv a1, iv (3 : Int32), iv p3, iv c3] [(.int (3 : Int32))]))
      refine own_go (XS.iconst X0.here hx rfl (hb hby d11_45) (Steps.refl _)) ?_
      show own_Fin _ _ _ _ (s₁.setTop (mkF m 46 #[rv a1, iv (3 : Int32), iv p3, iv c3] [(.int (3 : Int32)), (.int (3 : Int32))]))
      refine own_go (XS.isub X0.here hx rfl (hb hby d11_46) rfl (Steps.refl _)) ?_
      show own_Fin _ _ _ _ (s₁.setTop (mkF m 47 #[rv a1, iv (3 : Int32), iv p3, iv c3] [(.int (0 : Int32))]))
      refine own_go (XS.ifNo X0.here hx rfl (hb hby d11_47) rfl ((if0 _ _).trans (flt (by decide : ¬ ((0 : Int32) < (0 : Int32)))).1) (Steps.refl _)) ?_
      show own_Fin _ _ _ _ (s₁.setTop (mkF m 50 #[rv a1, iv (3 : Int32), iv p3, iv c3] []))
      refine own_go (XS.aloadN X0.here hx rfl (hb hby d11_50) rfl rfl (Steps.refl _)) ?_
      show own_Fin _ _ _ _ (s₁.setTop (mkF m 51 #[rv a1, iv (3 : Int32), iv p3, iv c3] [(.ref a1)]))
      refine own_go (XS.iloadN X0.here hx rfl (hb hby d11_51) rfl (Steps.refl _)) ?_
      show own_Fin _ _ _ _ (s₁.setTop (mkF m 52 #[rv a1, iv (3 : Int32), iv p3, iv c3] [(.int (3 : Int32)), (.ref a1)]))
      refine own_go (XS.iconst X0.here hx rfl (hb hby d11_52) (Steps.refl _)) ?_
      show own_Fin _ _ _ _ (s₁.setTop (mkF m 53 #[rv a1, iv (3 : Int32), iv p3, iv c3] [(.int (3 : Int32)), (.int (3 : Int32)), (.ref a1)]))
      refine own_go (XS.isub X0.here hx rfl (hb hby d11_53) rfl (Steps.refl _)) ?_
      show own_Fin _ _ _ _ (s₁.setTop (mkF m 54 #[rv a1, iv (3 : Int32), iv p3, iv c3] [(.int (0 : Int32)), (.ref a1)]))
      obtain ⟨cl325, Ar325, qa325, Sa325, Na325, Ha325, Ga325⟩ := id V_a1
      have hin325 : ¬ ((0 : Int32) < 0 ∨ cl325.slots.size ≤ ((0 : Int32)).toNatClampNeg) := inb_of Sa325 ⟨by decide, by decide⟩
      have hat325 : cl325.slots[((0 : Int32)).toNatClampNeg]? = some (.int c0) := Has.at Ha325 hin325 rfl
      refine own_by (X0.iaload hx (j := (0 : Int32)) (v := (.int c0)) (by rw [e0]; exact Ar325.1) (State.isArrayOf_alike hZ.alike Ar325.2.1) Ar325.2.2 hin325 hat325 (g := (mkF m 54 #[rv a1, iv (3 : Int32), iv p3, iv c3] [(.int (0 : Int32)), (.ref a1)])) rfl rfl (hb hby d11_54)) ?_
      show own_Fin _ _ _ _ (s₁.setTop (mkF m 55 #[rv a1, iv (3 : Int32), iv p3, iv c3] [(.int c0)]))
      refine own_go (XS.iloadN X0.here hx rfl (hb hby d11_55) rfl (Steps.refl _)) ?_
      show own_Fin _ _ _ _ (s₁.setTop (mkF m 56 #[rv a1, iv (3 : Int32), iv p3, iv c3] [(.int c3), (.int c0)]))
      by_cases c56_326 : c0 = c3
      · refine own_go (XS.icmpNo X0.here hx rfl (hb hby d11_56) rfl (teq c56_326).2 (Steps.refl _)) ?_
        show own_Fin _ _ _ _ (s₁.setTop (mkF m 59 #[rv a1, iv (3 : Int32), iv p3, iv c3] []))
        refine own_go (XS.aloadN X0.here hx rfl (hb hby d11_59) rfl rfl (Steps.refl _)) ?_
        show own_Fin _ _ _ _ (s₁.setTop (mkF m 60 #[rv a1, iv (3 : Int32), iv p3, iv c3] [(.ref a1)]))
        refine own_go (XS.iloadN X0.here hx rfl (hb hby d11_60) rfl (Steps.refl _)) ?_
        show own_Fin _ _ _ _ (s₁.setTop (mkF m 61 #[rv a1, iv (3 : Int32), iv p3, iv c3] [(.int (3 : Int32)), (.ref a1)]))
        refine own_go (XS.iconst X0.here hx rfl (hb hby d11_61) (Steps.refl _)) ?_
        show own_Fin _ _ _ _ (s₁.setTop (mkF m 62 #[rv a1, iv (3 : Int32), iv p3, iv c3] [(.int (2 : Int32)), (.int (3 : Int32)), (.ref a1)]))
        refine own_go (XS.isub X0.here hx rfl (hb hby d11_62) rfl (Steps.refl _)) ?_
        show own_Fin _ _ _ _ (s₁.setTop (mkF m 63 #[rv a1, iv (3 : Int32), iv p3, iv c3] [(.int (1 : Int32)), (.ref a1)]))
        obtain ⟨cl327, Ar327, qa327, Sa327, Na327, Ha327, Ga327⟩ := id V_a1
        have hin327 : ¬ ((1 : Int32) < 0 ∨ cl327.slots.size ≤ ((1 : Int32)).toNatClampNeg) := inb_of Sa327 ⟨by decide, by decide⟩
        have hat327 : cl327.slots[((1 : Int32)).toNatClampNeg]? = some (.int c1) := Has.at Ha327 hin327 rfl
        refine own_by (X0.iaload hx (j := (1 : Int32)) (v := (.int c1)) (by rw [e0]; exact Ar327.1) (State.isArrayOf_alike hZ.alike Ar327.2.1) Ar327.2.2 hin327 hat327 (g := (mkF m 63 #[rv a1, iv (3 : Int32), iv p3, iv c3] [(.int (1 : Int32)), (.ref a1)])) rfl rfl (hb hby d11_63)) ?_
        show own_Fin _ _ _ _ (s₁.setTop (mkF m 64 #[rv a1, iv (3 : Int32), iv p3, iv c3] [(.int c1)]))
        obtain ⟨fs328, hr328, hrun328, hended328, hW328, hsame328⟩ := X0.leave (v := some (.int c1)) (fun h => by rw [Bd.returns] at h; cases h)
        refine own_done (own_retI X0 hx Bd.returns (hb hby d11_64) hr328) hrun328 hended328 ⟨_, _, rfl, ?_, ⟨_, rfl⟩, hW328, hsame328.mono (by decide) (by decide)⟩
        show Qref_3 Z a1 k c0 c1 c2 c3 c4 p3 h0 n0 _ s₁.heap _
        rw [e0]
        exact ⟨(by unfold own_rf3; first | rw [if_neg c16_318, if_neg c35_322, if_pos c56_326] | (unfold own_tl; rw [if_neg c16_318, if_neg c35_322, if_pos c56_326])), N0, rfl⟩
      · refine own_go (XS.icmpYes X0.here hx rfl (pc0 := 56) (pc' := 65) rfl (hb hby d11_56) rfl (feq c56_326).2 (by decide) (by decide) (Steps.refl _)) ?_
        show own_Fin _ _ _ _ (s₁.setTop (mkF m 65 #[rv a1, iv (3 : Int32), iv p3, iv c3] []))
        refine own_go (XS.iloadN X0.here hx rfl (hb hby d11_65) rfl (Steps.refl _)) ?_
        show own_Fin _ _ _ _ (s₁.setTop (mkF m 66 #[rv a1, iv (3 : Int32), iv p3, iv c3] [(.int (3 : Int32))]))
        refine own_go (XS.iconst X0.here hx rfl (hb hby d11_66) (Steps.refl _)) ?_
        show own_Fin _ _ _ _ (s₁.setTop (mkF m 67 #[rv a1, iv (3 : Int32), iv p3, iv c3] [(.int (4 : Int32)), (.int (3 : Int32))]))
        refine own_go (XS.isub X0.here hx rfl (hb hby d11_67) rfl (Steps.refl _)) ?_
        show own_Fin _ _ _ _ (s₁.setTop (mkF m 68 #[rv a1, iv (3 : Int32), iv p3, iv c3] [(.int (-1 : Int32))]))
        refine own_go (XS.ifYes X0.here hx rfl (pc0 := 68) (pc' := 86) rfl (hb hby d11_68) rfl ((if0 _ _).trans (tlt (by decide : (-1 : Int32) < (0 : Int32))).1) (by decide) (by decide) (Steps.refl _)) ?_
        show own_Fin _ _ _ _ (s₁.setTop (mkF m 86 #[rv a1, iv (3 : Int32), iv p3, iv c3] []))
        refine own_go (XS.iloadN X0.here hx rfl (hb hby d11_86) rfl (Steps.refl _)) ?_
        show own_Fin _ _ _ _ (s₁.setTop (mkF m 87 #[rv a1, iv (3 : Int32), iv p3, iv c3] [(.int c3)]))
        by_cases c87_329 : c3 < (0 : Int32)
        · refine own_go (XS.ifNo X0.here hx rfl (hb hby d11_87) rfl ((if0 _ _).trans (tlt c87_329).2.1) (Steps.refl _)) ?_
          show own_Fin _ _ _ _ (s₁.setTop (mkF m 90 #[rv a1, iv (3 : Int32), iv p3, iv c3] []))
          refine own_go (XS.iloadN X0.here hx rfl (hb hby d11_90) rfl (Steps.refl _)) ?_
          show own_Fin _ _ _ _ (s₁.setTop (mkF m 91 #[rv a1, iv (3 : Int32), iv p3, iv c3] [(.int p3)]))
          by_cases c91_330 : (0 : Int32) < p3
          · refine own_go (XS.ifNo X0.here hx rfl (hb hby d11_91) rfl ((if0 _ _).trans (tlt c91_330).2.2.2) (Steps.refl _)) ?_
            show own_Fin _ _ _ _ (s₁.setTop (mkF m 94 #[rv a1, iv (3 : Int32), iv p3, iv c3] []))
            refine own_go (XS.iconst X0.here hx rfl (hb hby d11_94) (Steps.refl _)) ?_
            show own_Fin _ _ _ _ (s₁.setTop (mkF m 95 #[rv a1, iv (3 : Int32), iv p3, iv c3] [(.int (0 : Int32))]))
            refine own_go (XS.goto X0.here hx rfl (pc0 := 95) (pc' := 103) rfl (hb hby d11_95) (by decide) (by decide) (Steps.refl _)) ?_
            show own_Fin _ _ _ _ (s₁.setTop (mkF m 103 #[rv a1, iv (3 : Int32), iv p3, iv c3] [(.int (0 : Int32))]))
            obtain ⟨fs331, hr331, hrun331, hended331, hW331, hsame331⟩ := X0.leave (v := some (.int (0 : Int32))) (fun h => by rw [Bd.returns] at h; cases h)
            refine own_done (own_retI X0 hx Bd.returns (hb hby d11_103) hr331) hrun331 hended331 ⟨_, _, rfl, ?_, ⟨_, rfl⟩, hW331, hsame331.mono (by decide) (by decide)⟩
            show Qref_3 Z a1 k c0 c1 c2 c3 c4 p3 h0 n0 _ s₁.heap _
            rw [e0]
            exact ⟨(by unfold own_rf3; first | rw [if_neg c16_318, if_neg c35_322, if_neg c56_326, if_pos c87_329, if_pos c91_330] | (unfold own_tl; rw [if_neg c16_318, if_neg c35_322, if_neg c56_326, if_pos c87_329, if_pos c91_330])), N0, rfl⟩
          · refine own_go (XS.ifYes X0.here hx rfl (pc0 := 91) (pc' := 98) rfl (hb hby d11_91) rfl ((if0 _ _).trans (flt c91_330).2.2.2) (by decide) (by decide) (Steps.refl _)) ?_
            show own_Fin _ _ _ _ (s₁.setTop (mkF m 98 #[rv a1, iv (3 : Int32), iv p3, iv c3] []))
            refine own_go (XS.iconst X0.here hx rfl (hb hby d11_98) (Steps.refl _)) ?_
            show own_Fin _ _ _ _ (s₁.setTop (mkF m 99 #[rv a1, iv (3 : Int32), iv p3, iv c3] [(.int (-1 : Int32))]))
            refine own_go (XS.goto X0.here hx rfl (pc0 := 99) (pc' := 103) rfl (hb hby d11_99) (by decide) (by decide) (Steps.refl _)) ?_
            show own_Fin _ _ _ _ (s₁.setTop (mkF m 103 #[rv a1, iv (3 : Int32), iv p3, iv c3] [(.int (-1 : Int32))]))
            obtain ⟨fs332, hr332, hrun332, hended332, hW332, hsame332⟩ := X0.leave (v := some (.int (-1 : Int32))) (fun h => by rw [Bd.returns] at h; cases h)
            refine own_done (own_retI X0 hx Bd.returns (hb hby d11_103) hr332) hrun332 hended332 ⟨_, _, rfl, ?_, ⟨_, rfl⟩, hW332, hsame332.mono (by decide) (by decide)⟩
            show Qref_3 Z a1 k c0 c1 c2 c3 c4 p3 h0 n0 _ s₁.heap _
            rw [e0]
            exact ⟨(by unfold own_rf3; first | rw [if_neg c16_318, if_neg c35_322, if_neg c56_326, if_pos c87_329, if_neg c91_330] | (unfold own_tl; rw [if_neg c16_318, if_neg c35_322, if_neg c56_326, if_pos c87_329, if_neg c91_330])), N0, rfl⟩
        · refine own_go (XS.ifYes X0.here hx rfl (pc0 := 87) (pc' := 102) rfl (hb hby d11_87) rfl ((if0 _ _).trans (flt c87_329).2.1) (by decide) (by decide) (Steps.refl _)) ?_
          show own_Fin _ _ _ _ (s₁.setTop (mkF m 102 #[rv a1, iv (3 : Int32), iv p3, iv c3] []))
          refine own_go (XS.iconst X0.here hx rfl (hb hby d11_102) (Steps.refl _)) ?_
          show own_Fin _ _ _ _ (s₁.setTop (mkF m 103 #[rv a1, iv (3 : Int32), iv p3, iv c3] [(.int (-1 : Int32))]))
          obtain ⟨fs333, hr333, hrun333, hended333, hW333, hsame333⟩ := X0.leave (v := some (.int (-1 : Int32))) (fun h => by rw [Bd.returns] at h; cases h)
          refine own_done (own_retI X0 hx Bd.returns (hb hby d11_103) hr333) hrun333 hended333 ⟨_, _, rfl, ?_, ⟨_, rfl⟩, hW333, hsame333.mono (by decide) (by decide)⟩
          show Qref_3 Z a1 k c0 c1 c2 c3 c4 p3 h0 n0 _ s₁.heap _
          rw [e0]
          exact ⟨(by unfold own_rf3; first | rw [if_neg c16_318, if_neg c35_322, if_neg c56_326, if_neg c87_329] | (unfold own_tl; rw [if_neg c16_318, if_neg c35_322, if_neg c56_326, if_neg c87_329])), N0, rfl⟩
theorem ef_ref_4 (m : MethodId) (x0 : Addr) (x1 : Int32) (x2 : Int32) : entryFrame m #[(.ref x0), (.int x1), (.int x2)] 4 = mkF m 0 #[.val (.ref x0), .val (.int x1), .val (.int x2), .unset] [] := by first | (simp [entryFrame, mkF, argsToLocals, Value.category]; done) | rfl
def Qref_4 (Z : State) (a1 : Addr) (k : ClassId) (c0 : Int32) (c1 : Int32) (c2 : Int32) (c3 : Int32) (c4 : Int32) (p3 : Int32) (h0 : Heap) (n0 : Nat) (v : Option Value) (h : Heap) (L : List Loc) : Prop := v = some (.int (own_rf4 c0 c1 c2 c3 c4 p3)) ∧ Fr n0 L ∧ h = h0
abbrev Gref_4 (Z : State) (a1 : Addr) (k : ClassId) (c0 : Int32) (c1 : Int32) (c2 : Int32) (c3 : Int32) (c4 : Int32) (p3 : Int32) (h0 : Heap) (n0 : Nat) (s : State) : Outcome → State → Prop := fun o U' => ∃ v L, o = .returned v ∧ Qref_4 Z a1 k c0 c1 c2 c3 c4 p3 h0 n0 v U'.heap L ∧ FrameEnd s o U' L ({ frames := 0, cells := 0, slots := 0, locals := 0 } : Room).cells ({ frames := 0, cells := 0, slots := 0, locals := 0 } : Room).slots
set_option maxRecDepth 65536 in
set_option maxHeartbeats 40000000 in
theorem rmref_4 (l : Launch) (Z : State) (a0 : Array Value) (hw : ∀ d ∈ tables_1, d.before a0 Z = true) (ws : List Jvm.Cond) (a1 : Addr) (k : ClassId) (c0 : Int32) (c1 : Int32) (c2 : Int32) (c3 : Int32) (c4 : Int32) (p3 : Int32) (h0 : Heap) (n0 : Nat) (Z0 : n0 ≤ h0.size) (V_a1 : Arv Z h0 a1 k .int (5 : Int32) [(.int c0), (.int c1), (.int c2), (.int c3), (.int c4)] (.int (0 : Int32))) :
    MetFree l (⟨"com/example/gridtally/gridtally/casefile/IdSequenceNamedPinLaw", "ref", "([III)I"⟩ : MethodName) (head1 (Jvm.Cond.code (⟨"com/example/gridtally/gridtally/casefile/IdSequenceNamedPinLaw", "ref", "([III)I"⟩ : MethodName) method_3_code 4 (some .int) :: ws) ({ frames := 0, cells := 0, slots := 0, locals := 0 } : Room)) (fun a U => a = #[(.ref a1), (.int (4 : Int32)), (.int p3)] ∧ Z.Warmed39 U.vm ∧ U.heap = h0) (fun _ _ _ _ _ => True) (fun _ U o U' => ∃ v L, o = .returned v ∧ Qref_4 Z a1 k c0 c1 c2 c3 c4 p3 h0 n0 v U'.heap L ∧ FrameEnd U o U' L ({ frames := 0, cells := 0, slots := 0, locals := 0 } : Room).cells ({ frames := 0, cells := 0, slots := 0, locals := 0 } : Room).slots) := by
  refine MetFree.of_bodySF (plainFor_of_name pn_com_example_gridtally_gridtally_casefile_IdSequenceNamedPinLaw) hisR ?_
  intro p e s m args below meth c s₁ Bd hml0 hP hK
  obtain ⟨rfl, hZ, hh⟩ := hP
  have hx := Bd.exec
  have hby := Bd.bytes
  have hml : c.maxLocals = 4 := hml0
  have hown : s.vm.findClass "com/example/gridtally/gridtally/casefile/IdSequenceNamedPinLaw" = some m.cls := findClass_of_methodNamed Bd.named
  have hnm := (name_of_methodNamed Bd.named Bd.method).1
  have X0 : Stand p l e ({ frames := 0, cells := 0, slots := 0, locals := 0 } : Room) s m #[(.ref a1), (.int (4 : Int32)), (.int p3)] below meth c s₁ [] 0 0 := Stand.of_body Bd
  have e0 : s₁.heap = h0 := by rw [← hh, Bd.state]; rfl
  have es0 : s.heap = h0 := hh
  have N0 := Fr.nil n0
  show own_Fin p e below (Gref_4 Z a1 k c0 c1 c2 c3 c4 p3 h0 n0 s) (s₁.setTop (entryFrame m #[(.ref a1), (.int (4 : Int32)), (.int p3)] 4))
  rw [ef_ref_4 m a1 (4 : Int32) p3]
  refine own_go (XS.aloadN X0.here hx rfl (hb hby d11_0) rfl rfl (Steps.refl _)) ?_
  show own_Fin _ _ _ _ (s₁.setTop (mkF m 1 #[rv a1, iv (4 : Int32), iv p3, .unset] [(.ref a1)]))
  refine own_go (XS.iloadN X0.here hx rfl (hb hby d11_1) rfl (Steps.refl _)) ?_
  show own_Fin _ _ _ _ (s₁.setTop (mkF m 2 #[rv a1, iv (4 : Int32), iv p3, .unset] [(.int (4 : Int32)), (.ref a1)]))
  obtain ⟨cl334, Ar334, qa334, Sa334, Na334, Ha334, Ga334⟩ := id V_a1
  have hin334 : ¬ ((4 : Int32) < 0 ∨ cl334.slots.size ≤ ((4 : Int32)).toNatClampNeg) := inb_of Sa334 ⟨by decide, by decide⟩
  have hat334 : cl334.slots[((4 : Int32)).toNatClampNeg]? = some (.int c4) := Has.at Ha334 hin334 rfl
  refine own_by (X0.iaload hx (j := (4 : Int32)) (v := (.int c4)) (by rw [e0]; exact Ar334.1) (State.isArrayOf_alike hZ.alike Ar334.2.1) Ar334.2.2 hin334 hat334 (g := (mkF m 2 #[rv a1, iv (4 : Int32), iv p3, .unset] [(.int (4 : Int32)), (.ref a1)])) rfl rfl (hb hby d11_2)) ?_
  show own_Fin _ _ _ _ (s₁.setTop (mkF m 3 #[rv a1, iv (4 : Int32), iv p3, .unset] [(.int c4)]))
  refine own_go (XS.istoreN X0.here hx rfl (hb hby d11_3) rfl rfl (Steps.refl _)) ?_
  show own_Fin _ _ _ _ (s₁.setTop (mkF m 4 #[rv a1, iv (4 : Int32), iv p3, iv c4] []))
  refine own_go (XS.iloadN X0.here hx rfl (hb hby d11_4) rfl (Steps.refl _)) ?_
  show own_Fin _ _ _ _ (s₁.setTop (mkF m 5 #[rv a1, iv (4 : Int32), iv p3, iv c4] [(.int (4 : Int32))]))
  refine own_go (XS.iconst X0.here hx rfl (hb hby d11_5) (Steps.refl _)) ?_
  show own_Fin _ _ _ _ (s₁.setTop (mkF m 6 #[rv a1, iv (4 : Int32), iv p3, iv c4] [(.int (1 : Int32)), (.int (4 : Int32))]))
  refine own_go (XS.isub X0.here hx rfl (hb hby d11_6) rfl (Steps.refl _)) ?_
  show own_Fin _ _ _ _ (s₁.setTop (mkF m 7 #[rv a1, iv (4 : Int32), iv p3, iv c4] [(.int (3 : Int32))]))
  refine own_go (XS.ifNo X0.here hx rfl (hb hby d11_7) rfl ((if0 _ _).trans (flt (by decide : ¬ ((3 : Int32) < (0 : Int32)))).1) (Steps.refl _)) ?_
  show own_Fin _ _ _ _ (s₁.setTop (mkF m 10 #[rv a1, iv (4 : Int32), iv p3, iv c4] []))
  refine own_go (XS.aloadN X0.here hx rfl (hb hby d11_10) rfl rfl (Steps.refl _)) ?_
  show own_Fin _ _ _ _ (s₁.setTop (mkF m 11 #[rv a1, iv (4 : Int32), iv p3, iv c4] [(.ref a1)]))
  refine own_go (XS.iloadN X0.here hx rfl (hb hby d11_11) rfl (Steps.refl _)) ?_
  show own_Fin _ _ _ _ (s₁.setTop (mkF m 12 #[rv a1, iv (4 : Int32), iv p3, iv c4] [(.int (4 : Int32)), (.ref a1)]))
  refine own_go (XS.iconst X0.here hx rfl (hb hby d11_12) (Steps.refl _)) ?_
  show own_Fin _ _ _ _ (s₁.setTop (mkF m 13 #[rv a1, iv (4 : Int32), iv p3, iv c4] [(.int (1 : Int32)), (.int (4 : Int32)), (.ref a1)]))
  refine own_go (XS.isub X0.here hx rfl (hb hby d11_13) rfl (Steps.refl _)) ?_
  show own_Fin _ _ _ _ (s₁.setTop (mkF m 14 #[rv a1, iv (4 : Int32), iv p3, iv c4] [(.int (3 : Int32)), (.ref a1)]))
  obtain ⟨cl335, Ar335, qa335, Sa335, Na335, Ha335, Ga335⟩ := id V_a1
  have hin335 : ¬ ((3 : Int32) < 0 ∨ cl335.slots.size ≤ ((3 : Int32)).toNatClampNeg) := inb_of Sa335 ⟨by decide, by decide⟩
  have hat335 : cl335.slots[((3 : Int32)).toNatClampNeg]? = some (.int c3) := Has.at Ha335 hin335 rfl
  refine own_by (X0.iaload hx (j := (3 : Int32)) (v := (.int c3)) (by rw [e0]; exact Ar335.1) (State.isArrayOf_alike hZ.alike Ar335.2.1) Ar335.2.2 hin335 hat335 (g := (mkF m 14 #[rv a1, iv (4 : Int32), iv p3, iv c4] [(.int (3 : Int32)), (.ref a1)])) rfl rfl (hb hby d11_14)) ?_
  show own_Fin _ _ _ _ (s₁.setTop (mkF m 15 #[rv a1, iv (4 : Int32), iv p3, iv c4] [(.int c3)]))
  refine own_go (XS.iloadN X0.here hx rfl (hb hby d11_15) rfl (Steps.refl _)) ?_
  show own_Fin _ _ _ _ (s₁.setTop (mkF m 16 #[rv a1, iv (4 : Int32), iv p3, iv c4] [(.int c4), (.int c3)]))
  by_cases c16_336 : c3 = c4
  · refine own_go (XS.icmpNo X0.here hx rfl (hb hby d11_16) rfl (teq c16_336).2 (Steps.refl _)) ?_
    show own_Fin _ _ _ _ (s₁.setTop (mkF m 19 #[rv a1, iv (4 : Int32), iv p3, iv c4] []))
    refine own_go (XS.aloadN X0.here hx rfl (hb hby d11_19) rfl rfl (Steps.refl _)) ?_
    show own_Fin _ _ _ _ (s₁.setTop (mkF m 20 #[rv a1, iv (4 : Int32), iv p3, iv c4] [(.ref a1)]))
    refine own_go (XS.iloadN X0.here hx rfl (hb hby d11_20) rfl (Steps.refl _)) ?_
    show own_Fin _ _ _ _ (s₁.setTop (mkF m 21 #[rv a1, iv (4 : Int32), iv p3, iv c4] [(.int (4 : Int32)), (.ref a1)]))
    obtain ⟨cl337, Ar337, qa337, Sa337, Na337, Ha337, Ga337⟩ := id V_a1
    have hin337 : ¬ ((4 : Int32) < 0 ∨ cl337.slots.size ≤ ((4 : Int32)).toNatClampNeg) := inb_of Sa337 ⟨by decide, by decide⟩
    have hat337 : cl337.slots[((4 : Int32)).toNatClampNeg]? = some (.int c4) := Has.at Ha337 hin337 rfl
    refine own_by (X0.iaload hx (j := (4 : Int32)) (v := (.int c4)) (by rw [e0]; exact Ar337.1) (State.isArrayOf_alike hZ.alike Ar337.2.1) Ar337.2.2 hin337 hat337 (g := (mkF m 21 #[rv a1, iv (4 : Int32), iv p3, iv c4] [(.int (4 : Int32)), (.ref a1)])) rfl rfl (hb hby d11_21)) ?_
    show own_Fin _ _ _ _ (s₁.setTop (mkF m 22 #[rv a1, iv (4 : Int32), iv p3, iv c4] [(.int c4)]))
    obtain ⟨fs338, hr338, hrun338, hended338, hW338, hsame338⟩ := X0.leave (v := some (.int c4)) (fun h => by rw [Bd.returns] at h; cases h)
    refine own_done (own_retI X0 hx Bd.returns (hb hby d11_22) hr338) hrun338 hended338 ⟨_, _, rfl, ?_, ⟨_, rfl⟩, hW338, hsame338.mono (by decide) (by decide)⟩
    show Qref_4 Z a1 k c0 c1 c2 c3 c4 p3 h0 n0 _ s₁.heap _
    rw [e0]
    exact ⟨(by unfold own_rf4; first | rw [if_pos c16_336] | (unfold own_tl; rw [if_pos c16_336])), N0, rfl⟩
  · refine own_go (XS.icmpYes X0.here hx rfl (pc0 := 16) (pc' := 23) rfl (hb hby d11_16) rfl (feq c16_336).2 (by decide) (by decide) (Steps.refl _)) ?_
    show own_Fin _ _ _ _ (s₁.setTop (mkF m 23 #[rv a1, iv (4 : Int32), iv p3, iv c4] []))
    refine own_go (XS.iloadN X0.here hx rfl (hb hby d11_23) rfl (Steps.refl _)) ?_
    show own_Fin _ _ _ _ (s₁.setTop (mkF m 24 #[rv a1, iv (4 : Int32), iv p3, iv c4] [(.int (4 : Int32))]))
    refine own_go (XS.iconst X0.here hx rfl (hb hby d11_24) (Steps.refl _)) ?_
    show own_Fin _ _ _ _ (s₁.setTop (mkF m 25 #[rv a1, iv (4 : Int32), iv p3, iv c4] [(.int (2 : Int32)), (.int (4 : Int32))]))
    refine own_go (XS.isub X0.here hx rfl (hb hby d11_25) rfl (Steps.refl _)) ?_
    show own_Fin _ _ _ _ (s₁.setTop (mkF m 26 #[rv a1, iv (4 : Int32), iv p3, iv c4] [(.int (2 : Int32))]))
    refine own_go (XS.ifNo X0.here hx rfl (hb hby d11_26) rfl ((if0 _ _).trans (flt (by decide : ¬ ((2 : Int32) < (0 : Int32)))).1) (Steps.refl _)) ?_
    show own_Fin _ _ _ _ (s₁.setTop (mkF m 29 #[rv a1, iv (4 : Int32), iv p3, iv c4] []))
    refine own_go (XS.aloadN X0.here hx rfl (hb hby d11_29) rfl rfl (Steps.refl _)) ?_
    show own_Fin _ _ _ _ (s₁.setTop (mkF m 30 #[rv a1, iv (4 : Int32), iv p3, iv c4] [(.ref a1)]))
    refine own_go (XS.iloadN X0.here hx rfl (hb hby d11_30) rfl (Steps.refl _)) ?_
    show own_Fin _ _ _ _ (s₁.setTop (mkF m 31 #[rv a1, iv (4 : Int32), iv p3, iv c4] [(.int (4 : Int32)), (.ref a1)]))
    refine own_go (XS.iconst X0.here hx rfl (hb hby d11_31) (Steps.refl _)) ?_
    show own_Fin _ _ _ _ (s₁.setTop (mkF m 32 #[rv a1, iv (4 : Int32), iv p3, iv c4] [(.int (2 : Int32)), (.int (4 : Int32)), (.ref a1)]))
    refine own_go (XS.isub X0.here hx rfl (hb hby d11_32) rfl (Steps.refl _)) ?_
    show own_Fin _ _ _ _ (s₁.setTop (mkF m 33 #[rv a1, iv (4 : Int32), iv p3, iv c4] [(.int (2 : Int32)), (.ref a1)]))
    obtain ⟨cl339, Ar339, qa339, Sa339, Na339, Ha339, Ga339⟩ := id V_a1
    have hin339 : ¬ ((2 : Int32) < 0 ∨ cl339.slots.size ≤ ((2 : Int32)).toNatClampNeg) := inb_of Sa339 ⟨by decide, by decide⟩
    have hat339 : cl339.slots[((2 : Int32)).toNatClampNeg]? = some (.int c2) := Has.at Ha339 hin339 rfl
    refine own_by (X0.iaload hx (j := (2 : Int32)) (v := (.int c2)) (by rw [e0]; exact Ar339.1) (State.isArrayOf_alike hZ.alike Ar339.2.1) Ar339.2.2 hin339 hat339 (g := (mkF m 33 #[rv a1, iv (4 : Int32), iv p3, iv c4] [(.int (2 : Int32)), (.ref a1)])) rfl rfl (hb hby d11_33)) ?_
    show own_Fin _ _ _ _ (s₁.setTop (mkF m 34 #[rv a1, iv (4 : Int32), iv p3, iv c4] [(.int c2)]))
    refine own_go (XS.iloadN X0.here hx rfl (hb hby d11_34) rfl (Steps.refl _)) ?_
    show own_Fin _ _ _ _ (s₁.setTop (mkF m 35 #[rv a1, iv (4 : Int32), iv p3, iv c4] [(.int c4), (.int c2)]))
    by_cases c35_340 : c2 = c4
    · refine own_go (XS.icmpNo X0.here hx rfl (hb hby d11_35) rfl (teq c35_340).2 (Steps.refl _)) ?_
      show own_Fin _ _ _ _ (s₁.setTop (mkF m 38 #[rv a1, iv (4 : Int32), iv p3, iv c4] []))
      refine own_go (XS.aloadN X0.here hx rfl (hb hby d11_38) rfl rfl (Steps.refl _)) ?_
      show own_Fin _ _ _ _ (s₁.setTop (mkF m 39 #[rv a1, iv (4 : Int32), iv p3, iv c4] [(.ref a1)]))
      refine own_go (XS.iloadN X0.here hx rfl (hb hby d11_39) rfl (Steps.refl _)) ?_
      show own_Fin _ _ _ _ (s₁.setTop (mkF m 40 #[rv a1, iv (4 : Int32), iv p3, iv c4] [(.int (4 : Int32)), (.ref a1)]))
      refine own_go (XS.iconst X0.here hx rfl (hb hby d11_40) (Steps.refl _)) ?_
      show own_Fin _ _ _ _ (s₁.setTop (mkF m 41 #[rv a1, iv (4 : Int32), iv p3, iv c4] [(.int (1 : Int32)), (.int (4 : Int32)), (.ref a1)]))
      refine own_go (XS.isub X0.here hx rfl (hb hby d11_41) rfl (Steps.refl _)) ?_
      show own_Fin _ _ _ _ (s₁.setTop (mkF m 42 #[rv a1, iv (4 : Int32), iv p3, iv c4] [(.int (3 : Int32)), (.ref a1)]))
      obtain ⟨cl341, Ar341, qa341, Sa341, Na341, Ha341, Ga341⟩ := id V_a1
      have hin341 : ¬ ((3 : Int32) < 0 ∨ cl341.slots.size ≤ ((3 : Int32)).toNatClampNeg) := inb_of Sa341 ⟨by decide, by decide⟩
      have hat341 : cl341.slots[((3 : Int32)).toNatClampNeg]? = some (.int c3) := Has.at Ha341 hin341 rfl
      refine own_by (X0.iaload hx (j := (3 : Int32)) (v := (.int c3)) (by rw [e0]; exact Ar341.1) (State.isArrayOf_alike hZ.alike Ar341.2.1) Ar341.2.2 hin341 hat341 (g := (mkF m 42 #[rv a1, iv (4 : Int32), iv p3, iv c4] [(.int (3 : Int32)), (.ref a1)])) rfl rfl (hb hby d11_42)) ?_
      show own_Fin _ _ _ _ (s₁.setTop (mkF m 43 #[rv a1, iv (4 : Int32), iv p3, iv c4] [(.int c3)]))
      obtain ⟨fs342, hr342, hrun342, hended342, hW342, hsame342⟩ := X0.leave (v := some (.int c3)) (fun h => by rw [Bd.returns] at h; cases h)
      refine own_done (own_retI X0 hx Bd.returns (hb hby d11_43) hr342) hrun342 hended342 ⟨_, _, rfl, ?_, ⟨_, rfl⟩, hW342, hsame342.mono (by decide) (by decide)⟩
      show Qref_4 Z a1 k c0 c1 c2 c3 c4 p3 h0 n0 _ s₁.heap _
      rw [e0]
      exact ⟨(by unfold own_rf4; first | rw [if_neg c16_336, if_pos c35_340] | (unfold own_tl; rw [if_neg c16_336, if_pos c35_340])), N0, rfl⟩
    · refine own_go (XS.icmpYes X0.here hx rfl (pc0 := 35) (pc' := 44) rfl (hb hby d11_35) rfl (feq c35_340).2 (by decide) (by decide) (Steps.refl _)) ?_
      show own_Fin _ _ _ _ (s₁.setTop (mkF m 44 #[rv a1, iv (4 : Int32), iv p3, iv c4] []))
      refine own_go (XS.iloadN X0.here hx rfl (hb hby d11_44) rfl (Steps.refl _)) ?_
      show own_Fin _ _ _ _ (s₁.setTop (mkF m 45 #[rv a1, iv (4 : Int32), iv p3, iv c4] [(.int (4 : Int32))]))
      refine own_go (XS.iconst X0.here hx rfl (hb hby d11_45) (Steps.refl _)) ?_
      show own_Fin _ _ _ _ (s₁.setTop (mkF m 46 #[rv a1, iv (4 : Int32), iv p3, iv c4] [(.int (3 : Int32)), (.int (4 : Int32))]))
      refine own_go (XS.isub X0.here hx rfl (hb hby d11_46) rfl (Steps.refl _)) ?_
      show own_Fin _ _ _ _ (s₁.setTop (mkF m 47 #[rv a1, iv (4 : Int32), iv p3, iv c4] [(.int (1 : Int32))]))
      refine own_go (XS.ifNo X0.here hx rfl (hb hby d11_47) rfl ((if0 _ _).trans (flt (by decide : ¬ ((1 : Int32) < (0 : Int32)))).1) (Steps.refl _)) ?_
      show own_Fin _ _ _ _ (s₁.setTop (mkF m 50 #[rv a1, iv (4 : Int32), iv p3, iv c4] []))
      refine own_go (XS.aloadN X0.here hx rfl (hb hby d11_50) rfl rfl (Steps.refl _)) ?_
      show own_Fin _ _ _ _ (s₁.setTop (mkF m 51 #[rv a1, iv (4 : Int32), iv p3, iv c4] [(.ref a1)]))
      refine own_go (XS.iloadN X0.here hx rfl (hb hby d11_51) rfl (Steps.refl _)) ?_
      show own_Fin _ _ _ _ (s₁.setTop (mkF m 52 #[rv a1, iv (4 : Int32), iv p3, iv c4] [(.int (4 : Int32)), (.ref a1)]))
      refine own_go (XS.iconst X0.here hx rfl (hb hby d11_52) (Steps.refl _)) ?_
      show own_Fin _ _ _ _ (s₁.setTop (mkF m 53 #[rv a1, iv (4 : Int32), iv p3, iv c4] [(.int (3 : Int32)), (.int (4 : Int32)), (.ref a1)]))
      refine own_go (XS.isub X0.here hx rfl (hb hby d11_53) rfl (Steps.refl _)) ?_
      show own_Fin _ _ _ _ (s₁.setTop (mkF m 54 #[rv a1, iv (4 : Int32), iv p3, iv c4] [(.int (1 : Int32)), (.ref a1)]))
      obtain ⟨cl343, Ar343, qa343, Sa343, Na343, Ha343, Ga343⟩ := id V_a1
      have hin343 : ¬ ((1 : Int32) < 0 ∨ cl343.slots.size ≤ ((1 : Int32)).toNatClampNeg) := inb_of Sa343 ⟨by decide, by decide⟩
      have hat343 : cl343.slots[((1 : Int32)).toNatClampNeg]? = some (.int c1) := Has.at Ha343 hin343 rfl
      refine own_by (X0.iaload hx (j := (1 : Int32)) (v := (.int c1)) (by rw [e0]; exact Ar343.1) (State.isArrayOf_alike hZ.alike Ar343.2.1) Ar343.2.2 hin343 hat343 (g := (mkF m 54 #[rv a1, iv (4 : Int32), iv p3, iv c4] [(.int (1 : Int32)), (.ref a1)])) rfl rfl (hb hby d11_54)) ?_
      show own_Fin _ _ _ _ (s₁.setTop (mkF m 55 #[rv a1, iv (4 : Int32), iv p3, iv c4] [(.int c1)]))
      refine own_go (XS.iloadN X0.here hx rfl (hb hby d11_55) rfl (Steps.refl _)) ?_
      show own_Fin _ _ _ _ (s₁.setTop (mkF m 56 #[rv a1, iv (4 : Int32), iv p3, iv c4] [(.int c4), (.int c1)]))
      by_cases c56_344 : c1 = c4
      · refine own_go (XS.icmpNo X0.here hx rfl (hb hby d11_56) rfl (teq c56_344).2 (Steps.refl _)) ?_
        show own_Fin _ _ _ _ (s₁.setTop (mkF m 59 #[rv a1, iv (4 : Int32), iv p3, iv c4] []))
        refine own_go (XS.aloadN X0.here hx rfl (hb hby d11_59) rfl rfl (Steps.refl _)) ?_
        show own_Fin _ _ _ _ (s₁.setTop (mkF m 60 #[rv a1, iv (4 : Int32), iv p3, iv c4] [(.ref a1)]))
        refine own_go (XS.iloadN X0.here hx rfl (hb hby d11_60) rfl (Steps.refl _)) ?_
        show own_Fin _ _ _ _ (s₁.setTop (mkF m 61 #[rv a1, iv (4 : Int32), iv p3, iv c4] [(.int (4 : Int32)), (.ref a1)]))
        refine own_go (XS.iconst X0.here hx rfl (hb hby d11_61) (Steps.refl _)) ?_
        show own_Fin _ _ _ _ (s₁.setTop (mkF m 62 #[rv a1, iv (4 : Int32), iv p3, iv c4] [(.int (2 : Int32)), (.int (4 : Int32)), (.ref a1)]))
        refine own_go (XS.isub X0.here hx rfl (hb hby d11_62) rfl (Steps.refl _)) ?_
        show own_Fin _ _ _ _ (s₁.setTop (mkF m 63 #[rv a1, iv (4 : Int32), iv p3, iv c4] [(.int (2 : Int32)), (.ref a1)]))
        obtain ⟨cl345, Ar345, qa345, Sa345, Na345, Ha345, Ga345⟩ := id V_a1
        have hin345 : ¬ ((2 : Int32) < 0 ∨ cl345.slots.size ≤ ((2 : Int32)).toNatClampNeg) := inb_of Sa345 ⟨by decide, by decide⟩
        have hat345 : cl345.slots[((2 : Int32)).toNatClampNeg]? = some (.int c2) := Has.at Ha345 hin345 rfl
        refine own_by (X0.iaload hx (j := (2 : Int32)) (v := (.int c2)) (by rw [e0]; exact Ar345.1) (State.isArrayOf_alike hZ.alike Ar345.2.1) Ar345.2.2 hin345 hat345 (g := (mkF m 63 #[rv a1, iv (4 : Int32), iv p3, iv c4] [(.int (2 : Int32)), (.ref a1)])) rfl rfl (hb hby d11_63)) ?_
        show own_Fin _ _ _ _ (s₁.setTop (mkF m 64 #[rv a1, iv (4 : Int32), iv p3, iv c4] [(.int c2)]))
        obtain ⟨fs346, hr346, hrun346, hended346, hW346, hsame346⟩ := X0.leave (v := some (.int c2)) (fun h => by rw [Bd.returns] at h; cases h)
        refine own_done (own_retI X0 hx Bd.returns (hb hby d11_64) hr346) hrun346 hended346 ⟨_, _, rfl, ?_, ⟨_, rfl⟩, hW346, hsame346.mono (by decide) (by decide)⟩
        show Qref_4 Z a1 k c0 c1 c2 c3 c4 p3 h0 n0 _ s₁.heap _
        rw [e0]
        exact ⟨(by unfold own_rf4; first | rw [if_neg c16_336, if_neg c35_340, if_pos c56_344] | (unfold own_tl; rw [if_neg c16_336, if_neg c35_340, if_pos c56_344])), N0, rfl⟩
      · refine own_go (XS.icmpYes X0.here hx rfl (pc0 := 56) (pc' := 65) rfl (hb hby d11_56) rfl (feq c56_344).2 (by decide) (by decide) (Steps.refl _)) ?_
        show own_Fin _ _ _ _ (s₁.setTop (mkF m 65 #[rv a1, iv (4 : Int32), iv p3, iv c4] []))
        refine own_go (XS.iloadN X0.here hx rfl (hb hby d11_65) rfl (Steps.refl _)) ?_
        show own_Fin _ _ _ _ (s₁.setTop (mkF m 66 #[rv a1, iv (4 : Int32), iv p3, iv c4] [(.int (4 : Int32))]))
        refine own_go (XS.iconst X0.here hx rfl (hb hby d11_66) (Steps.refl _)) ?_
        show own_Fin _ _ _ _ (s₁.setTop (mkF m 67 #[rv a1, iv (4 : Int32), iv p3, iv c4] [(.int (4 : Int32)), (.int (4 : Int32))]))
        refine own_go (XS.isub X0.here hx rfl (hb hby d11_67) rfl (Steps.refl _)) ?_
        show own_Fin _ _ _ _ (s₁.setTop (mkF m 68 #[rv a1, iv (4 : Int32), iv p3, iv c4] [(.int (0 : Int32))]))
        refine own_go (XS.ifNo X0.here hx rfl (hb hby d11_68) rfl ((if0 _ _).trans (flt (by decide : ¬ ((0 : Int32) < (0 : Int32)))).1) (Steps.refl _)) ?_
        show own_Fin _ _ _ _ (s₁.setTop (mkF m 71 #[rv a1, iv (4 : Int32), iv p3, iv c4] []))
        refine own_go (XS.aloadN X0.here hx rfl (hb hby d11_71) rfl rfl (Steps.refl _)) ?_
        show own_Fin _ _ _ _ (s₁.setTop (mkF m 72 #[rv a1, iv (4 : Int32), iv p3, iv c4] [(.ref a1)]))
        refine own_go (XS.iloadN X0.here hx rfl (hb hby d11_72) rfl (Steps.refl _)) ?_
        show own_Fin _ _ _ _ (s₁.setTop (mkF m 73 #[rv a1, iv (4 : Int32), iv p3, iv c4] [(.int (4 : Int32)), (.ref a1)]))
        refine own_go (XS.iconst X0.here hx rfl (hb hby d11_73) (Steps.refl _)) ?_
        show own_Fin _ _ _ _ (s₁.setTop (mkF m 74 #[rv a1, iv (4 : Int32), iv p3, iv c4] [(.int (4 : Int32)), (.int (4 : Int32)), (.ref a1)]))
        refine own_go (XS.isub X0.here hx rfl (hb hby d11_74) rfl (Steps.refl _)) ?_
        show own_Fin _ _ _ _ (s₁.setTop (mkF m 75 #[rv a1, iv (4 : Int32), iv p3, iv c4] [(.int (0 : Int32)), (.ref a1)]))
        obtain ⟨cl347, Ar347, qa347, Sa347, Na347, Ha347, Ga347⟩ := id V_a1
        have hin347 : ¬ ((0 : Int32) < 0 ∨ cl347.slots.size ≤ ((0 : Int32)).toNatClampNeg) := inb_of Sa347 ⟨by decide, by decide⟩
        have hat347 : cl347.slots[((0 : Int32)).toNatClampNeg]? = some (.int c0) := Has.at Ha347 hin347 rfl
        refine own_by (X0.iaload hx (j := (0 : Int32)) (v := (.int c0)) (by rw [e0]; exact Ar347.1) (State.isArrayOf_alike hZ.alike Ar347.2.1) Ar347.2.2 hin347 hat347 (g := (mkF m 75 #[rv a1, iv (4 : Int32), iv p3, iv c4] [(.int (0 : Int32)), (.ref a1)])) rfl rfl (hb hby d11_75)) ?_
        show own_Fin _ _ _ _ (s₁.setTop (mkF m 76 #[rv a1, iv (4 : Int32), iv p3, iv c4] [(.int c0)]))
        refine own_go (XS.iloadN X0.here hx rfl (hb hby d11_76) rfl (Steps.refl _)) ?_
        show own_Fin _ _ _ _ (s₁.setTop (mkF m 77 #[rv a1, iv (4 : Int32), iv p3, iv c4] [(.int c4), (.int c0)]))
        by_cases c77_348 : c0 = c4
        · refine own_go (XS.icmpNo X0.here hx rfl (hb hby d11_77) rfl (teq c77_348).2 (Steps.refl _)) ?_
          show own_Fin _ _ _ _ (s₁.setTop (mkF m 80 #[rv a1, iv (4 : Int32), iv p3, iv c4] []))
          refine own_go (XS.aloadN X0.here hx rfl (hb hby d11_80) rfl rfl (Steps.refl _)) ?_
          show own_Fin _ _ _ _ (s₁.setTop (mkF m 81 #[rv a1, iv (4 : Int32), iv p3, iv c4] [(.ref a1)]))
          refine own_go (XS.iloadN X0.here hx rfl (hb hby d11_81) rfl (Steps.refl _)) ?_
          show own_Fin _ _ _ _ (s₁.setTop (mkF m 82 #[rv a1, iv (4 : Int32), iv p3, iv c4] [(.int (4 : Int32)), (.ref a1)]))
          refine own_go (XS.iconst X0.here hx rfl (hb hby d11_82) (Steps.refl _)) ?_
          show own_Fin _ _ _ _ (s₁.setTop (mkF m 83 #[rv a1, iv (4 : Int32), iv p3, iv c4] [(.int (3 : Int32)), (.int (4 : Int32)), (.ref a1)]))
          refine own_go (XS.isub X0.here hx rfl (hb hby d11_83) rfl (Steps.refl _)) ?_
          show own_Fin _ _ _ _ (s₁.setTop (mkF m 84 #[rv a1, iv (4 : Int32), iv p3, iv c4] [(.int (1 : Int32)), (.ref a1)]))
          obtain ⟨cl349, Ar349, qa349, Sa349, Na349, Ha349, Ga349⟩ := id V_a1
          have hin349 : ¬ ((1 : Int32) < 0 ∨ cl349.slots.size ≤ ((1 : Int32)).toNatClampNeg) := inb_of Sa349 ⟨by decide, by decide⟩
          have hat349 : cl349.slots[((1 : Int32)).toNatClampNeg]? = some (.int c1) := Has.at Ha349 hin349 rfl
          refine own_by (X0.iaload hx (j := (1 : Int32)) (v := (.int c1)) (by rw [e0]; exact Ar349.1) (State.isArrayOf_alike hZ.alike Ar349.2.1) Ar349.2.2 hin349 hat349 (g := (mkF m 84 #[rv a1, iv (4 : Int32), iv p3, iv c4] [(.int (1 : Int32)), (.ref a1)])) rfl rfl (hb hby d11_84)) ?_
          show own_Fin _ _ _ _ (s₁.setTop (mkF m 85 #[rv a1, iv (4 : Int32), iv p3, iv c4] [(.int c1)]))
          obtain ⟨fs350, hr350, hrun350, hended350, hW350, hsame350⟩ := X0.leave (v := some (.int c1)) (fun h => by rw [Bd.returns] at h; cases h)
          refine own_done (own_retI X0 hx Bd.returns (hb hby d11_85) hr350) hrun350 hended350 ⟨_, _, rfl, ?_, ⟨_, rfl⟩, hW350, hsame350.mono (by decide) (by decide)⟩
          show Qref_4 Z a1 k c0 c1 c2 c3 c4 p3 h0 n0 _ s₁.heap _
          rw [e0]
          exact ⟨(by unfold own_rf4; first | rw [if_neg c16_336, if_neg c35_340, if_neg c56_344, if_pos c77_348] | (unfold own_tl; rw [if_neg c16_336, if_neg c35_340, if_neg c56_344, if_pos c77_348])), N0, rfl⟩
        · refine own_go (XS.icmpYes X0.here hx rfl (pc0 := 77) (pc' := 86) rfl (hb hby d11_77) rfl (feq c77_348).2 (by decide) (by decide) (Steps.refl _)) ?_
          show own_Fin _ _ _ _ (s₁.setTop (mkF m 86 #[rv a1, iv (4 : Int32), iv p3, iv c4] []))
          refine own_go (XS.iloadN X0.here hx rfl (hb hby d11_86) rfl (Steps.refl _)) ?_
          show own_Fin _ _ _ _ (s₁.setTop (mkF m 87 #[rv a1, iv (4 : Int32), iv p3, iv c4] [(.int c4)]))
          by_cases c87_351 : c4 < (0 : Int32)
          · refine own_go (XS.ifNo X0.here hx rfl (hb hby d11_87) rfl ((if0 _ _).trans (tlt c87_351).2.1) (Steps.refl _)) ?_
            show own_Fin _ _ _ _ (s₁.setTop (mkF m 90 #[rv a1, iv (4 : Int32), iv p3, iv c4] []))
            refine own_go (XS.iloadN X0.here hx rfl (hb hby d11_90) rfl (Steps.refl _)) ?_
            show own_Fin _ _ _ _ (s₁.setTop (mkF m 91 #[rv a1, iv (4 : Int32), iv p3, iv c4] [(.int p3)]))
            by_cases c91_352 : (0 : Int32) < p3
            · refine own_go (XS.ifNo X0.here hx rfl (hb hby d11_91) rfl ((if0 _ _).trans (tlt c91_352).2.2.2) (Steps.refl _)) ?_
              show own_Fin _ _ _ _ (s₁.setTop (mkF m 94 #[rv a1, iv (4 : Int32), iv p3, iv c4] []))
              refine own_go (XS.iconst X0.here hx rfl (hb hby d11_94) (Steps.refl _)) ?_
              show own_Fin _ _ _ _ (s₁.setTop (mkF m 95 #[rv a1, iv (4 : Int32), iv p3, iv c4] [(.int (0 : Int32))]))
              refine own_go (XS.goto X0.here hx rfl (pc0 := 95) (pc' := 103) rfl (hb hby d11_95) (by decide) (by decide) (Steps.refl _)) ?_
              show own_Fin _ _ _ _ (s₁.setTop (mkF m 103 #[rv a1, iv (4 : Int32), iv p3, iv c4] [(.int (0 : Int32))]))
              obtain ⟨fs353, hr353, hrun353, hended353, hW353, hsame353⟩ := X0.leave (v := some (.int (0 : Int32))) (fun h => by rw [Bd.returns] at h; cases h)
              refine own_done (own_retI X0 hx Bd.returns (hb hby d11_103) hr353) hrun353 hended353 ⟨_, _, rfl, ?_, ⟨_, rfl⟩, hW353, hsame353.mono (by decide) (by decide)⟩
              show Qref_4 Z a1 k c0 c1 c2 c3 c4 p3 h0 n0 _ s₁.heap _
              rw [e0]
              exact ⟨(by unfold own_rf4; first | rw [if_neg c16_336, if_neg c35_340, if_neg c56_344, if_neg c77_348, if_pos c87_351, if_pos c91_352] | (unfold own_tl; rw [if_neg c16_336, if_neg c35_340, if_neg c56_344, if_neg c77_348, if_pos c87_351, if_pos c91_352])), N0, rfl⟩
            · refine own_go (XS.ifYes X0.here hx rfl (pc0 := 91) (pc' := 98) rfl (hb hby d11_91) rfl ((if0 _ _).trans (flt c91_352).2.2.2) (by decide) (by decide) (Steps.refl _)) ?_
              show own_Fin _ _ _ _ (s₁.setTop (mkF m 98 #[rv a1, iv (4 : Int32), iv p3, iv c4] []))
              refine own_go (XS.iconst X0.here hx rfl (hb hby d11_98) (Steps.refl _)) ?_
              show own_Fin _ _ _ _ (s₁.setTop (mkF m 99 #[rv a1, iv (4 : Int32), iv p3, iv c4] [(.int (-1 : Int32))]))
              refine own_go (XS.goto X0.here hx rfl (pc0 := 99) (pc' := 103) rfl (hb hby d11_99) (by decide) (by decide) (Steps.refl _)) ?_
              show own_Fin _ _ _ _ (s₁.setTop (mkF m 103 #[rv a1, iv (4 : Int32), iv p3, iv c4] [(.int (-1 : Int32))]))
              obtain ⟨fs354, hr354, hrun354, hended354, hW354, hsame354⟩ := X0.leave (v := some (.int (-1 : Int32))) (fun h => by rw [Bd.returns] at h; cases h)
              refine own_done (own_retI X0 hx Bd.returns (hb hby d11_103) hr354) hrun354 hended354 ⟨_, _, rfl, ?_, ⟨_, rfl⟩, hW354, hsame354.mono (by decide) (by decide)⟩
              show Qref_4 Z a1 k c0 c1 c2 c3 c4 p3 h0 n0 _ s₁.heap _
              rw [e0]
              exact ⟨(by unfold own_rf4; first | rw [if_neg c16_336, if_neg c35_340, if_neg c56_344, if_neg c77_348, if_pos c87_351, if_neg c91_352] | (unfold own_tl; rw [if_neg c16_336, if_neg c35_340, if_neg c56_344, if_neg c77_348, if_pos c87_351, if_neg c91_352])), N0, rfl⟩
          · refine own_go (XS.ifYes X0.here hx rfl (pc0 := 87) (pc' := 102) rfl (hb hby d11_87) rfl ((if0 _ _).trans (flt c87_351).2.1) (by decide) (by decide) (Steps.refl _)) ?_
            show own_Fin _ _ _ _ (s₁.setTop (mkF m 102 #[rv a1, iv (4 : Int32), iv p3, iv c4] []))
            refine own_go (XS.iconst X0.here hx rfl (hb hby d11_102) (Steps.refl _)) ?_
            show own_Fin _ _ _ _ (s₁.setTop (mkF m 103 #[rv a1, iv (4 : Int32), iv p3, iv c4] [(.int (-1 : Int32))]))
            obtain ⟨fs355, hr355, hrun355, hended355, hW355, hsame355⟩ := X0.leave (v := some (.int (-1 : Int32))) (fun h => by rw [Bd.returns] at h; cases h)
            refine own_done (own_retI X0 hx Bd.returns (hb hby d11_103) hr355) hrun355 hended355 ⟨_, _, rfl, ?_, ⟨_, rfl⟩, hW355, hsame355.mono (by decide) (by decide)⟩
            show Qref_4 Z a1 k c0 c1 c2 c3 c4 p3 h0 n0 _ s₁.heap _
            rw [e0]
            exact ⟨(by unfold own_rf4; first | rw [if_neg c16_336, if_neg c35_340, if_neg c56_344, if_neg c77_348, if_neg c87_351] | (unfold own_tl; rw [if_neg c16_336, if_neg c35_340, if_neg c56_344, if_neg c77_348, if_neg c87_351])), N0, rfl⟩
theorem ef_0 (m : MethodId) (x0 : Int32) (x1 : Int32) (x2 : Int32) (x3 : Int32) (x4 : Int32) : entryFrame m #[(.int x0), (.int x1), (.int x2), (.int x3), (.int x4)] maxLocals = mkF m 0 #[.val (.int x0), .val (.int x1), .val (.int x2), .val (.int x3), .val (.int x4), .unset, .unset, .unset, .unset, .unset, .unset] [] := by first | (simp [entryFrame, mkF, argsToLocals, Value.category, maxLocals]; done) | rfl
def Q0 (Z : State) (p1 : Int32) (p2 : Int32) (p3 : Int32) (p4 : Int32) (p5 : Int32) (dd : Addr) (kd : ClassId) (u : Addr) (cs : Int32) (h0 : Heap) (n0 : Nat) (v : Option Value) (h : Heap) (L : List Loc) : Prop := v = some (.int 1) ∧ Fr n0 L
abbrev G0 (Z : State) (p1 : Int32) (p2 : Int32) (p3 : Int32) (p4 : Int32) (p5 : Int32) (dd : Addr) (kd : ClassId) (u : Addr) (cs : Int32) (h0 : Heap) (n0 : Nat) (s : State) : Outcome → State → Prop := fun o U' => ∃ v L, o = .returned v ∧ Q0 Z p1 p2 p3 p4 p5 dd kd u cs h0 n0 v U'.heap L ∧ ReturnedEndW s o U' L 32 3264
theorem pd__28_I_29_V : parseMethodDescriptor "(I)V" = some ⟨[.int], none⟩ := by decide +kernel
theorem pd__28__5b_III_29_I : parseMethodDescriptor "([III)I" = some ⟨[(.array .int), .int, .int], some .int⟩ := by decide +kernel
theorem pd__28_Ljava_2f_util_2f_List_3b__29_V : parseMethodDescriptor "(Ljava/util/List;)V" = some ⟨[(.object "java/util/List")], none⟩ := by decide +kernel
theorem pd__28_Ljava_2f_lang_2f_Object_3b__29_Z : parseMethodDescriptor "(Ljava/lang/Object;)Z" = some ⟨[(.object "java/lang/Object")], some .boolean⟩ := by decide +kernel
set_option maxRecDepth 65536 in
set_option maxHeartbeats 40000000 in
theorem rm0 (l : Launch) (Z : State) (a0 : Array Value) (hw : ∀ d ∈ tables_1, d.before a0 Z = true) (ws : List Jvm.Cond) (p1 : Int32) (p2 : Int32) (p3 : Int32) (p4 : Int32) (p5 : Int32) (dd : Addr) (kd : ClassId) (u : Addr) (cs : Int32) (h0 : Heap) (n0 : Nat) (Z0 : n0 ≤ h0.size) (O0 : Old Z n0 h0) (S_DEFAULTCAPACITY_EMPTY_ELEMENTDATA : Sta Z Z.heap "java/util/ArrayList" "DEFAULTCAPACITY_EMPTY_ELEMENTDATA" "[Ljava/lang/Object;" (.ref dd)) (S_INSTANCE : Sta Z Z.heap "sun/nio/cs/UTF_8" "INSTANCE" "Lsun/nio/cs/UTF_8;" (.ref u)) (S_COMPACT_STRINGS : Sta Z Z.heap "java/lang/String" "COMPACT_STRINGS" "Z" (.int cs)) (S_UTF_8 : Sta Z Z.heap "java/nio/charset/StandardCharsets" "UTF_8" "Ljava/nio/charset/Charset;" (.ref u)) (V_dd : Arv Z h0 dd kd (.object "java/lang/Object") (0 : Int32) [] .null) (hcs : ¬ cs = (0 : Int32)) (hn0 : n0 = h0.size) (hh1 : Jvm.Lit.constHeld Z "com/example/gridtally/gridtally/casefile/IdSequenceNamedPinLaw" 11) (hh2 : Jvm.Lit.constHeld Z "com/example/gridtally/gridtally/casefile/IdSequenceNamedPinLaw" 17) (hh3 : Jvm.Lit.constHeld Z "com/example/gridtally/gridtally/casefile/IdSequenceNamedPinLaw" 19) (hcw : Jvm.Lit.compactW.before a0 Z = true) :
    MetFree l x (head1 (Jvm.Cond.code x code maxLocals ret :: ws) room_1) (fun a U => a = #[(.int p1), (.int p2), (.int p3), (.int p4), (.int p5)] ∧ (Z.Warmed39 U.vm ∧ Z = U) ∧ U.heap = h0) (fun _ _ _ _ _ => True) (fun _ U o U' => ∃ v L, o = .returned v ∧ Q0 Z p1 p2 p3 p4 p5 dd kd u cs h0 n0 v U'.heap L ∧ ReturnedEndW U o U' L 32 3264) := by
  refine MetFree.of_bodySF (plainFor_of_name pn_com_example_gridtally_gridtally_casefile_IdSequenceNamedPinLaw) hisR ?_
  intro p e s m args below meth c s₁ Bd hml0 hP hK
  obtain ⟨rfl, ⟨hZ, hZs⟩, hh⟩ := hP
  have hx := Bd.exec
  have hby := Bd.bytes
  have hml : c.maxLocals = 11 := hml0
  have hown : s.vm.findClass "com/example/gridtally/gridtally/casefile/IdSequenceNamedPinLaw" = some m.cls := findClass_of_methodNamed Bd.named
  have hnm := (name_of_methodNamed Bd.named Bd.method).1
  have X0 : Stand p l e room_1 s m #[(.int p1), (.int p2), (.int p3), (.int p4), (.int p5)] below meth c s₁ [] 0 0 := Stand.of_body Bd
  have e0 : s₁.heap = h0 := by rw [← hh, Bd.state]; rfl
  have es0 : s.heap = h0 := hh
  have N0 := Fr.nil n0
  show own_Fin p e below (G0 Z p1 p2 p3 p4 p5 dd kd u cs h0 n0 s) (s₁.setTop (entryFrame m #[(.int p1), (.int p2), (.int p3), (.int p4), (.int p5)] maxLocals))
  rw [ef_0 m p1 p2 p3 p4 p5]
  have X0w : Stand p l e room_1 (s.setVm s.vm) m #[(.int p1), (.int p2), (.int p3), (.int p4), (.int p5)] below meth c s₁ [] 0 0 := X0
  have hS0 : s.Since s.vm 0 := (State.WarmedH.refl s).since 0
  have hk0 : 0 ≤ h0.size := Nat.zero_le _
  have IB0 : IB Z s.vm [] := hZs ▸ IB.start
  have wS : ∀ a ∈ Bundle.stringAtoms, a.before a0 Z = true := by
    intro d hd
    simp only [Bundle.stringAtoms, List.mem_cons, List.not_mem_nil, or_false] at hd
    rcases hd with rfl | rfl | rfl | rfl | rfl | rfl | rfl
    · exact (hw _ (List.mem_of_getElem? (i := 78) rfl))
    · exact (hw _ (List.mem_of_getElem? (i := 79) rfl))
    · exact (hw _ (List.mem_of_getElem? (i := 80) rfl))
    · exact (hw _ (List.mem_of_getElem? (i := 81) rfl))
    · exact (hw _ (List.mem_of_getElem? (i := 82) rfl))
    · exact (hw _ (List.mem_of_getElem? (i := 83) rfl))
    · exact (hw _ (List.mem_of_getElem? (i := 84) rfl))
  refine own_go (XS.iloadN X0w.here hx rfl (hb hby at_0) rfl (Steps.refl _)) ?_
  show own_Fin _ _ _ _ (s₁.setTop (mkF m 1 #[iv p1, iv p2, iv p3, iv p4, iv p5, .unset, .unset, .unset, .unset, .unset, .unset] [(.int p1)]))
  refine own_go (XS.iconst X0w.here hx rfl (hb hby at_1) (Steps.refl _)) ?_
  show own_Fin _ _ _ _ (s₁.setTop (mkF m 2 #[iv p1, iv p2, iv p3, iv p4, iv p5, .unset, .unset, .unset, .unset, .unset, .unset] [(.int (3 : Int32)), (.int p1)]))
  refine own_go (XS.iand X0w.here hx rfl (hb hby at_2) rfl (Steps.refl _)) ?_
  show own_Fin _ _ _ _ (s₁.setTop (mkF m 3 #[iv p1, iv p2, iv p3, iv p4, iv p5, .unset, .unset, .unset, .unset, .unset, .unset] [(.int (p1 &&& (3 : Int32)))]))
  refine own_go (XS.istore X0w.here hx rfl (hb hby at_3) rfl rfl (Steps.refl _)) ?_
  show own_Fin _ _ _ _ (s₁.setTop (mkF m 5 #[iv p1, iv p2, iv p3, iv p4, iv p5, iv (p1 &&& (3 : Int32)), .unset, .unset, .unset, .unset, .unset] []))
  generalize hz_v5_356 : (p1 &&& (3 : Int32)) = v5_356
  have hj357 : ∀ (Tj357 : State) (Lj357 : List Loc) (hp357 : Heap) (vmj357 : Vm) (kj357 : Nat) (nn : Int32) (al : Addr) (sq : Addr) (bi : Addr) (bf : Addr) (ki : ClassId) (kf : ClassId) (vsI : List Value), Stand p l e room_1 (s.setVm vmj357) m #[(.int p1), (.int p2), (.int p3), (.int p4), (.int p5)] below meth c Tj357 Lj357 24 200 → Tj357.heap = hp357 → Fr n0 Lj357 → Z.Warmed39 (s.setVm vmj357).vm → (s.setVm vmj357).vm.findClass "com/example/gridtally/gridtally/casefile/IdSequenceNamedPinLaw" = some m.cls → s.Since vmj357 kj357 → kj357 ≤ hp357.size → n0 ≤ hp357.size → (Exa Z hp357 sq "com/example/gridtally/gridtally/casefile/IdSequence") → (Fld Z hp357 sq "com/example/gridtally/gridtally/casefile/IdSequence" "ids" "[[B" (.ref bi)) → (Fld Z hp357 sq "com/example/gridtally/gridtally/casefile/IdSequence" "none" "I" (.int nn)) → (Fld Z hp357 sq "com/example/gridtally/gridtally/casefile/IdSequence" "following" "[I" (.ref bf)) → (Fld Z hp357 sq "com/example/gridtally/gridtally/casefile/IdSequence" "last" "I" (.int nn)) → (Arv Z hp357 bi ki (.array .byte) nn vsI .null) → (Arv Z hp357 bf kf .int (nn + (1 : Int32)) (List.map Value.int (own_rs0 nn)) (.int (0 : Int32))) → (n0 ≤ sq) → (n0 ≤ bf) → (∃ i : Fin 4, nn = Int32.ofNat i.val) → (sq ≠ bf) → (bi ≠ bf) → (sq ≠ bi) → own_Fin p e below (G0 Z p1 p2 p3 p4 p5 dd kd u cs h0 n0 s) (Tj357.setTop (mkF m 67 #[iv p1, iv p2, iv p3, iv p4, iv p5, iv nn, rv al, rv sq, .unset, .unset, .unset] [])) := by
    intro Tj357 Lj357 hp357 vmj357 kj357 nn al sq bi bf ki kf vsI Xj357 ej357 Nj357 hZj357 hownj357 hSj357 hkj357 Zj357 E_sq F_ids_sq F_none_sq F_following_sq F_last_sq V_bi V_bf g_sq g_bf hnn neqf neif neqi
    show own_Fin _ _ _ _ (Tj357.setTop (mkF m 67 #[iv p1, iv p2, iv p3, iv p4, iv p5, iv nn, rv al, rv sq, .unset, .unset, .unset] []))
    refine own_go (XS.iload Xj357.here hx rfl (hb hby at_67) rfl (Steps.refl _)) ?_
    show own_Fin _ _ _ _ (Tj357.setTop (mkF m 69 #[iv p1, iv p2, iv p3, iv p4, iv p5, iv nn, rv al, rv sq, .unset, .unset, .unset] [(.int nn)]))
    refine own_go (XS.iconst Xj357.here hx rfl (hb hby at_69) (Steps.refl _)) ?_
    show own_Fin _ _ _ _ (Tj357.setTop (mkF m 70 #[iv p1, iv p2, iv p3, iv p4, iv p5, iv nn, rv al, rv sq, .unset, .unset, .unset] [(.int (1 : Int32)), (.int nn)]))
    refine own_go (XS.iadd Xj357.here hx rfl (hb hby at_70) rfl (Steps.refl _)) ?_
    show own_Fin _ _ _ _ (Tj357.setTop (mkF m 71 #[iv p1, iv p2, iv p3, iv p4, iv p5, iv nn, rv al, rv sq, .unset, .unset, .unset] [(.int (nn + (1 : Int32)))]))
    refine own_go (XS.istore Xj357.here hx rfl (hb hby at_71) rfl rfl (Steps.refl _)) ?_
    show own_Fin _ _ _ _ (Tj357.setTop (mkF m 73 #[iv p1, iv p2, iv p3, iv p4, iv p5, iv nn, rv al, rv sq, iv (nn + (1 : Int32)), .unset, .unset] []))
    generalize hz_v8_358 : (nn + (1 : Int32)) = v8_358
    refine own_go (XS.iconst Xj357.here hx rfl (hb hby at_73) (Steps.refl _)) ?_
    show own_Fin _ _ _ _ (Tj357.setTop (mkF m 74 #[iv p1, iv p2, iv p3, iv p4, iv p5, iv nn, rv al, rv sq, iv v8_358, .unset, .unset] [(.int (5 : Int32))]))
    obtain ⟨T359, h359, k359, X359, e359, E359, A359, st359⟩ := newP Xj357 hx hZj357 (hw _ (List.mem_of_getElem? (i := 50) rfl)) ej357 (g := (mkF m 74 #[iv p1, iv p2, iv p3, iv p4, iv p5, iv nn, rv al, rv sq, iv v8_358, .unset, .unset] [(.int (5 : Int32))])) rfl (hb hby at_74) rfl (by decide) (cap := 5) (by decide) (by decide) (by decide) (by decide)
    obtain ⟨b359, g359⟩ : ∃ z, z = hp357.size := ⟨_, rfl⟩
    rw [← g359] at A359 st359
    refine own_by st359 ?_
    have ne_sq_b359 : sq ≠ b359 := Nat.ne_of_lt (Nat.lt_of_lt_of_eq E_sq.lt g359.symm)
    have ne_bi_b359 : bi ≠ b359 := Nat.ne_of_lt (Nat.lt_of_lt_of_eq V_bi.lt g359.symm)
    have ne_bf_b359 : bf ≠ b359 := Nat.ne_of_lt (Nat.lt_of_lt_of_eq V_bf.lt g359.symm)
    have E_sq_359 := E_sq.ext E359
    have F_ids_sq_359 := F_ids_sq.ext E359
    have F_none_sq_359 := F_none_sq.ext E359
    have F_following_sq_359 := F_following_sq.ext E359
    have F_last_sq_359 := F_last_sq.ext E359
    have V_bi_359 := V_bi.ext E359
    have V_bf_359 := V_bf.ext E359
    have g_b359 : n0 ≤ b359 := Nat.le_trans Zj357 (Nat.le_of_eq g359.symm)
    have Z359 : n0 ≤ h359.size := Nat.le_trans Zj357 E359.1
    have hk359 : kj357 ≤ h359.size := Nat.le_trans hkj357 E359.1
    have V_b359 : Arv Z h359 b359 k359 .int (5 : Int32) [(.int (0 : Int32)), (.int (0 : Int32)), (.int (0 : Int32)), (.int (0 : Int32)), (.int (0 : Int32))] (.int (0 : Int32)) := (Arv.new A359 (by decide)).pad (pad_rep [] (.int (0 : Int32)) 5)
    show own_Fin _ _ _ _ (T359.setTop (mkF m 76 #[iv p1, iv p2, iv p3, iv p4, iv p5, iv nn, rv al, rv sq, iv v8_358, .unset, .unset] [(.ref b359)]))
    refine own_go (XS.astore X359.here hx rfl (hb hby at_76) rfl rfl rfl (Steps.refl _)) ?_
    show own_Fin _ _ _ _ (T359.setTop (mkF m 78 #[iv p1, iv p2, iv p3, iv p4, iv p5, iv nn, rv al, rv sq, iv v8_358, rv b359, .unset] []))
    refine own_go (XS.aload X359.here hx rfl (hb hby at_78) rfl rfl (Steps.refl _)) ?_
    show own_Fin _ _ _ _ (T359.setTop (mkF m 80 #[iv p1, iv p2, iv p3, iv p4, iv p5, iv nn, rv al, rv sq, iv v8_358, rv b359, .unset] [(.ref b359)]))
    refine own_go (XS.iconst X359.here hx rfl (hb hby at_80) (Steps.refl _)) ?_
    show own_Fin _ _ _ _ (T359.setTop (mkF m 81 #[iv p1, iv p2, iv p3, iv p4, iv p5, iv nn, rv al, rv sq, iv v8_358, rv b359, .unset] [(.int (0 : Int32)), (.ref b359)]))
    refine own_go (XS.iconst X359.here hx rfl (hb hby at_81) (Steps.refl _)) ?_
    show own_Fin _ _ _ _ (T359.setTop (mkF m 82 #[iv p1, iv p2, iv p3, iv p4, iv p5, iv nn, rv al, rv sq, iv v8_358, rv b359, .unset] [(.int (-1 : Int32)), (.int (0 : Int32)), (.ref b359)]))
    obtain ⟨cl360, Ar360, qa360, Sa360, Na360, Ha360, Ga360⟩ := id V_b359
    have hin360 : ¬ ((0 : Int32) < 0 ∨ cl360.slots.size ≤ ((0 : Int32)).toNatClampNeg) := inb_of Sa360 ⟨by decide, by decide⟩
    obtain ⟨T361, h361, X361, e361, W361, st361⟩ := stI X359 hx hZj357 e359 Ar360 (j := (0 : Int32)) hin360 (g := (mkF m 82 #[iv p1, iv p2, iv p3, iv p4, iv p5, iv nn, rv al, rv sq, iv v8_358, rv b359, .unset] [(.int (-1 : Int32)), (.int (0 : Int32)), (.ref b359)])) rfl rfl (hb hby at_82)
    refine own_by st361 ?_
    have V_b359_361 : Arv Z h361 b359 k359 .int (5 : Int32) [(.int (-1 : Int32)), (.int (0 : Int32)), (.int (0 : Int32)), (.int (0 : Int32)), (.int (0 : Int32))] (.int (0 : Int32)) := Arv.set Ar360 qa360 Sa360 Na360 Ha360 Ga360 rfl W361 0 rfl (Nat.le_of_ble_eq_true rfl)
    have E_sq_361 := E_sq_359.wr W361
    have F_ids_sq_361 := F_ids_sq_359.other W361 (Or.inl ne_sq_b359)
    have F_none_sq_361 := F_none_sq_359.other W361 (Or.inl ne_sq_b359)
    have F_following_sq_361 := F_following_sq_359.other W361 (Or.inl ne_sq_b359)
    have F_last_sq_361 := F_last_sq_359.other W361 (Or.inl ne_sq_b359)
    have V_bi_361 := V_bi_359.other W361 ne_bi_b359
    have V_bf_361 := V_bf_359.other W361 ne_bf_b359
    have N361 := Fr.snoc X361 Nj357 g_b359
    have Z361 : n0 ≤ h361.size := Nat.le_trans Z359 (Keep.of_wr W361).1
    have hk361 : kj357 ≤ h361.size := Nat.le_trans hk359 (Keep.of_wr W361).1
    show own_Fin _ _ _ _ (T361.setTop (mkF m 83 #[iv p1, iv p2, iv p3, iv p4, iv p5, iv nn, rv al, rv sq, iv v8_358, rv b359, .unset] []))
    refine own_go (XS.aload X361.here hx rfl (hb hby at_83) rfl rfl (Steps.refl _)) ?_
    show own_Fin _ _ _ _ (T361.setTop (mkF m 85 #[iv p1, iv p2, iv p3, iv p4, iv p5, iv nn, rv al, rv sq, iv v8_358, rv b359, .unset] [(.ref b359)]))
    refine own_go (XS.iconst X361.here hx rfl (hb hby at_85) (Steps.refl _)) ?_
    show own_Fin _ _ _ _ (T361.setTop (mkF m 86 #[iv p1, iv p2, iv p3, iv p4, iv p5, iv nn, rv al, rv sq, iv v8_358, rv b359, .unset] [(.int (1 : Int32)), (.ref b359)]))
    refine own_go (XS.iloadN X361.here hx rfl (hb hby at_86) rfl (Steps.refl _)) ?_
    show own_Fin _ _ _ _ (T361.setTop (mkF m 87 #[iv p1, iv p2, iv p3, iv p4, iv p5, iv nn, rv al, rv sq, iv v8_358, rv b359, .unset] [(.int p2), (.int (1 : Int32)), (.ref b359)]))
    refine own_go (XS.iload X361.here hx rfl (hb hby at_87) rfl (Steps.refl _)) ?_
    show own_Fin _ _ _ _ (T361.setTop (mkF m 89 #[iv p1, iv p2, iv p3, iv p4, iv p5, iv nn, rv al, rv sq, iv v8_358, rv b359, .unset] [(.int v8_358), (.int p2), (.int (1 : Int32)), (.ref b359)]))
    obtain ⟨_, _, ⟨T362, L362, k362, n362⟩, -, X362, ⟨Lc362, hQ362, l362, y362, z362⟩, st362⟩ := Jvm.LawKit.callS X361 hx (y := (⟨"com/example/gridtally/gridtally/casefile/IdSequenceNamedPinLaw", "pos", "(II)I"⟩ : MethodName)) hownj357 (mvT hZj357 (hw _ (List.mem_of_getElem? (i := 59) rfl))) (mvT hZj357 (hw _ (List.mem_of_getElem? (i := 60) rfl))) (mvT hZj357 (hw _ (List.mem_of_getElem? (i := 61) rfl))) (mvT hZj357 (hw _ (List.mem_of_getElem? (i := 62) rfl))) (by decide) (backOf (W := 2) (rmpos l Z a0 hw [] p2 v8_358 h361 n0 Z361 (by rw [← hz_v8_358]; exact own_nz hnn)) hZj357 (hw _ (List.mem_of_getElem? (i := 62) rfl)) (hw _ (List.mem_of_getElem? (i := 61) rfl)) (by decide) (by decide)) (g := (mkF m 89 #[iv p1, iv p2, iv p3, iv p4, iv p5, iv nn, rv al, rv sq, iv v8_358, rv b359, .unset] [(.int v8_358), (.int p2), (.int (1 : Int32)), (.ref b359)])) rfl (by rw [hml]; rfl) (argsL := [(.int p2), (.int v8_358)]) (rest := [(.int (1 : Int32)), (.ref b359)]) (lenOf pd__28_II_29_I rfl) rfl (by show 2 * 0 + _ ≤ _; exact Nat.le_of_eq rfl) (hb hby at_89) (fun _ _ => ⟨rfl, e361, (by decide : 25 + 0 ≤ _), (by decide : 205 + 0 ≤ _)⟩)
    dsimp only [Pt.U, Pt.locs, Pt.cells, Pt.slots] at X362 l362 y362 z362 st362 hQ362
    subst l362 y362 z362
    obtain ⟨rfl, Nq362, e362⟩ := hQ362
    refine own_by st362 ?_
    have N362 := Fr.app N361 Nq362
    show own_Fin _ _ _ _ (T362.setTop (mkF m 92 #[iv p1, iv p2, iv p3, iv p4, iv p5, iv nn, rv al, rv sq, iv v8_358, rv b359, .unset] [(.int (own_pm p2 v8_358)), (.int (1 : Int32)), (.ref b359)]))
    generalize hz_pp363 : (own_pm p2 v8_358) = pp363
    have hR_pp363 : own_R nn pp363 := by rw [← hz_pp363, ← hz_v8_358]; exact own_pmR hnn _
    obtain ⟨cl364, Ar364, qa364, Sa364, Na364, Ha364, Ga364⟩ := id V_b359_361
    have hin364 : ¬ ((1 : Int32) < 0 ∨ cl364.slots.size ≤ ((1 : Int32)).toNatClampNeg) := inb_of Sa364 ⟨by decide, by decide⟩
    obtain ⟨T365, h365, X365, e365, W365, st365⟩ := stI X362 hx hZj357 e362 Ar364 (j := (1 : Int32)) hin364 (g := (mkF m 92 #[iv p1, iv p2, iv p3, iv p4, iv p5, iv nn, rv al, rv sq, iv v8_358, rv b359, .unset] [(.int pp363), (.int (1 : Int32)), (.ref b359)])) rfl rfl (hb hby at_92)
    refine own_by st365 ?_
    have V_b359_365 : Arv Z h365 b359 k359 .int (5 : Int32) [(.int (-1 : Int32)), (.int pp363), (.int (0 : Int32)), (.int (0 : Int32)), (.int (0 : Int32))] (.int (0 : Int32)) := Arv.set Ar364 qa364 Sa364 Na364 Ha364 Ga364 rfl W365 1 rfl (Nat.le_of_ble_eq_true rfl)
    have E_sq_365 := E_sq_361.wr W365
    have F_ids_sq_365 := F_ids_sq_361.other W365 (Or.inl ne_sq_b359)
    have F_none_sq_365 := F_none_sq_361.other W365 (Or.inl ne_sq_b359)
    have F_following_sq_365 := F_following_sq_361.other W365 (Or.inl ne_sq_b359)
    have F_last_sq_365 := F_last_sq_361.other W365 (Or.inl ne_sq_b359)
    have V_bi_365 := V_bi_361.other W365 ne_bi_b359
    have V_bf_365 := V_bf_361.other W365 ne_bf_b359
    have N365 := Fr.snoc X365 N362 g_b359
    have Z365 : n0 ≤ h365.size := Nat.le_trans Z361 (Keep.of_wr W365).1
    have hk365 : kj357 ≤ h365.size := Nat.le_trans hk361 (Keep.of_wr W365).1
    show own_Fin _ _ _ _ (T365.setTop (mkF m 93 #[iv p1, iv p2, iv p3, iv p4, iv p5, iv nn, rv al, rv sq, iv v8_358, rv b359, .unset] []))
    refine own_go (XS.aload X365.here hx rfl (hb hby at_93) rfl rfl (Steps.refl _)) ?_
    show own_Fin _ _ _ _ (T365.setTop (mkF m 95 #[iv p1, iv p2, iv p3, iv p4, iv p5, iv nn, rv al, rv sq, iv v8_358, rv b359, .unset] [(.ref b359)]))
    refine own_go (XS.iconst X365.here hx rfl (hb hby at_95) (Steps.refl _)) ?_
    show own_Fin _ _ _ _ (T365.setTop (mkF m 96 #[iv p1, iv p2, iv p3, iv p4, iv p5, iv nn, rv al, rv sq, iv v8_358, rv b359, .unset] [(.int (2 : Int32)), (.ref b359)]))
    refine own_go (XS.iloadN X365.here hx rfl (hb hby at_96) rfl (Steps.refl _)) ?_
    show own_Fin _ _ _ _ (T365.setTop (mkF m 97 #[iv p1, iv p2, iv p3, iv p4, iv p5, iv nn, rv al, rv sq, iv v8_358, rv b359, .unset] [(.int p3), (.int (2 : Int32)), (.ref b359)]))
    refine own_go (XS.iload X365.here hx rfl (hb hby at_97) rfl (Steps.refl _)) ?_
    show own_Fin _ _ _ _ (T365.setTop (mkF m 99 #[iv p1, iv p2, iv p3, iv p4, iv p5, iv nn, rv al, rv sq, iv v8_358, rv b359, .unset] [(.int v8_358), (.int p3), (.int (2 : Int32)), (.ref b359)]))
    obtain ⟨_, _, ⟨T366, L366, k366, n366⟩, -, X366, ⟨Lc366, hQ366, l366, y366, z366⟩, st366⟩ := Jvm.LawKit.callS X365 hx (y := (⟨"com/example/gridtally/gridtally/casefile/IdSequenceNamedPinLaw", "pos", "(II)I"⟩ : MethodName)) hownj357 (mvT hZj357 (hw _ (List.mem_of_getElem? (i := 59) rfl))) (mvT hZj357 (hw _ (List.mem_of_getElem? (i := 60) rfl))) (mvT hZj357 (hw _ (List.mem_of_getElem? (i := 61) rfl))) (mvT hZj357 (hw _ (List.mem_of_getElem? (i := 62) rfl))) (by decide) (backOf (W := 2) (rmpos l Z a0 hw [] p3 v8_358 h365 n0 Z365 (by rw [← hz_v8_358]; exact own_nz hnn)) hZj357 (hw _ (List.mem_of_getElem? (i := 62) rfl)) (hw _ (List.mem_of_getElem? (i := 61) rfl)) (by decide) (by decide)) (g := (mkF m 99 #[iv p1, iv p2, iv p3, iv p4, iv p5, iv nn, rv al, rv sq, iv v8_358, rv b359, .unset] [(.int v8_358), (.int p3), (.int (2 : Int32)), (.ref b359)])) rfl (by rw [hml]; rfl) (argsL := [(.int p3), (.int v8_358)]) (rest := [(.int (2 : Int32)), (.ref b359)]) (lenOf pd__28_II_29_I rfl) rfl (by show 2 * 0 + _ ≤ _; exact Nat.le_of_eq rfl) (hb hby at_99) (fun _ _ => ⟨rfl, e365, (by decide : 25 + 0 ≤ _), (by decide : 205 + 0 ≤ _)⟩)
    dsimp only [Pt.U, Pt.locs, Pt.cells, Pt.slots] at X366 l366 y366 z366 st366 hQ366
    subst l366 y366 z366
    obtain ⟨rfl, Nq366, e366⟩ := hQ366
    refine own_by st366 ?_
    have N366 := Fr.app N365 Nq366
    show own_Fin _ _ _ _ (T366.setTop (mkF m 102 #[iv p1, iv p2, iv p3, iv p4, iv p5, iv nn, rv al, rv sq, iv v8_358, rv b359, .unset] [(.int (own_pm p3 v8_358)), (.int (2 : Int32)), (.ref b359)]))
    generalize hz_pp367 : (own_pm p3 v8_358) = pp367
    have hR_pp367 : own_R nn pp367 := by rw [← hz_pp367, ← hz_v8_358]; exact own_pmR hnn _
    obtain ⟨cl368, Ar368, qa368, Sa368, Na368, Ha368, Ga368⟩ := id V_b359_365
    have hin368 : ¬ ((2 : Int32) < 0 ∨ cl368.slots.size ≤ ((2 : Int32)).toNatClampNeg) := inb_of Sa368 ⟨by decide, by decide⟩
    obtain ⟨T369, h369, X369, e369, W369, st369⟩ := stI X366 hx hZj357 e366 Ar368 (j := (2 : Int32)) hin368 (g := (mkF m 102 #[iv p1, iv p2, iv p3, iv p4, iv p5, iv nn, rv al, rv sq, iv v8_358, rv b359, .unset] [(.int pp367), (.int (2 : Int32)), (.ref b359)])) rfl rfl (hb hby at_102)
    refine own_by st369 ?_
    have V_b359_369 : Arv Z h369 b359 k359 .int (5 : Int32) [(.int (-1 : Int32)), (.int pp363), (.int pp367), (.int (0 : Int32)), (.int (0 : Int32))] (.int (0 : Int32)) := Arv.set Ar368 qa368 Sa368 Na368 Ha368 Ga368 rfl W369 2 rfl (Nat.le_of_ble_eq_true rfl)
    have E_sq_369 := E_sq_365.wr W369
    have F_ids_sq_369 := F_ids_sq_365.other W369 (Or.inl ne_sq_b359)
    have F_none_sq_369 := F_none_sq_365.other W369 (Or.inl ne_sq_b359)
    have F_following_sq_369 := F_following_sq_365.other W369 (Or.inl ne_sq_b359)
    have F_last_sq_369 := F_last_sq_365.other W369 (Or.inl ne_sq_b359)
    have V_bi_369 := V_bi_365.other W369 ne_bi_b359
    have V_bf_369 := V_bf_365.other W369 ne_bf_b359
    have N369 := Fr.snoc X369 N366 g_b359
    have Z369 : n0 ≤ h369.size := Nat.le_trans Z365 (Keep.of_wr W369).1
    have hk369 : kj357 ≤ h369.size := Nat.le_trans hk365 (Keep.of_wr W369).1
    show own_Fin _ _ _ _ (T369.setTop (mkF m 103 #[iv p1, iv p2, iv p3, iv p4, iv p5, iv nn, rv al, rv sq, iv v8_358, rv b359, .unset] []))
    refine own_go (XS.aload X369.here hx rfl (hb hby at_103) rfl rfl (Steps.refl _)) ?_
    show own_Fin _ _ _ _ (T369.setTop (mkF m 105 #[iv p1, iv p2, iv p3, iv p4, iv p5, iv nn, rv al, rv sq, iv v8_358, rv b359, .unset] [(.ref b359)]))
    refine own_go (XS.iconst X369.here hx rfl (hb hby at_105) (Steps.refl _)) ?_
    show own_Fin _ _ _ _ (T369.setTop (mkF m 106 #[iv p1, iv p2, iv p3, iv p4, iv p5, iv nn, rv al, rv sq, iv v8_358, rv b359, .unset] [(.int (3 : Int32)), (.ref b359)]))
    refine own_go (XS.iloadN X369.here hx rfl (hb hby at_106) rfl (Steps.refl _)) ?_
    show own_Fin _ _ _ _ (T369.setTop (mkF m 107 #[iv p1, iv p2, iv p3, iv p4, iv p5, iv nn, rv al, rv sq, iv v8_358, rv b359, .unset] [(.int p4), (.int (3 : Int32)), (.ref b359)]))
    refine own_go (XS.iload X369.here hx rfl (hb hby at_107) rfl (Steps.refl _)) ?_
    show own_Fin _ _ _ _ (T369.setTop (mkF m 109 #[iv p1, iv p2, iv p3, iv p4, iv p5, iv nn, rv al, rv sq, iv v8_358, rv b359, .unset] [(.int v8_358), (.int p4), (.int (3 : Int32)), (.ref b359)]))
    obtain ⟨_, _, ⟨T370, L370, k370, n370⟩, -, X370, ⟨Lc370, hQ370, l370, y370, z370⟩, st370⟩ := Jvm.LawKit.callS X369 hx (y := (⟨"com/example/gridtally/gridtally/casefile/IdSequenceNamedPinLaw", "pos", "(II)I"⟩ : MethodName)) hownj357 (mvT hZj357 (hw _ (List.mem_of_getElem? (i := 59) rfl))) (mvT hZj357 (hw _ (List.mem_of_getElem? (i := 60) rfl))) (mvT hZj357 (hw _ (List.mem_of_getElem? (i := 61) rfl))) (mvT hZj357 (hw _ (List.mem_of_getElem? (i := 62) rfl))) (by decide) (backOf (W := 2) (rmpos l Z a0 hw [] p4 v8_358 h369 n0 Z369 (by rw [← hz_v8_358]; exact own_nz hnn)) hZj357 (hw _ (List.mem_of_getElem? (i := 62) rfl)) (hw _ (List.mem_of_getElem? (i := 61) rfl)) (by decide) (by decide)) (g := (mkF m 109 #[iv p1, iv p2, iv p3, iv p4, iv p5, iv nn, rv al, rv sq, iv v8_358, rv b359, .unset] [(.int v8_358), (.int p4), (.int (3 : Int32)), (.ref b359)])) rfl (by rw [hml]; rfl) (argsL := [(.int p4), (.int v8_358)]) (rest := [(.int (3 : Int32)), (.ref b359)]) (lenOf pd__28_II_29_I rfl) rfl (by show 2 * 0 + _ ≤ _; exact Nat.le_of_eq rfl) (hb hby at_109) (fun _ _ => ⟨rfl, e369, (by decide : 25 + 0 ≤ _), (by decide : 205 + 0 ≤ _)⟩)
    dsimp only [Pt.U, Pt.locs, Pt.cells, Pt.slots] at X370 l370 y370 z370 st370 hQ370
    subst l370 y370 z370
    obtain ⟨rfl, Nq370, e370⟩ := hQ370
    refine own_by st370 ?_
    have N370 := Fr.app N369 Nq370
    show own_Fin _ _ _ _ (T370.setTop (mkF m 112 #[iv p1, iv p2, iv p3, iv p4, iv p5, iv nn, rv al, rv sq, iv v8_358, rv b359, .unset] [(.int (own_pm p4 v8_358)), (.int (3 : Int32)), (.ref b359)]))
    generalize hz_pp371 : (own_pm p4 v8_358) = pp371
    have hR_pp371 : own_R nn pp371 := by rw [← hz_pp371, ← hz_v8_358]; exact own_pmR hnn _
    obtain ⟨cl372, Ar372, qa372, Sa372, Na372, Ha372, Ga372⟩ := id V_b359_369
    have hin372 : ¬ ((3 : Int32) < 0 ∨ cl372.slots.size ≤ ((3 : Int32)).toNatClampNeg) := inb_of Sa372 ⟨by decide, by decide⟩
    obtain ⟨T373, h373, X373, e373, W373, st373⟩ := stI X370 hx hZj357 e370 Ar372 (j := (3 : Int32)) hin372 (g := (mkF m 112 #[iv p1, iv p2, iv p3, iv p4, iv p5, iv nn, rv al, rv sq, iv v8_358, rv b359, .unset] [(.int pp371), (.int (3 : Int32)), (.ref b359)])) rfl rfl (hb hby at_112)
    refine own_by st373 ?_
    have V_b359_373 : Arv Z h373 b359 k359 .int (5 : Int32) [(.int (-1 : Int32)), (.int pp363), (.int pp367), (.int pp371), (.int (0 : Int32))] (.int (0 : Int32)) := Arv.set Ar372 qa372 Sa372 Na372 Ha372 Ga372 rfl W373 3 rfl (Nat.le_of_ble_eq_true rfl)
    have E_sq_373 := E_sq_369.wr W373
    have F_ids_sq_373 := F_ids_sq_369.other W373 (Or.inl ne_sq_b359)
    have F_none_sq_373 := F_none_sq_369.other W373 (Or.inl ne_sq_b359)
    have F_following_sq_373 := F_following_sq_369.other W373 (Or.inl ne_sq_b359)
    have F_last_sq_373 := F_last_sq_369.other W373 (Or.inl ne_sq_b359)
    have V_bi_373 := V_bi_369.other W373 ne_bi_b359
    have V_bf_373 := V_bf_369.other W373 ne_bf_b359
    have N373 := Fr.snoc X373 N370 g_b359
    have Z373 : n0 ≤ h373.size := Nat.le_trans Z369 (Keep.of_wr W373).1
    have hk373 : kj357 ≤ h373.size := Nat.le_trans hk369 (Keep.of_wr W373).1
    show own_Fin _ _ _ _ (T373.setTop (mkF m 113 #[iv p1, iv p2, iv p3, iv p4, iv p5, iv nn, rv al, rv sq, iv v8_358, rv b359, .unset] []))
    refine own_go (XS.aload X373.here hx rfl (hb hby at_113) rfl rfl (Steps.refl _)) ?_
    show own_Fin _ _ _ _ (T373.setTop (mkF m 115 #[iv p1, iv p2, iv p3, iv p4, iv p5, iv nn, rv al, rv sq, iv v8_358, rv b359, .unset] [(.ref b359)]))
    refine own_go (XS.iconst X373.here hx rfl (hb hby at_115) (Steps.refl _)) ?_
    show own_Fin _ _ _ _ (T373.setTop (mkF m 116 #[iv p1, iv p2, iv p3, iv p4, iv p5, iv nn, rv al, rv sq, iv v8_358, rv b359, .unset] [(.int (4 : Int32)), (.ref b359)]))
    refine own_go (XS.iload X373.here hx rfl (hb hby at_116) rfl (Steps.refl _)) ?_
    show own_Fin _ _ _ _ (T373.setTop (mkF m 118 #[iv p1, iv p2, iv p3, iv p4, iv p5, iv nn, rv al, rv sq, iv v8_358, rv b359, .unset] [(.int p5), (.int (4 : Int32)), (.ref b359)]))
    refine own_go (XS.iload X373.here hx rfl (hb hby at_118) rfl (Steps.refl _)) ?_
    show own_Fin _ _ _ _ (T373.setTop (mkF m 120 #[iv p1, iv p2, iv p3, iv p4, iv p5, iv nn, rv al, rv sq, iv v8_358, rv b359, .unset] [(.int v8_358), (.int p5), (.int (4 : Int32)), (.ref b359)]))
    obtain ⟨_, _, ⟨T374, L374, k374, n374⟩, -, X374, ⟨Lc374, hQ374, l374, y374, z374⟩, st374⟩ := Jvm.LawKit.callS X373 hx (y := (⟨"com/example/gridtally/gridtally/casefile/IdSequenceNamedPinLaw", "pos", "(II)I"⟩ : MethodName)) hownj357 (mvT hZj357 (hw _ (List.mem_of_getElem? (i := 59) rfl))) (mvT hZj357 (hw _ (List.mem_of_getElem? (i := 60) rfl))) (mvT hZj357 (hw _ (List.mem_of_getElem? (i := 61) rfl))) (mvT hZj357 (hw _ (List.mem_of_getElem? (i := 62) rfl))) (by decide) (backOf (W := 2) (rmpos l Z a0 hw [] p5 v8_358 h373 n0 Z373 (by rw [← hz_v8_358]; exact own_nz hnn)) hZj357 (hw _ (List.mem_of_getElem? (i := 62) rfl)) (hw _ (List.mem_of_getElem? (i := 61) rfl)) (by decide) (by decide)) (g := (mkF m 120 #[iv p1, iv p2, iv p3, iv p4, iv p5, iv nn, rv al, rv sq, iv v8_358, rv b359, .unset] [(.int v8_358), (.int p5), (.int (4 : Int32)), (.ref b359)])) rfl (by rw [hml]; rfl) (argsL := [(.int p5), (.int v8_358)]) (rest := [(.int (4 : Int32)), (.ref b359)]) (lenOf pd__28_II_29_I rfl) rfl (by show 2 * 0 + _ ≤ _; exact Nat.le_of_eq rfl) (hb hby at_120) (fun _ _ => ⟨rfl, e373, (by decide : 25 + 0 ≤ _), (by decide : 205 + 0 ≤ _)⟩)
    dsimp only [Pt.U, Pt.locs, Pt.cells, Pt.slots] at X374 l374 y374 z374 st374 hQ374
    subst l374 y374 z374
    obtain ⟨rfl, Nq374, e374⟩ := hQ374
    refine own_by st374 ?_
    have N374 := Fr.app N373 Nq374
    show own_Fin _ _ _ _ (T374.setTop (mkF m 123 #[iv p1, iv p2, iv p3, iv p4, iv p5, iv nn, rv al, rv sq, iv v8_358, rv b359, .unset] [(.int (own_pm p5 v8_358)), (.int (4 : Int32)), (.ref b359)]))
    generalize hz_pp375 : (own_pm p5 v8_358) = pp375
    have hR_pp375 : own_R nn pp375 := by rw [← hz_pp375, ← hz_v8_358]; exact own_pmR hnn _
    obtain ⟨cl376, Ar376, qa376, Sa376, Na376, Ha376, Ga376⟩ := id V_b359_373
    have hin376 : ¬ ((4 : Int32) < 0 ∨ cl376.slots.size ≤ ((4 : Int32)).toNatClampNeg) := inb_of Sa376 ⟨by decide, by decide⟩
    obtain ⟨T377, h377, X377, e377, W377, st377⟩ := stI X374 hx hZj357 e374 Ar376 (j := (4 : Int32)) hin376 (g := (mkF m 123 #[iv p1, iv p2, iv p3, iv p4, iv p5, iv nn, rv al, rv sq, iv v8_358, rv b359, .unset] [(.int pp375), (.int (4 : Int32)), (.ref b359)])) rfl rfl (hb hby at_123)
    refine own_by st377 ?_
    have V_b359_377 : Arv Z h377 b359 k359 .int (5 : Int32) [(.int (-1 : Int32)), (.int pp363), (.int pp367), (.int pp371), (.int pp375)] (.int (0 : Int32)) := Arv.set Ar376 qa376 Sa376 Na376 Ha376 Ga376 rfl W377 4 rfl (Nat.le_of_ble_eq_true rfl)
    have E_sq_377 := E_sq_373.wr W377
    have F_ids_sq_377 := F_ids_sq_373.other W377 (Or.inl ne_sq_b359)
    have F_none_sq_377 := F_none_sq_373.other W377 (Or.inl ne_sq_b359)
    have F_following_sq_377 := F_following_sq_373.other W377 (Or.inl ne_sq_b359)
    have F_last_sq_377 := F_last_sq_373.other W377 (Or.inl ne_sq_b359)
    have V_bi_377 := V_bi_373.other W377 ne_bi_b359
    have V_bf_377 := V_bf_373.other W377 ne_bf_b359
    have N377 := Fr.snoc X377 N374 g_b359
    have Z377 : n0 ≤ h377.size := Nat.le_trans Z373 (Keep.of_wr W377).1
    have hk377 : kj357 ≤ h377.size := Nat.le_trans hk373 (Keep.of_wr W377).1
    show own_Fin _ _ _ _ (T377.setTop (mkF m 124 #[iv p1, iv p2, iv p3, iv p4, iv p5, iv nn, rv al, rv sq, iv v8_358, rv b359, .unset] []))
    refine own_go (XS.aload X377.here hx rfl (hb hby at_124) rfl rfl (Steps.refl _)) ?_
    show own_Fin _ _ _ _ (T377.setTop (mkF m 126 #[iv p1, iv p2, iv p3, iv p4, iv p5, iv nn, rv al, rv sq, iv v8_358, rv b359, .unset] [(.ref sq)]))
    obtain ⟨cq378, kq378, q378a, q378b, q378c⟩ := isOf hZj357 e377 E_sq_377
    obtain ⟨_, _, ⟨T378, L378, k378, n378⟩, -, X378, ⟨Lc378, hQ378, l378, y378, z378⟩, st378⟩ := X377.virtualBack hx (y := (⟨"com/example/gridtally/gridtally/casefile/IdSequence", "nextExpected", "()I"⟩ : MethodName)) (z := (⟨"com/example/gridtally/gridtally/casefile/IdSequence", "nextExpected", "()I"⟩ : MethodName)) hownj357 (mvT hZj357 (hw _ (List.mem_of_getElem? (i := 64) rfl))) (mvT hZj357 (hw _ (List.mem_of_getElem? (i := 65) rfl))) (notFace_of_selects (args := #[]) (mvT hZj357 (hw _ (List.mem_of_getElem? (i := 67) rfl)))) (mvT hZj357 (hw _ (List.mem_of_getElem? (i := 67) rfl))) (mvT hZj357 (hw _ (List.mem_of_getElem? (i := 66) rfl))) (by decide) (backOf (W := 0) (rmnext l Z a0 hw [] sq bi ki vsI bf kf (nn + (1 : Int32)) nn nn (own_rs0 nn) h377 n0 Z377 F_ids_sq_377 F_none_sq_377 F_following_sq_377 F_last_sq_377 V_bi_377 V_bf_377 (own_nb hnn).1 (own_nb hnn).2.1) hZj357 (hw _ (List.mem_of_getElem? (i := 68) rfl)) (hw _ (List.mem_of_getElem? (i := 28) rfl)) (by decide) (by decide)) q378a q378c (g := (mkF m 126 #[iv p1, iv p2, iv p3, iv p4, iv p5, iv nn, rv al, rv sq, iv v8_358, rv b359, .unset] [(.ref sq)])) rfl (by rw [hml]; rfl) (Steps.refl _) (argsL := []) (rest := []) (lenOf pd__28__29_I rfl) rfl (by show 2 * 0 + _ ≤ _; exact Nat.le_of_eq rfl) (hb hby at_126) (fun _ _ => ⟨rfl, e377, (by decide : 25 + 0 ≤ _), (by decide : 205 + 0 ≤ _)⟩)
    dsimp only [Pt.U, Pt.locs, Pt.cells, Pt.slots] at X378 l378 y378 z378 st378 hQ378
    subst l378 y378 z378
    obtain ⟨rfl, Nq378, e378⟩ := hQ378
    refine own_go st378 ?_
    have N378 := Fr.app N377 Nq378
    show own_Fin _ _ _ _ (T378.setTop (mkF m 129 #[iv p1, iv p2, iv p3, iv p4, iv p5, iv nn, rv al, rv sq, iv v8_358, rv b359, .unset] [(.int (own_next nn (own_get (own_rs0 nn) nn)))]))
    have di379 : Steps p.tables e below (T378.setTop (mkF m 129 #[iv p1, iv p2, iv p3, iv p4, iv p5, iv nn, rv al, rv sq, iv v8_358, rv b359, .unset] [(.int (own_next nn (own_get (own_rs0 nn) nn)))])) (T378.setTop (mkF m 139 #[iv p1, iv p2, iv p3, iv p4, iv p5, iv nn, rv al, rv sq, iv v8_358, rv b359, .unset] [(.int (own_i0 nn)), (.int (own_next nn (own_get (own_rs0 nn) nn)))])) := by
      refine XS.iload X378.here hx rfl (hb hby at_129) rfl ?_
      show Steps _ _ _ (T378.setTop (mkF m 131 #[iv p1, iv p2, iv p3, iv p4, iv p5, iv nn, rv al, rv sq, iv v8_358, rv b359, .unset] [(.int nn), (.int (own_next nn (own_get (own_rs0 nn) nn)))])) _
      by_cases c131_380 : (0 : Int32) < nn
      · refine XS.ifNo X378.here hx rfl (hb hby at_131) rfl ((if0 _ _).trans (tlt c131_380).2.2.2) ?_
        show Steps _ _ _ (T378.setTop (mkF m 134 #[iv p1, iv p2, iv p3, iv p4, iv p5, iv nn, rv al, rv sq, iv v8_358, rv b359, .unset] [(.int (own_next nn (own_get (own_rs0 nn) nn)))])) _
        refine XS.iconst X378.here hx rfl (hb hby at_134) ?_
        show Steps _ _ _ (T378.setTop (mkF m 135 #[iv p1, iv p2, iv p3, iv p4, iv p5, iv nn, rv al, rv sq, iv v8_358, rv b359, .unset] [(.int (0 : Int32)), (.int (own_next nn (own_get (own_rs0 nn) nn)))])) _
        refine XS.goto X378.here hx rfl (pc0 := 135) (pc' := 139) rfl (hb hby at_135) (by decide) (by decide) ?_
        show Steps _ _ _ (T378.setTop (mkF m 139 #[iv p1, iv p2, iv p3, iv p4, iv p5, iv nn, rv al, rv sq, iv v8_358, rv b359, .unset] [(.int (0 : Int32)), (.int (own_next nn (own_get (own_rs0 nn) nn)))])) _
        rw [show (own_i0 nn) = (0 : Int32) from by simp [own_i0, c131_380]]; exact Steps.refl _
      · refine XS.ifYes X378.here hx rfl (pc0 := 131) (pc' := 138) rfl (hb hby at_131) rfl ((if0 _ _).trans (flt c131_380).2.2.2) (by decide) (by decide) ?_
        show Steps _ _ _ (T378.setTop (mkF m 138 #[iv p1, iv p2, iv p3, iv p4, iv p5, iv nn, rv al, rv sq, iv v8_358, rv b359, .unset] [(.int (own_next nn (own_get (own_rs0 nn) nn)))])) _
        refine XS.iconst X378.here hx rfl (hb hby at_138) ?_
        show Steps _ _ _ (T378.setTop (mkF m 139 #[iv p1, iv p2, iv p3, iv p4, iv p5, iv nn, rv al, rv sq, iv v8_358, rv b359, .unset] [(.int (-1 : Int32)), (.int (own_next nn (own_get (own_rs0 nn) nn)))])) _
        rw [show (own_i0 nn) = (-1 : Int32) from by simp [own_i0, c131_380]]; exact Steps.refl _
    refine own_go di379 ?_
    show own_Fin _ _ _ _ (T378.setTop (mkF m 139 #[iv p1, iv p2, iv p3, iv p4, iv p5, iv nn, rv al, rv sq, iv v8_358, rv b359, .unset] [(.int (own_i0 nn)), (.int (own_next nn (own_get (own_rs0 nn) nn)))]))
    refine own_go (XS.icmpNo X378.here hx rfl (hb hby at_139) rfl (teq (show (own_next nn (own_get (own_rs0 nn) nn)) = (own_i0 nn) from (own_eqs hnn hR_pp363 hR_pp367 hR_pp371 hR_pp375).1)).2 (Steps.refl _)) ?_
    show own_Fin _ _ _ _ (T378.setTop (mkF m 142 #[iv p1, iv p2, iv p3, iv p4, iv p5, iv nn, rv al, rv sq, iv v8_358, rv b359, .unset] []))
    refine own_go (XS.iconst X378.here hx rfl (hb hby at_142) (Steps.refl _)) ?_
    show own_Fin _ _ _ _ (T378.setTop (mkF m 143 #[iv p1, iv p2, iv p3, iv p4, iv p5, iv nn, rv al, rv sq, iv v8_358, rv b359, .unset] [(.int (1 : Int32))]))
    refine own_go (XS.goto X378.here hx rfl (pc0 := 143) (pc' := 147) rfl (hb hby at_143) (by decide) (by decide) (Steps.refl _)) ?_
    show own_Fin _ _ _ _ (T378.setTop (mkF m 147 #[iv p1, iv p2, iv p3, iv p4, iv p5, iv nn, rv al, rv sq, iv v8_358, rv b359, .unset] [(.int (1 : Int32))]))
    refine own_go (XS.istore X378.here hx rfl (hb hby at_147) rfl rfl (Steps.refl _)) ?_
    show own_Fin _ _ _ _ (T378.setTop (mkF m 149 #[iv p1, iv p2, iv p3, iv p4, iv p5, iv nn, rv al, rv sq, iv v8_358, rv b359, iv (1 : Int32)] []))
    refine own_go (XS.aload X378.here hx rfl (hb hby at_149) rfl rfl (Steps.refl _)) ?_
    show own_Fin _ _ _ _ (T378.setTop (mkF m 151 #[iv p1, iv p2, iv p3, iv p4, iv p5, iv nn, rv al, rv sq, iv v8_358, rv b359, iv (1 : Int32)] [(.ref sq)]))
    refine own_go (XS.aload X378.here hx rfl (hb hby at_151) rfl rfl (Steps.refl _)) ?_
    show own_Fin _ _ _ _ (T378.setTop (mkF m 153 #[iv p1, iv p2, iv p3, iv p4, iv p5, iv nn, rv al, rv sq, iv v8_358, rv b359, iv (1 : Int32)] [(.ref b359), (.ref sq)]))
    refine own_go (XS.iconst X378.here hx rfl (hb hby at_153) (Steps.refl _)) ?_
    show own_Fin _ _ _ _ (T378.setTop (mkF m 154 #[iv p1, iv p2, iv p3, iv p4, iv p5, iv nn, rv al, rv sq, iv v8_358, rv b359, iv (1 : Int32)] [(.int (1 : Int32)), (.ref b359), (.ref sq)]))
    obtain ⟨cl381, Ar381, qa381, Sa381, Na381, Ha381, Ga381⟩ := id V_b359_377
    have hin381 : ¬ ((1 : Int32) < 0 ∨ cl381.slots.size ≤ ((1 : Int32)).toNatClampNeg) := inb_of Sa381 ⟨by decide, by decide⟩
    have hat381 : cl381.slots[((1 : Int32)).toNatClampNeg]? = some (.int pp363) := Has.at Ha381 hin381 rfl
    refine own_by (X378.iaload hx (j := (1 : Int32)) (v := (.int pp363)) (by rw [e378]; exact Ar381.1) (State.isArrayOf_alike hZj357.alike Ar381.2.1) Ar381.2.2 hin381 hat381 (g := (mkF m 154 #[iv p1, iv p2, iv p3, iv p4, iv p5, iv nn, rv al, rv sq, iv v8_358, rv b359, iv (1 : Int32)] [(.int (1 : Int32)), (.ref b359), (.ref sq)])) rfl rfl (hb hby at_154)) ?_
    show own_Fin _ _ _ _ (T378.setTop (mkF m 155 #[iv p1, iv p2, iv p3, iv p4, iv p5, iv nn, rv al, rv sq, iv v8_358, rv b359, iv (1 : Int32)] [(.int pp363), (.ref sq)]))
    obtain ⟨cq382, kq382, q382a, q382b, q382c⟩ := isOf hZj357 e378 E_sq_377
    obtain ⟨_, _, ⟨T382, L382, k382, n382⟩, -, X382, ⟨Lc382, hQ382, l382, y382, z382⟩, st382⟩ := X378.virtualBack hx (y := (⟨"com/example/gridtally/gridtally/casefile/IdSequence", "named", "(I)V"⟩ : MethodName)) (z := (⟨"com/example/gridtally/gridtally/casefile/IdSequence", "named", "(I)V"⟩ : MethodName)) hownj357 (mvT hZj357 (hw _ (List.mem_of_getElem? (i := 69) rfl))) (mvT hZj357 (hw _ (List.mem_of_getElem? (i := 70) rfl))) (notFace_of_selects (args := #[]) (mvT hZj357 (hw _ (List.mem_of_getElem? (i := 72) rfl)))) (mvT hZj357 (hw _ (List.mem_of_getElem? (i := 72) rfl))) (mvT hZj357 (hw _ (List.mem_of_getElem? (i := 71) rfl))) (by decide) (backOf (W := 0) (rmnamed l Z a0 hw [] sq bi ki vsI bf kf (nn + (1 : Int32)) nn nn (own_rs0 nn) pp363 h377 n0 Z377 E_sq_377 F_ids_sq_377 F_none_sq_377 F_following_sq_377 F_last_sq_377 V_bf_377 (own_nb hnn).1 (own_nb hnn).2.1 g_sq g_bf neqf (by first | exact (own_nb hnn).2.2 | (simp only [List.length_set]; exact (own_nb hnn).2.2))) hZj357 (hw _ (List.mem_of_getElem? (i := 73) rfl)) (hw _ (List.mem_of_getElem? (i := 28) rfl)) (by decide) (by decide)) q382a q382c (g := (mkF m 155 #[iv p1, iv p2, iv p3, iv p4, iv p5, iv nn, rv al, rv sq, iv v8_358, rv b359, iv (1 : Int32)] [(.int pp363), (.ref sq)])) rfl (by rw [hml]; rfl) (Steps.refl _) (argsL := [(.int pp363)]) (rest := []) (lenOf pd__28_I_29_V rfl) rfl (by show 2 * 0 + _ ≤ _; exact Nat.le_of_eq rfl) (hb hby at_155) (fun _ _ => ⟨rfl, e378, (by decide : 25 + 0 ≤ _), (by decide : 205 + 0 ≤ _)⟩)
    dsimp only [Pt.U, Pt.locs, Pt.cells, Pt.slots] at X382 l382 y382 z382 st382 hQ382
    subst l382 y382 z382
    refine own_go st382 ?_
    obtain ⟨rfl, Nq382, K382, r382_0, r382_1, r382_2, r382_3, r382_4, r382_5⟩ := hQ382
    have E_sq_382 := E_sq_377.keep K382
    have V_bi_382 := V_bi_377.keep K382 (ninS (Ne.symm neqi) (ninS neif nin0))
    have V_b359_382 := V_b359_377.keep K382 (ninS (Ne.symm ne_sq_b359) (ninS (Ne.symm ne_bf_b359) nin0))
    have Z382 : n0 ≤ T382.heap.size := Nat.le_trans Z377 K382.1
    have hk382 : kj357 ≤ T382.heap.size := Nat.le_trans hk377 K382.1
    have N382 := Fr.app N378 Nq382
    show own_Fin _ _ _ _ (T382.setTop (mkF m 158 #[iv p1, iv p2, iv p3, iv p4, iv p5, iv nn, rv al, rv sq, iv v8_358, rv b359, iv (1 : Int32)] []))
    refine own_go (XS.iload X382.here hx rfl (hb hby at_158) rfl (Steps.refl _)) ?_
    show own_Fin _ _ _ _ (T382.setTop (mkF m 160 #[iv p1, iv p2, iv p3, iv p4, iv p5, iv nn, rv al, rv sq, iv v8_358, rv b359, iv (1 : Int32)] [(.int (1 : Int32))]))
    refine own_go (XS.ifNo X382.here hx rfl (hb hby at_160) rfl ((if0 _ _).trans (feq (by decide : ¬ ((1 : Int32) = (0 : Int32)))).1) (Steps.refl _)) ?_
    show own_Fin _ _ _ _ (T382.setTop (mkF m 163 #[iv p1, iv p2, iv p3, iv p4, iv p5, iv nn, rv al, rv sq, iv v8_358, rv b359, iv (1 : Int32)] []))
    refine own_go (XS.aload X382.here hx rfl (hb hby at_163) rfl rfl (Steps.refl _)) ?_
    show own_Fin _ _ _ _ (T382.setTop (mkF m 165 #[iv p1, iv p2, iv p3, iv p4, iv p5, iv nn, rv al, rv sq, iv v8_358, rv b359, iv (1 : Int32)] [(.ref sq)]))
    obtain ⟨cq383, kq383, q383a, q383b, q383c⟩ := isOf hZj357 rfl r382_0
    obtain ⟨_, _, ⟨T383, L383, k383, n383⟩, -, X383, ⟨Lc383, hQ383, l383, y383, z383⟩, st383⟩ := X382.virtualBack hx (y := (⟨"com/example/gridtally/gridtally/casefile/IdSequence", "nextExpected", "()I"⟩ : MethodName)) (z := (⟨"com/example/gridtally/gridtally/casefile/IdSequence", "nextExpected", "()I"⟩ : MethodName)) hownj357 (mvT hZj357 (hw _ (List.mem_of_getElem? (i := 64) rfl))) (mvT hZj357 (hw _ (List.mem_of_getElem? (i := 65) rfl))) (notFace_of_selects (args := #[]) (mvT hZj357 (hw _ (List.mem_of_getElem? (i := 67) rfl)))) (mvT hZj357 (hw _ (List.mem_of_getElem? (i := 67) rfl))) (mvT hZj357 (hw _ (List.mem_of_getElem? (i := 66) rfl))) (by decide) (backOf (W := 0) (rmnext l Z a0 hw [] sq bi ki vsI bf kf (nn + (1 : Int32)) nn (own_key nn pp363) ((own_rs0 nn).set nn.toNatClampNeg pp363) T382.heap n0 Z382 r382_1 r382_2 r382_3 r382_4 V_bi_382 r382_5 (own_kb hnn hR_pp363).1 (own_kb hnn hR_pp363).2) hZj357 (hw _ (List.mem_of_getElem? (i := 68) rfl)) (hw _ (List.mem_of_getElem? (i := 28) rfl)) (by decide) (by decide)) q383a q383c (g := (mkF m 165 #[iv p1, iv p2, iv p3, iv p4, iv p5, iv nn, rv al, rv sq, iv v8_358, rv b359, iv (1 : Int32)] [(.ref sq)])) rfl (by rw [hml]; rfl) (Steps.refl _) (argsL := []) (rest := []) (lenOf pd__28__29_I rfl) rfl (by show 2 * 0 + _ ≤ _; exact Nat.le_of_eq rfl) (hb hby at_165) (fun _ _ => ⟨rfl, rfl, (by decide : 25 + 0 ≤ _), (by decide : 205 + 0 ≤ _)⟩)
    dsimp only [Pt.U, Pt.locs, Pt.cells, Pt.slots] at X383 l383 y383 z383 st383 hQ383
    subst l383 y383 z383
    obtain ⟨rfl, Nq383, e383⟩ := hQ383
    refine own_go st383 ?_
    have N383 := Fr.app N382 Nq383
    show own_Fin _ _ _ _ (T383.setTop (mkF m 168 #[iv p1, iv p2, iv p3, iv p4, iv p5, iv nn, rv al, rv sq, iv v8_358, rv b359, iv (1 : Int32)] [(.int (own_next nn (own_get ((own_rs0 nn).set nn.toNatClampNeg pp363) (own_key nn pp363))))]))
    refine own_go (XS.aload X383.here hx rfl (hb hby at_168) rfl rfl (Steps.refl _)) ?_
    show own_Fin _ _ _ _ (T383.setTop (mkF m 170 #[iv p1, iv p2, iv p3, iv p4, iv p5, iv nn, rv al, rv sq, iv v8_358, rv b359, iv (1 : Int32)] [(.ref b359), (.int (own_next nn (own_get ((own_rs0 nn).set nn.toNatClampNeg pp363) (own_key nn pp363))))]))
    refine own_go (XS.iconst X383.here hx rfl (hb hby at_170) (Steps.refl _)) ?_
    show own_Fin _ _ _ _ (T383.setTop (mkF m 171 #[iv p1, iv p2, iv p3, iv p4, iv p5, iv nn, rv al, rv sq, iv v8_358, rv b359, iv (1 : Int32)] [(.int (1 : Int32)), (.ref b359), (.int (own_next nn (own_get ((own_rs0 nn).set nn.toNatClampNeg pp363) (own_key nn pp363))))]))
    refine own_go (XS.iload X383.here hx rfl (hb hby at_171) rfl (Steps.refl _)) ?_
    show own_Fin _ _ _ _ (T383.setTop (mkF m 173 #[iv p1, iv p2, iv p3, iv p4, iv p5, iv nn, rv al, rv sq, iv v8_358, rv b359, iv (1 : Int32)] [(.int nn), (.int (1 : Int32)), (.ref b359), (.int (own_next nn (own_get ((own_rs0 nn).set nn.toNatClampNeg pp363) (own_key nn pp363))))]))
    obtain ⟨_, _, ⟨T384, L384, k384, n384⟩, -, X384, ⟨Lc384, hQ384, l384, y384, z384⟩, st384⟩ := Jvm.LawKit.callS X383 hx (y := (⟨"com/example/gridtally/gridtally/casefile/IdSequenceNamedPinLaw", "ref", "([III)I"⟩ : MethodName)) hownj357 (mvT hZj357 (hw _ (List.mem_of_getElem? (i := 74) rfl))) (mvT hZj357 (hw _ (List.mem_of_getElem? (i := 75) rfl))) (mvT hZj357 (hw _ (List.mem_of_getElem? (i := 61) rfl))) (mvT hZj357 (hw _ (List.mem_of_getElem? (i := 76) rfl))) (by decide) (backOf (W := 1) (rmref_1 l Z a0 hw [] b359 k359 (-1 : Int32) pp363 pp367 pp371 pp375 nn T382.heap n0 Z382 V_b359_382) hZj357 (hw _ (List.mem_of_getElem? (i := 76) rfl)) (hw _ (List.mem_of_getElem? (i := 61) rfl)) (by decide) (by decide)) (g := (mkF m 173 #[iv p1, iv p2, iv p3, iv p4, iv p5, iv nn, rv al, rv sq, iv v8_358, rv b359, iv (1 : Int32)] [(.int nn), (.int (1 : Int32)), (.ref b359), (.int (own_next nn (own_get ((own_rs0 nn).set nn.toNatClampNeg pp363) (own_key nn pp363))))])) rfl (by rw [hml]; rfl) (argsL := [(.ref b359), (.int (1 : Int32)), (.int nn)]) (rest := [(.int (own_next nn (own_get ((own_rs0 nn).set nn.toNatClampNeg pp363) (own_key nn pp363))))]) (lenOf pd__28__5b_III_29_I rfl) rfl (by show 2 * 0 + _ ≤ _; exact Nat.le_of_eq rfl) (hb hby at_173) (fun _ _ => ⟨rfl, e383, (by decide : 25 + 0 ≤ _), (by decide : 205 + 0 ≤ _)⟩)
    dsimp only [Pt.U, Pt.locs, Pt.cells, Pt.slots] at X384 l384 y384 z384 st384 hQ384
    subst l384 y384 z384
    obtain ⟨rfl, Nq384, e384⟩ := hQ384
    refine own_by st384 ?_
    have N384 := Fr.app N383 Nq384
    show own_Fin _ _ _ _ (T384.setTop (mkF m 176 #[iv p1, iv p2, iv p3, iv p4, iv p5, iv nn, rv al, rv sq, iv v8_358, rv b359, iv (1 : Int32)] [(.int (own_rf1 (-1 : Int32) pp363 nn)), (.int (own_next nn (own_get ((own_rs0 nn).set nn.toNatClampNeg pp363) (own_key nn pp363))))]))
    refine own_go (XS.icmpNo X384.here hx rfl (hb hby at_176) rfl (teq (show (own_next nn (own_get ((own_rs0 nn).set nn.toNatClampNeg pp363) (own_key nn pp363))) = (own_rf1 (-1 : Int32) pp363 nn) from (own_eqs hnn hR_pp363 hR_pp367 hR_pp371 hR_pp375).2.1)).2 (Steps.refl _)) ?_
    show own_Fin _ _ _ _ (T384.setTop (mkF m 179 #[iv p1, iv p2, iv p3, iv p4, iv p5, iv nn, rv al, rv sq, iv v8_358, rv b359, iv (1 : Int32)] []))
    refine own_go (XS.iconst X384.here hx rfl (hb hby at_179) (Steps.refl _)) ?_
    show own_Fin _ _ _ _ (T384.setTop (mkF m 180 #[iv p1, iv p2, iv p3, iv p4, iv p5, iv nn, rv al, rv sq, iv v8_358, rv b359, iv (1 : Int32)] [(.int (1 : Int32))]))
    refine own_go (XS.goto X384.here hx rfl (pc0 := 180) (pc' := 184) rfl (hb hby at_180) (by decide) (by decide) (Steps.refl _)) ?_
    show own_Fin _ _ _ _ (T384.setTop (mkF m 184 #[iv p1, iv p2, iv p3, iv p4, iv p5, iv nn, rv al, rv sq, iv v8_358, rv b359, iv (1 : Int32)] [(.int (1 : Int32))]))
    refine own_go (XS.istore X384.here hx rfl (hb hby at_184) rfl rfl (Steps.refl _)) ?_
    show own_Fin _ _ _ _ (T384.setTop (mkF m 186 #[iv p1, iv p2, iv p3, iv p4, iv p5, iv nn, rv al, rv sq, iv v8_358, rv b359, iv (1 : Int32)] []))
    refine own_go (XS.aload X384.here hx rfl (hb hby at_186) rfl rfl (Steps.refl _)) ?_
    show own_Fin _ _ _ _ (T384.setTop (mkF m 188 #[iv p1, iv p2, iv p3, iv p4, iv p5, iv nn, rv al, rv sq, iv v8_358, rv b359, iv (1 : Int32)] [(.ref sq)]))
    refine own_go (XS.aload X384.here hx rfl (hb hby at_188) rfl rfl (Steps.refl _)) ?_
    show own_Fin _ _ _ _ (T384.setTop (mkF m 190 #[iv p1, iv p2, iv p3, iv p4, iv p5, iv nn, rv al, rv sq, iv v8_358, rv b359, iv (1 : Int32)] [(.ref b359), (.ref sq)]))
    refine own_go (XS.iconst X384.here hx rfl (hb hby at_190) (Steps.refl _)) ?_
    show own_Fin _ _ _ _ (T384.setTop (mkF m 191 #[iv p1, iv p2, iv p3, iv p4, iv p5, iv nn, rv al, rv sq, iv v8_358, rv b359, iv (1 : Int32)] [(.int (2 : Int32)), (.ref b359), (.ref sq)]))
    obtain ⟨cl385, Ar385, qa385, Sa385, Na385, Ha385, Ga385⟩ := id V_b359_382
    have hin385 : ¬ ((2 : Int32) < 0 ∨ cl385.slots.size ≤ ((2 : Int32)).toNatClampNeg) := inb_of Sa385 ⟨by decide, by decide⟩
    have hat385 : cl385.slots[((2 : Int32)).toNatClampNeg]? = some (.int pp367) := Has.at Ha385 hin385 rfl
    refine own_by (X384.iaload hx (j := (2 : Int32)) (v := (.int pp367)) (by rw [e384]; exact Ar385.1) (State.isArrayOf_alike hZj357.alike Ar385.2.1) Ar385.2.2 hin385 hat385 (g := (mkF m 191 #[iv p1, iv p2, iv p3, iv p4, iv p5, iv nn, rv al, rv sq, iv v8_358, rv b359, iv (1 : Int32)] [(.int (2 : Int32)), (.ref b359), (.ref sq)])) rfl rfl (hb hby at_191)) ?_
    show own_Fin _ _ _ _ (T384.setTop (mkF m 192 #[iv p1, iv p2, iv p3, iv p4, iv p5, iv nn, rv al, rv sq, iv v8_358, rv b359, iv (1 : Int32)] [(.int pp367), (.ref sq)]))
    obtain ⟨cq386, kq386, q386a, q386b, q386c⟩ := isOf hZj357 e384 r382_0
    obtain ⟨_, _, ⟨T386, L386, k386, n386⟩, -, X386, ⟨Lc386, hQ386, l386, y386, z386⟩, st386⟩ := X384.virtualBack hx (y := (⟨"com/example/gridtally/gridtally/casefile/IdSequence", "named", "(I)V"⟩ : MethodName)) (z := (⟨"com/example/gridtally/gridtally/casefile/IdSequence", "named", "(I)V"⟩ : MethodName)) hownj357 (mvT hZj357 (hw _ (List.mem_of_getElem? (i := 69) rfl))) (mvT hZj357 (hw _ (List.mem_of_getElem? (i := 70) rfl))) (notFace_of_selects (args := #[]) (mvT hZj357 (hw _ (List.mem_of_getElem? (i := 72) rfl)))) (mvT hZj357 (hw _ (List.mem_of_getElem? (i := 72) rfl))) (mvT hZj357 (hw _ (List.mem_of_getElem? (i := 71) rfl))) (by decide) (backOf (W := 0) (rmnamed l Z a0 hw [] sq bi ki vsI bf kf (nn + (1 : Int32)) nn (own_key nn pp363) ((own_rs0 nn).set nn.toNatClampNeg pp363) pp367 T382.heap n0 Z382 r382_0 r382_1 r382_2 r382_3 r382_4 r382_5 (own_kb hnn hR_pp363).1 (own_kb hnn hR_pp363).2 g_sq g_bf neqf (by first | exact (own_nb hnn).2.2 | (simp only [List.length_set]; exact (own_nb hnn).2.2))) hZj357 (hw _ (List.mem_of_getElem? (i := 73) rfl)) (hw _ (List.mem_of_getElem? (i := 28) rfl)) (by decide) (by decide)) q386a q386c (g := (mkF m 192 #[iv p1, iv p2, iv p3, iv p4, iv p5, iv nn, rv al, rv sq, iv v8_358, rv b359, iv (1 : Int32)] [(.int pp367), (.ref sq)])) rfl (by rw [hml]; rfl) (Steps.refl _) (argsL := [(.int pp367)]) (rest := []) (lenOf pd__28_I_29_V rfl) rfl (by show 2 * 0 + _ ≤ _; exact Nat.le_of_eq rfl) (hb hby at_192) (fun _ _ => ⟨rfl, e384, (by decide : 25 + 0 ≤ _), (by decide : 205 + 0 ≤ _)⟩)
    dsimp only [Pt.U, Pt.locs, Pt.cells, Pt.slots] at X386 l386 y386 z386 st386 hQ386
    subst l386 y386 z386
    refine own_go st386 ?_
    obtain ⟨rfl, Nq386, K386, r386_0, r386_1, r386_2, r386_3, r386_4, r386_5⟩ := hQ386
    have r382_0_386 := r382_0.keep K386
    have V_bi_386 := V_bi_382.keep K386 (ninS (Ne.symm neqi) (ninS neif nin0))
    have V_b359_386 := V_b359_382.keep K386 (ninS (Ne.symm ne_sq_b359) (ninS (Ne.symm ne_bf_b359) nin0))
    have Z386 : n0 ≤ T386.heap.size := Nat.le_trans Z382 K386.1
    have hk386 : kj357 ≤ T386.heap.size := Nat.le_trans hk382 K386.1
    have N386 := Fr.app N384 Nq386
    show own_Fin _ _ _ _ (T386.setTop (mkF m 195 #[iv p1, iv p2, iv p3, iv p4, iv p5, iv nn, rv al, rv sq, iv v8_358, rv b359, iv (1 : Int32)] []))
    refine own_go (XS.iload X386.here hx rfl (hb hby at_195) rfl (Steps.refl _)) ?_
    show own_Fin _ _ _ _ (T386.setTop (mkF m 197 #[iv p1, iv p2, iv p3, iv p4, iv p5, iv nn, rv al, rv sq, iv v8_358, rv b359, iv (1 : Int32)] [(.int (1 : Int32))]))
    refine own_go (XS.ifNo X386.here hx rfl (hb hby at_197) rfl ((if0 _ _).trans (feq (by decide : ¬ ((1 : Int32) = (0 : Int32)))).1) (Steps.refl _)) ?_
    show own_Fin _ _ _ _ (T386.setTop (mkF m 200 #[iv p1, iv p2, iv p3, iv p4, iv p5, iv nn, rv al, rv sq, iv v8_358, rv b359, iv (1 : Int32)] []))
    refine own_go (XS.aload X386.here hx rfl (hb hby at_200) rfl rfl (Steps.refl _)) ?_
    show own_Fin _ _ _ _ (T386.setTop (mkF m 202 #[iv p1, iv p2, iv p3, iv p4, iv p5, iv nn, rv al, rv sq, iv v8_358, rv b359, iv (1 : Int32)] [(.ref sq)]))
    obtain ⟨cq387, kq387, q387a, q387b, q387c⟩ := isOf hZj357 rfl r386_0
    obtain ⟨_, _, ⟨T387, L387, k387, n387⟩, -, X387, ⟨Lc387, hQ387, l387, y387, z387⟩, st387⟩ := X386.virtualBack hx (y := (⟨"com/example/gridtally/gridtally/casefile/IdSequence", "nextExpected", "()I"⟩ : MethodName)) (z := (⟨"com/example/gridtally/gridtally/casefile/IdSequence", "nextExpected", "()I"⟩ : MethodName)) hownj357 (mvT hZj357 (hw _ (List.mem_of_getElem? (i := 64) rfl))) (mvT hZj357 (hw _ (List.mem_of_getElem? (i := 65) rfl))) (notFace_of_selects (args := #[]) (mvT hZj357 (hw _ (List.mem_of_getElem? (i := 67) rfl)))) (mvT hZj357 (hw _ (List.mem_of_getElem? (i := 67) rfl))) (mvT hZj357 (hw _ (List.mem_of_getElem? (i := 66) rfl))) (by decide) (backOf (W := 0) (rmnext l Z a0 hw [] sq bi ki vsI bf kf (nn + (1 : Int32)) nn (own_key nn pp367) (((own_rs0 nn).set nn.toNatClampNeg pp363).set (own_key nn pp363).toNatClampNeg pp367) T386.heap n0 Z386 r386_1 r386_2 r386_3 r386_4 V_bi_386 r386_5 (own_kb hnn hR_pp367).1 (own_kb hnn hR_pp367).2) hZj357 (hw _ (List.mem_of_getElem? (i := 68) rfl)) (hw _ (List.mem_of_getElem? (i := 28) rfl)) (by decide) (by decide)) q387a q387c (g := (mkF m 202 #[iv p1, iv p2, iv p3, iv p4, iv p5, iv nn, rv al, rv sq, iv v8_358, rv b359, iv (1 : Int32)] [(.ref sq)])) rfl (by rw [hml]; rfl) (Steps.refl _) (argsL := []) (rest := []) (lenOf pd__28__29_I rfl) rfl (by show 2 * 0 + _ ≤ _; exact Nat.le_of_eq rfl) (hb hby at_202) (fun _ _ => ⟨rfl, rfl, (by decide : 25 + 0 ≤ _), (by decide : 205 + 0 ≤ _)⟩)
    dsimp only [Pt.U, Pt.locs, Pt.cells, Pt.slots] at X387 l387 y387 z387 st387 hQ387
    subst l387 y387 z387
    obtain ⟨rfl, Nq387, e387⟩ := hQ387
    refine own_go st387 ?_
    have N387 := Fr.app N386 Nq387
    show own_Fin _ _ _ _ (T387.setTop (mkF m 205 #[iv p1, iv p2, iv p3, iv p4, iv p5, iv nn, rv al, rv sq, iv v8_358, rv b359, iv (1 : Int32)] [(.int (own_next nn (own_get (((own_rs0 nn).set nn.toNatClampNeg pp363).set (own_key nn pp363).toNatClampNeg pp367) (own_key nn pp367))))]))
    refine own_go (XS.aload X387.here hx rfl (hb hby at_205) rfl rfl (Steps.refl _)) ?_
    show own_Fin _ _ _ _ (T387.setTop (mkF m 207 #[iv p1, iv p2, iv p3, iv p4, iv p5, iv nn, rv al, rv sq, iv v8_358, rv b359, iv (1 : Int32)] [(.ref b359), (.int (own_next nn (own_get (((own_rs0 nn).set nn.toNatClampNeg pp363).set (own_key nn pp363).toNatClampNeg pp367) (own_key nn pp367))))]))
    refine own_go (XS.iconst X387.here hx rfl (hb hby at_207) (Steps.refl _)) ?_
    show own_Fin _ _ _ _ (T387.setTop (mkF m 208 #[iv p1, iv p2, iv p3, iv p4, iv p5, iv nn, rv al, rv sq, iv v8_358, rv b359, iv (1 : Int32)] [(.int (2 : Int32)), (.ref b359), (.int (own_next nn (own_get (((own_rs0 nn).set nn.toNatClampNeg pp363).set (own_key nn pp363).toNatClampNeg pp367) (own_key nn pp367))))]))
    refine own_go (XS.iload X387.here hx rfl (hb hby at_208) rfl (Steps.refl _)) ?_
    show own_Fin _ _ _ _ (T387.setTop (mkF m 210 #[iv p1, iv p2, iv p3, iv p4, iv p5, iv nn, rv al, rv sq, iv v8_358, rv b359, iv (1 : Int32)] [(.int nn), (.int (2 : Int32)), (.ref b359), (.int (own_next nn (own_get (((own_rs0 nn).set nn.toNatClampNeg pp363).set (own_key nn pp363).toNatClampNeg pp367) (own_key nn pp367))))]))
    obtain ⟨_, _, ⟨T388, L388, k388, n388⟩, -, X388, ⟨Lc388, hQ388, l388, y388, z388⟩, st388⟩ := Jvm.LawKit.callS X387 hx (y := (⟨"com/example/gridtally/gridtally/casefile/IdSequenceNamedPinLaw", "ref", "([III)I"⟩ : MethodName)) hownj357 (mvT hZj357 (hw _ (List.mem_of_getElem? (i := 74) rfl))) (mvT hZj357 (hw _ (List.mem_of_getElem? (i := 75) rfl))) (mvT hZj357 (hw _ (List.mem_of_getElem? (i := 61) rfl))) (mvT hZj357 (hw _ (List.mem_of_getElem? (i := 76) rfl))) (by decide) (backOf (W := 1) (rmref_2 l Z a0 hw [] b359 k359 (-1 : Int32) pp363 pp367 pp371 pp375 nn T386.heap n0 Z386 V_b359_386) hZj357 (hw _ (List.mem_of_getElem? (i := 76) rfl)) (hw _ (List.mem_of_getElem? (i := 61) rfl)) (by decide) (by decide)) (g := (mkF m 210 #[iv p1, iv p2, iv p3, iv p4, iv p5, iv nn, rv al, rv sq, iv v8_358, rv b359, iv (1 : Int32)] [(.int nn), (.int (2 : Int32)), (.ref b359), (.int (own_next nn (own_get (((own_rs0 nn).set nn.toNatClampNeg pp363).set (own_key nn pp363).toNatClampNeg pp367) (own_key nn pp367))))])) rfl (by rw [hml]; rfl) (argsL := [(.ref b359), (.int (2 : Int32)), (.int nn)]) (rest := [(.int (own_next nn (own_get (((own_rs0 nn).set nn.toNatClampNeg pp363).set (own_key nn pp363).toNatClampNeg pp367) (own_key nn pp367))))]) (lenOf pd__28__5b_III_29_I rfl) rfl (by show 2 * 0 + _ ≤ _; exact Nat.le_of_eq rfl) (hb hby at_210) (fun _ _ => ⟨rfl, e387, (by decide : 25 + 0 ≤ _), (by decide : 205 + 0 ≤ _)⟩)
    dsimp only [Pt.U, Pt.locs, Pt.cells, Pt.slots] at X388 l388 y388 z388 st388 hQ388
    subst l388 y388 z388
    obtain ⟨rfl, Nq388, e388⟩ := hQ388
    refine own_by st388 ?_
    have N388 := Fr.app N387 Nq388
    show own_Fin _ _ _ _ (T388.setTop (mkF m 213 #[iv p1, iv p2, iv p3, iv p4, iv p5, iv nn, rv al, rv sq, iv v8_358, rv b359, iv (1 : Int32)] [(.int (own_rf2 (-1 : Int32) pp363 pp367 nn)), (.int (own_next nn (own_get (((own_rs0 nn).set nn.toNatClampNeg pp363).set (own_key nn pp363).toNatClampNeg pp367) (own_key nn pp367))))]))
    refine own_go (XS.icmpNo X388.here hx rfl (hb hby at_213) rfl (teq (show (own_next nn (own_get (((own_rs0 nn).set nn.toNatClampNeg pp363).set (own_key nn pp363).toNatClampNeg pp367) (own_key nn pp367))) = (own_rf2 (-1 : Int32) pp363 pp367 nn) from (own_eqs hnn hR_pp363 hR_pp367 hR_pp371 hR_pp375).2.2.1)).2 (Steps.refl _)) ?_
    show own_Fin _ _ _ _ (T388.setTop (mkF m 216 #[iv p1, iv p2, iv p3, iv p4, iv p5, iv nn, rv al, rv sq, iv v8_358, rv b359, iv (1 : Int32)] []))
    refine own_go (XS.iconst X388.here hx rfl (hb hby at_216) (Steps.refl _)) ?_
    show own_Fin _ _ _ _ (T388.setTop (mkF m 217 #[iv p1, iv p2, iv p3, iv p4, iv p5, iv nn, rv al, rv sq, iv v8_358, rv b359, iv (1 : Int32)] [(.int (1 : Int32))]))
    refine own_go (XS.goto X388.here hx rfl (pc0 := 217) (pc' := 221) rfl (hb hby at_217) (by decide) (by decide) (Steps.refl _)) ?_
    show own_Fin _ _ _ _ (T388.setTop (mkF m 221 #[iv p1, iv p2, iv p3, iv p4, iv p5, iv nn, rv al, rv sq, iv v8_358, rv b359, iv (1 : Int32)] [(.int (1 : Int32))]))
    refine own_go (XS.istore X388.here hx rfl (hb hby at_221) rfl rfl (Steps.refl _)) ?_
    show own_Fin _ _ _ _ (T388.setTop (mkF m 223 #[iv p1, iv p2, iv p3, iv p4, iv p5, iv nn, rv al, rv sq, iv v8_358, rv b359, iv (1 : Int32)] []))
    refine own_go (XS.aload X388.here hx rfl (hb hby at_223) rfl rfl (Steps.refl _)) ?_
    show own_Fin _ _ _ _ (T388.setTop (mkF m 225 #[iv p1, iv p2, iv p3, iv p4, iv p5, iv nn, rv al, rv sq, iv v8_358, rv b359, iv (1 : Int32)] [(.ref sq)]))
    refine own_go (XS.aload X388.here hx rfl (hb hby at_225) rfl rfl (Steps.refl _)) ?_
    show own_Fin _ _ _ _ (T388.setTop (mkF m 227 #[iv p1, iv p2, iv p3, iv p4, iv p5, iv nn, rv al, rv sq, iv v8_358, rv b359, iv (1 : Int32)] [(.ref b359), (.ref sq)]))
    refine own_go (XS.iconst X388.here hx rfl (hb hby at_227) (Steps.refl _)) ?_
    show own_Fin _ _ _ _ (T388.setTop (mkF m 228 #[iv p1, iv p2, iv p3, iv p4, iv p5, iv nn, rv al, rv sq, iv v8_358, rv b359, iv (1 : Int32)] [(.int (3 : Int32)), (.ref b359), (.ref sq)]))
    obtain ⟨cl389, Ar389, qa389, Sa389, Na389, Ha389, Ga389⟩ := id V_b359_386
    have hin389 : ¬ ((3 : Int32) < 0 ∨ cl389.slots.size ≤ ((3 : Int32)).toNatClampNeg) := inb_of Sa389 ⟨by decide, by decide⟩
    have hat389 : cl389.slots[((3 : Int32)).toNatClampNeg]? = some (.int pp371) := Has.at Ha389 hin389 rfl
    refine own_by (X388.iaload hx (j := (3 : Int32)) (v := (.int pp371)) (by rw [e388]; exact Ar389.1) (State.isArrayOf_alike hZj357.alike Ar389.2.1) Ar389.2.2 hin389 hat389 (g := (mkF m 228 #[iv p1, iv p2, iv p3, iv p4, iv p5, iv nn, rv al, rv sq, iv v8_358, rv b359, iv (1 : Int32)] [(.int (3 : Int32)), (.ref b359), (.ref sq)])) rfl rfl (hb hby at_228)) ?_
    show own_Fin _ _ _ _ (T388.setTop (mkF m 229 #[iv p1, iv p2, iv p3, iv p4, iv p5, iv nn, rv al, rv sq, iv v8_358, rv b359, iv (1 : Int32)] [(.int pp371), (.ref sq)]))
    obtain ⟨cq390, kq390, q390a, q390b, q390c⟩ := isOf hZj357 e388 r386_0
    obtain ⟨_, _, ⟨T390, L390, k390, n390⟩, -, X390, ⟨Lc390, hQ390, l390, y390, z390⟩, st390⟩ := X388.virtualBack hx (y := (⟨"com/example/gridtally/gridtally/casefile/IdSequence", "named", "(I)V"⟩ : MethodName)) (z := (⟨"com/example/gridtally/gridtally/casefile/IdSequence", "named", "(I)V"⟩ : MethodName)) hownj357 (mvT hZj357 (hw _ (List.mem_of_getElem? (i := 69) rfl))) (mvT hZj357 (hw _ (List.mem_of_getElem? (i := 70) rfl))) (notFace_of_selects (args := #[]) (mvT hZj357 (hw _ (List.mem_of_getElem? (i := 72) rfl)))) (mvT hZj357 (hw _ (List.mem_of_getElem? (i := 72) rfl))) (mvT hZj357 (hw _ (List.mem_of_getElem? (i := 71) rfl))) (by decide) (backOf (W := 0) (rmnamed l Z a0 hw [] sq bi ki vsI bf kf (nn + (1 : Int32)) nn (own_key nn pp367) (((own_rs0 nn).set nn.toNatClampNeg pp363).set (own_key nn pp363).toNatClampNeg pp367) pp371 T386.heap n0 Z386 r386_0 r386_1 r386_2 r386_3 r386_4 r386_5 (own_kb hnn hR_pp367).1 (own_kb hnn hR_pp367).2 g_sq g_bf neqf (by first | exact (own_nb hnn).2.2 | (simp only [List.length_set]; exact (own_nb hnn).2.2))) hZj357 (hw _ (List.mem_of_getElem? (i := 73) rfl)) (hw _ (List.mem_of_getElem? (i := 28) rfl)) (by decide) (by decide)) q390a q390c (g := (mkF m 229 #[iv p1, iv p2, iv p3, iv p4, iv p5, iv nn, rv al, rv sq, iv v8_358, rv b359, iv (1 : Int32)] [(.int pp371), (.ref sq)])) rfl (by rw [hml]; rfl) (Steps.refl _) (argsL := [(.int pp371)]) (rest := []) (lenOf pd__28_I_29_V rfl) rfl (by show 2 * 0 + _ ≤ _; exact Nat.le_of_eq rfl) (hb hby at_229) (fun _ _ => ⟨rfl, e388, (by decide : 25 + 0 ≤ _), (by decide : 205 + 0 ≤ _)⟩)
    dsimp only [Pt.U, Pt.locs, Pt.cells, Pt.slots] at X390 l390 y390 z390 st390 hQ390
    subst l390 y390 z390
    refine own_go st390 ?_
    obtain ⟨rfl, Nq390, K390, r390_0, r390_1, r390_2, r390_3, r390_4, r390_5⟩ := hQ390
    have r386_0_390 := r386_0.keep K390
    have V_bi_390 := V_bi_386.keep K390 (ninS (Ne.symm neqi) (ninS neif nin0))
    have V_b359_390 := V_b359_386.keep K390 (ninS (Ne.symm ne_sq_b359) (ninS (Ne.symm ne_bf_b359) nin0))
    have Z390 : n0 ≤ T390.heap.size := Nat.le_trans Z386 K390.1
    have hk390 : kj357 ≤ T390.heap.size := Nat.le_trans hk386 K390.1
    have N390 := Fr.app N388 Nq390
    show own_Fin _ _ _ _ (T390.setTop (mkF m 232 #[iv p1, iv p2, iv p3, iv p4, iv p5, iv nn, rv al, rv sq, iv v8_358, rv b359, iv (1 : Int32)] []))
    refine own_go (XS.iload X390.here hx rfl (hb hby at_232) rfl (Steps.refl _)) ?_
    show own_Fin _ _ _ _ (T390.setTop (mkF m 234 #[iv p1, iv p2, iv p3, iv p4, iv p5, iv nn, rv al, rv sq, iv v8_358, rv b359, iv (1 : Int32)] [(.int (1 : Int32))]))
    refine own_go (XS.ifNo X390.here hx rfl (hb hby at_234) rfl ((if0 _ _).trans (feq (by decide : ¬ ((1 : Int32) = (0 : Int32)))).1) (Steps.refl _)) ?_
    show own_Fin _ _ _ _ (T390.setTop (mkF m 237 #[iv p1, iv p2, iv p3, iv p4, iv p5, iv nn, rv al, rv sq, iv v8_358, rv b359, iv (1 : Int32)] []))
    refine own_go (XS.aload X390.here hx rfl (hb hby at_237) rfl rfl (Steps.refl _)) ?_
    show own_Fin _ _ _ _ (T390.setTop (mkF m 239 #[iv p1, iv p2, iv p3, iv p4, iv p5, iv nn, rv al, rv sq, iv v8_358, rv b359, iv (1 : Int32)] [(.ref sq)]))
    obtain ⟨cq391, kq391, q391a, q391b, q391c⟩ := isOf hZj357 rfl r390_0
    obtain ⟨_, _, ⟨T391, L391, k391, n391⟩, -, X391, ⟨Lc391, hQ391, l391, y391, z391⟩, st391⟩ := X390.virtualBack hx (y := (⟨"com/example/gridtally/gridtally/casefile/IdSequence", "nextExpected", "()I"⟩ : MethodName)) (z := (⟨"com/example/gridtally/gridtally/casefile/IdSequence", "nextExpected", "()I"⟩ : MethodName)) hownj357 (mvT hZj357 (hw _ (List.mem_of_getElem? (i := 64) rfl))) (mvT hZj357 (hw _ (List.mem_of_getElem? (i := 65) rfl))) (notFace_of_selects (args := #[]) (mvT hZj357 (hw _ (List.mem_of_getElem? (i := 67) rfl)))) (mvT hZj357 (hw _ (List.mem_of_getElem? (i := 67) rfl))) (mvT hZj357 (hw _ (List.mem_of_getElem? (i := 66) rfl))) (by decide) (backOf (W := 0) (rmnext l Z a0 hw [] sq bi ki vsI bf kf (nn + (1 : Int32)) nn (own_key nn pp371) ((((own_rs0 nn).set nn.toNatClampNeg pp363).set (own_key nn pp363).toNatClampNeg pp367).set (own_key nn pp367).toNatClampNeg pp371) T390.heap n0 Z390 r390_1 r390_2 r390_3 r390_4 V_bi_390 r390_5 (own_kb hnn hR_pp371).1 (own_kb hnn hR_pp371).2) hZj357 (hw _ (List.mem_of_getElem? (i := 68) rfl)) (hw _ (List.mem_of_getElem? (i := 28) rfl)) (by decide) (by decide)) q391a q391c (g := (mkF m 239 #[iv p1, iv p2, iv p3, iv p4, iv p5, iv nn, rv al, rv sq, iv v8_358, rv b359, iv (1 : Int32)] [(.ref sq)])) rfl (by rw [hml]; rfl) (Steps.refl _) (argsL := []) (rest := []) (lenOf pd__28__29_I rfl) rfl (by show 2 * 0 + _ ≤ _; exact Nat.le_of_eq rfl) (hb hby at_239) (fun _ _ => ⟨rfl, rfl, (by decide : 25 + 0 ≤ _), (by decide : 205 + 0 ≤ _)⟩)
    dsimp only [Pt.U, Pt.locs, Pt.cells, Pt.slots] at X391 l391 y391 z391 st391 hQ391
    subst l391 y391 z391
    obtain ⟨rfl, Nq391, e391⟩ := hQ391
    refine own_go st391 ?_
    have N391 := Fr.app N390 Nq391
    show own_Fin _ _ _ _ (T391.setTop (mkF m 242 #[iv p1, iv p2, iv p3, iv p4, iv p5, iv nn, rv al, rv sq, iv v8_358, rv b359, iv (1 : Int32)] [(.int (own_next nn (own_get ((((own_rs0 nn).set nn.toNatClampNeg pp363).set (own_key nn pp363).toNatClampNeg pp367).set (own_key nn pp367).toNatClampNeg pp371) (own_key nn pp371))))]))
    refine own_go (XS.aload X391.here hx rfl (hb hby at_242) rfl rfl (Steps.refl _)) ?_
    show own_Fin _ _ _ _ (T391.setTop (mkF m 244 #[iv p1, iv p2, iv p3, iv p4, iv p5, iv nn, rv al, rv sq, iv v8_358, rv b359, iv (1 : Int32)] [(.ref b359), (.int (own_next nn (own_get ((((own_rs0 nn).set nn.toNatClampNeg pp363).set (own_key nn pp363).toNatClampNeg pp367).set (own_key nn pp367).toNatClampNeg pp371) (own_key nn pp371))))]))
    refine own_go (XS.iconst X391.here hx rfl (hb hby at_244) (Steps.refl _)) ?_
    show own_Fin _ _ _ _ (T391.setTop (mkF m 245 #[iv p1, iv p2, iv p3, iv p4, iv p5, iv nn, rv al, rv sq, iv v8_358, rv b359, iv (1 : Int32)] [(.int (3 : Int32)), (.ref b359), (.int (own_next nn (own_get ((((own_rs0 nn).set nn.toNatClampNeg pp363).set (own_key nn pp363).toNatClampNeg pp367).set (own_key nn pp367).toNatClampNeg pp371) (own_key nn pp371))))]))
    refine own_go (XS.iload X391.here hx rfl (hb hby at_245) rfl (Steps.refl _)) ?_
    show own_Fin _ _ _ _ (T391.setTop (mkF m 247 #[iv p1, iv p2, iv p3, iv p4, iv p5, iv nn, rv al, rv sq, iv v8_358, rv b359, iv (1 : Int32)] [(.int nn), (.int (3 : Int32)), (.ref b359), (.int (own_next nn (own_get ((((own_rs0 nn).set nn.toNatClampNeg pp363).set (own_key nn pp363).toNatClampNeg pp367).set (own_key nn pp367).toNatClampNeg pp371) (own_key nn pp371))))]))
    obtain ⟨_, _, ⟨T392, L392, k392, n392⟩, -, X392, ⟨Lc392, hQ392, l392, y392, z392⟩, st392⟩ := Jvm.LawKit.callS X391 hx (y := (⟨"com/example/gridtally/gridtally/casefile/IdSequenceNamedPinLaw", "ref", "([III)I"⟩ : MethodName)) hownj357 (mvT hZj357 (hw _ (List.mem_of_getElem? (i := 74) rfl))) (mvT hZj357 (hw _ (List.mem_of_getElem? (i := 75) rfl))) (mvT hZj357 (hw _ (List.mem_of_getElem? (i := 61) rfl))) (mvT hZj357 (hw _ (List.mem_of_getElem? (i := 76) rfl))) (by decide) (backOf (W := 1) (rmref_3 l Z a0 hw [] b359 k359 (-1 : Int32) pp363 pp367 pp371 pp375 nn T390.heap n0 Z390 V_b359_390) hZj357 (hw _ (List.mem_of_getElem? (i := 76) rfl)) (hw _ (List.mem_of_getElem? (i := 61) rfl)) (by decide) (by decide)) (g := (mkF m 247 #[iv p1, iv p2, iv p3, iv p4, iv p5, iv nn, rv al, rv sq, iv v8_358, rv b359, iv (1 : Int32)] [(.int nn), (.int (3 : Int32)), (.ref b359), (.int (own_next nn (own_get ((((own_rs0 nn).set nn.toNatClampNeg pp363).set (own_key nn pp363).toNatClampNeg pp367).set (own_key nn pp367).toNatClampNeg pp371) (own_key nn pp371))))])) rfl (by rw [hml]; rfl) (argsL := [(.ref b359), (.int (3 : Int32)), (.int nn)]) (rest := [(.int (own_next nn (own_get ((((own_rs0 nn).set nn.toNatClampNeg pp363).set (own_key nn pp363).toNatClampNeg pp367).set (own_key nn pp367).toNatClampNeg pp371) (own_key nn pp371))))]) (lenOf pd__28__5b_III_29_I rfl) rfl (by show 2 * 0 + _ ≤ _; exact Nat.le_of_eq rfl) (hb hby at_247) (fun _ _ => ⟨rfl, e391, (by decide : 25 + 0 ≤ _), (by decide : 205 + 0 ≤ _)⟩)
    dsimp only [Pt.U, Pt.locs, Pt.cells, Pt.slots] at X392 l392 y392 z392 st392 hQ392
    subst l392 y392 z392
    obtain ⟨rfl, Nq392, e392⟩ := hQ392
    refine own_by st392 ?_
    have N392 := Fr.app N391 Nq392
    show own_Fin _ _ _ _ (T392.setTop (mkF m 250 #[iv p1, iv p2, iv p3, iv p4, iv p5, iv nn, rv al, rv sq, iv v8_358, rv b359, iv (1 : Int32)] [(.int (own_rf3 (-1 : Int32) pp363 pp367 pp371 nn)), (.int (own_next nn (own_get ((((own_rs0 nn).set nn.toNatClampNeg pp363).set (own_key nn pp363).toNatClampNeg pp367).set (own_key nn pp367).toNatClampNeg pp371) (own_key nn pp371))))]))
    refine own_go (XS.icmpNo X392.here hx rfl (hb hby at_250) rfl (teq (show (own_next nn (own_get ((((own_rs0 nn).set nn.toNatClampNeg pp363).set (own_key nn pp363).toNatClampNeg pp367).set (own_key nn pp367).toNatClampNeg pp371) (own_key nn pp371))) = (own_rf3 (-1 : Int32) pp363 pp367 pp371 nn) from (own_eqs hnn hR_pp363 hR_pp367 hR_pp371 hR_pp375).2.2.2.1)).2 (Steps.refl _)) ?_
    show own_Fin _ _ _ _ (T392.setTop (mkF m 253 #[iv p1, iv p2, iv p3, iv p4, iv p5, iv nn, rv al, rv sq, iv v8_358, rv b359, iv (1 : Int32)] []))
    refine own_go (XS.iconst X392.here hx rfl (hb hby at_253) (Steps.refl _)) ?_
    show own_Fin _ _ _ _ (T392.setTop (mkF m 254 #[iv p1, iv p2, iv p3, iv p4, iv p5, iv nn, rv al, rv sq, iv v8_358, rv b359, iv (1 : Int32)] [(.int (1 : Int32))]))
    refine own_go (XS.goto X392.here hx rfl (pc0 := 254) (pc' := 258) rfl (hb hby at_254) (by decide) (by decide) (Steps.refl _)) ?_
    show own_Fin _ _ _ _ (T392.setTop (mkF m 258 #[iv p1, iv p2, iv p3, iv p4, iv p5, iv nn, rv al, rv sq, iv v8_358, rv b359, iv (1 : Int32)] [(.int (1 : Int32))]))
    refine own_go (XS.istore X392.here hx rfl (hb hby at_258) rfl rfl (Steps.refl _)) ?_
    show own_Fin _ _ _ _ (T392.setTop (mkF m 260 #[iv p1, iv p2, iv p3, iv p4, iv p5, iv nn, rv al, rv sq, iv v8_358, rv b359, iv (1 : Int32)] []))
    refine own_go (XS.aload X392.here hx rfl (hb hby at_260) rfl rfl (Steps.refl _)) ?_
    show own_Fin _ _ _ _ (T392.setTop (mkF m 262 #[iv p1, iv p2, iv p3, iv p4, iv p5, iv nn, rv al, rv sq, iv v8_358, rv b359, iv (1 : Int32)] [(.ref sq)]))
    refine own_go (XS.aload X392.here hx rfl (hb hby at_262) rfl rfl (Steps.refl _)) ?_
    show own_Fin _ _ _ _ (T392.setTop (mkF m 264 #[iv p1, iv p2, iv p3, iv p4, iv p5, iv nn, rv al, rv sq, iv v8_358, rv b359, iv (1 : Int32)] [(.ref b359), (.ref sq)]))
    refine own_go (XS.iconst X392.here hx rfl (hb hby at_264) (Steps.refl _)) ?_
    show own_Fin _ _ _ _ (T392.setTop (mkF m 265 #[iv p1, iv p2, iv p3, iv p4, iv p5, iv nn, rv al, rv sq, iv v8_358, rv b359, iv (1 : Int32)] [(.int (4 : Int32)), (.ref b359), (.ref sq)]))
    obtain ⟨cl393, Ar393, qa393, Sa393, Na393, Ha393, Ga393⟩ := id V_b359_390
    have hin393 : ¬ ((4 : Int32) < 0 ∨ cl393.slots.size ≤ ((4 : Int32)).toNatClampNeg) := inb_of Sa393 ⟨by decide, by decide⟩
    have hat393 : cl393.slots[((4 : Int32)).toNatClampNeg]? = some (.int pp375) := Has.at Ha393 hin393 rfl
    refine own_by (X392.iaload hx (j := (4 : Int32)) (v := (.int pp375)) (by rw [e392]; exact Ar393.1) (State.isArrayOf_alike hZj357.alike Ar393.2.1) Ar393.2.2 hin393 hat393 (g := (mkF m 265 #[iv p1, iv p2, iv p3, iv p4, iv p5, iv nn, rv al, rv sq, iv v8_358, rv b359, iv (1 : Int32)] [(.int (4 : Int32)), (.ref b359), (.ref sq)])) rfl rfl (hb hby at_265)) ?_
    show own_Fin _ _ _ _ (T392.setTop (mkF m 266 #[iv p1, iv p2, iv p3, iv p4, iv p5, iv nn, rv al, rv sq, iv v8_358, rv b359, iv (1 : Int32)] [(.int pp375), (.ref sq)]))
    obtain ⟨cq394, kq394, q394a, q394b, q394c⟩ := isOf hZj357 e392 r390_0
    obtain ⟨_, _, ⟨T394, L394, k394, n394⟩, -, X394, ⟨Lc394, hQ394, l394, y394, z394⟩, st394⟩ := X392.virtualBack hx (y := (⟨"com/example/gridtally/gridtally/casefile/IdSequence", "named", "(I)V"⟩ : MethodName)) (z := (⟨"com/example/gridtally/gridtally/casefile/IdSequence", "named", "(I)V"⟩ : MethodName)) hownj357 (mvT hZj357 (hw _ (List.mem_of_getElem? (i := 69) rfl))) (mvT hZj357 (hw _ (List.mem_of_getElem? (i := 70) rfl))) (notFace_of_selects (args := #[]) (mvT hZj357 (hw _ (List.mem_of_getElem? (i := 72) rfl)))) (mvT hZj357 (hw _ (List.mem_of_getElem? (i := 72) rfl))) (mvT hZj357 (hw _ (List.mem_of_getElem? (i := 71) rfl))) (by decide) (backOf (W := 0) (rmnamed l Z a0 hw [] sq bi ki vsI bf kf (nn + (1 : Int32)) nn (own_key nn pp371) ((((own_rs0 nn).set nn.toNatClampNeg pp363).set (own_key nn pp363).toNatClampNeg pp367).set (own_key nn pp367).toNatClampNeg pp371) pp375 T390.heap n0 Z390 r390_0 r390_1 r390_2 r390_3 r390_4 r390_5 (own_kb hnn hR_pp371).1 (own_kb hnn hR_pp371).2 g_sq g_bf neqf (by first | exact (own_nb hnn).2.2 | (simp only [List.length_set]; exact (own_nb hnn).2.2))) hZj357 (hw _ (List.mem_of_getElem? (i := 73) rfl)) (hw _ (List.mem_of_getElem? (i := 28) rfl)) (by decide) (by decide)) q394a q394c (g := (mkF m 266 #[iv p1, iv p2, iv p3, iv p4, iv p5, iv nn, rv al, rv sq, iv v8_358, rv b359, iv (1 : Int32)] [(.int pp375), (.ref sq)])) rfl (by rw [hml]; rfl) (Steps.refl _) (argsL := [(.int pp375)]) (rest := []) (lenOf pd__28_I_29_V rfl) rfl (by show 2 * 0 + _ ≤ _; exact Nat.le_of_eq rfl) (hb hby at_266) (fun _ _ => ⟨rfl, e392, (by decide : 25 + 0 ≤ _), (by decide : 205 + 0 ≤ _)⟩)
    dsimp only [Pt.U, Pt.locs, Pt.cells, Pt.slots] at X394 l394 y394 z394 st394 hQ394
    subst l394 y394 z394
    refine own_go st394 ?_
    obtain ⟨rfl, Nq394, K394, r394_0, r394_1, r394_2, r394_3, r394_4, r394_5⟩ := hQ394
    have r390_0_394 := r390_0.keep K394
    have V_bi_394 := V_bi_390.keep K394 (ninS (Ne.symm neqi) (ninS neif nin0))
    have V_b359_394 := V_b359_390.keep K394 (ninS (Ne.symm ne_sq_b359) (ninS (Ne.symm ne_bf_b359) nin0))
    have Z394 : n0 ≤ T394.heap.size := Nat.le_trans Z390 K394.1
    have hk394 : kj357 ≤ T394.heap.size := Nat.le_trans hk390 K394.1
    have N394 := Fr.app N392 Nq394
    show own_Fin _ _ _ _ (T394.setTop (mkF m 269 #[iv p1, iv p2, iv p3, iv p4, iv p5, iv nn, rv al, rv sq, iv v8_358, rv b359, iv (1 : Int32)] []))
    refine own_go (XS.iload X394.here hx rfl (hb hby at_269) rfl (Steps.refl _)) ?_
    show own_Fin _ _ _ _ (T394.setTop (mkF m 271 #[iv p1, iv p2, iv p3, iv p4, iv p5, iv nn, rv al, rv sq, iv v8_358, rv b359, iv (1 : Int32)] [(.int (1 : Int32))]))
    refine own_go (XS.ifNo X394.here hx rfl (hb hby at_271) rfl ((if0 _ _).trans (feq (by decide : ¬ ((1 : Int32) = (0 : Int32)))).1) (Steps.refl _)) ?_
    show own_Fin _ _ _ _ (T394.setTop (mkF m 274 #[iv p1, iv p2, iv p3, iv p4, iv p5, iv nn, rv al, rv sq, iv v8_358, rv b359, iv (1 : Int32)] []))
    refine own_go (XS.aload X394.here hx rfl (hb hby at_274) rfl rfl (Steps.refl _)) ?_
    show own_Fin _ _ _ _ (T394.setTop (mkF m 276 #[iv p1, iv p2, iv p3, iv p4, iv p5, iv nn, rv al, rv sq, iv v8_358, rv b359, iv (1 : Int32)] [(.ref sq)]))
    obtain ⟨cq395, kq395, q395a, q395b, q395c⟩ := isOf hZj357 rfl r394_0
    obtain ⟨_, _, ⟨T395, L395, k395, n395⟩, -, X395, ⟨Lc395, hQ395, l395, y395, z395⟩, st395⟩ := X394.virtualBack hx (y := (⟨"com/example/gridtally/gridtally/casefile/IdSequence", "nextExpected", "()I"⟩ : MethodName)) (z := (⟨"com/example/gridtally/gridtally/casefile/IdSequence", "nextExpected", "()I"⟩ : MethodName)) hownj357 (mvT hZj357 (hw _ (List.mem_of_getElem? (i := 64) rfl))) (mvT hZj357 (hw _ (List.mem_of_getElem? (i := 65) rfl))) (notFace_of_selects (args := #[]) (mvT hZj357 (hw _ (List.mem_of_getElem? (i := 67) rfl)))) (mvT hZj357 (hw _ (List.mem_of_getElem? (i := 67) rfl))) (mvT hZj357 (hw _ (List.mem_of_getElem? (i := 66) rfl))) (by decide) (backOf (W := 0) (rmnext l Z a0 hw [] sq bi ki vsI bf kf (nn + (1 : Int32)) nn (own_key nn pp375) (((((own_rs0 nn).set nn.toNatClampNeg pp363).set (own_key nn pp363).toNatClampNeg pp367).set (own_key nn pp367).toNatClampNeg pp371).set (own_key nn pp371).toNatClampNeg pp375) T394.heap n0 Z394 r394_1 r394_2 r394_3 r394_4 V_bi_394 r394_5 (own_kb hnn hR_pp375).1 (own_kb hnn hR_pp375).2) hZj357 (hw _ (List.mem_of_getElem? (i := 68) rfl)) (hw _ (List.mem_of_getElem? (i := 28) rfl)) (by decide) (by decide)) q395a q395c (g := (mkF m 276 #[iv p1, iv p2, iv p3, iv p4, iv p5, iv nn, rv al, rv sq, iv v8_358, rv b359, iv (1 : Int32)] [(.ref sq)])) rfl (by rw [hml]; rfl) (Steps.refl _) (argsL := []) (rest := []) (lenOf pd__28__29_I rfl) rfl (by show 2 * 0 + _ ≤ _; exact Nat.le_of_eq rfl) (hb hby at_276) (fun _ _ => ⟨rfl, rfl, (by decide : 25 + 0 ≤ _), (by decide : 205 + 0 ≤ _)⟩)
    dsimp only [Pt.U, Pt.locs, Pt.cells, Pt.slots] at X395 l395 y395 z395 st395 hQ395
    subst l395 y395 z395
    obtain ⟨rfl, Nq395, e395⟩ := hQ395
    refine own_go st395 ?_
    have N395 := Fr.app N394 Nq395
    show own_Fin _ _ _ _ (T395.setTop (mkF m 279 #[iv p1, iv p2, iv p3, iv p4, iv p5, iv nn, rv al, rv sq, iv v8_358, rv b359, iv (1 : Int32)] [(.int (own_next nn (own_get (((((own_rs0 nn).set nn.toNatClampNeg pp363).set (own_key nn pp363).toNatClampNeg pp367).set (own_key nn pp367).toNatClampNeg pp371).set (own_key nn pp371).toNatClampNeg pp375) (own_key nn pp375))))]))
    refine own_go (XS.aload X395.here hx rfl (hb hby at_279) rfl rfl (Steps.refl _)) ?_
    show own_Fin _ _ _ _ (T395.setTop (mkF m 281 #[iv p1, iv p2, iv p3, iv p4, iv p5, iv nn, rv al, rv sq, iv v8_358, rv b359, iv (1 : Int32)] [(.ref b359), (.int (own_next nn (own_get (((((own_rs0 nn).set nn.toNatClampNeg pp363).set (own_key nn pp363).toNatClampNeg pp367).set (own_key nn pp367).toNatClampNeg pp371).set (own_key nn pp371).toNatClampNeg pp375) (own_key nn pp375))))]))
    refine own_go (XS.iconst X395.here hx rfl (hb hby at_281) (Steps.refl _)) ?_
    show own_Fin _ _ _ _ (T395.setTop (mkF m 282 #[iv p1, iv p2, iv p3, iv p4, iv p5, iv nn, rv al, rv sq, iv v8_358, rv b359, iv (1 : Int32)] [(.int (4 : Int32)), (.ref b359), (.int (own_next nn (own_get (((((own_rs0 nn).set nn.toNatClampNeg pp363).set (own_key nn pp363).toNatClampNeg pp367).set (own_key nn pp367).toNatClampNeg pp371).set (own_key nn pp371).toNatClampNeg pp375) (own_key nn pp375))))]))
    refine own_go (XS.iload X395.here hx rfl (hb hby at_282) rfl (Steps.refl _)) ?_
    show own_Fin _ _ _ _ (T395.setTop (mkF m 284 #[iv p1, iv p2, iv p3, iv p4, iv p5, iv nn, rv al, rv sq, iv v8_358, rv b359, iv (1 : Int32)] [(.int nn), (.int (4 : Int32)), (.ref b359), (.int (own_next nn (own_get (((((own_rs0 nn).set nn.toNatClampNeg pp363).set (own_key nn pp363).toNatClampNeg pp367).set (own_key nn pp367).toNatClampNeg pp371).set (own_key nn pp371).toNatClampNeg pp375) (own_key nn pp375))))]))
    obtain ⟨_, _, ⟨T396, L396, k396, n396⟩, -, X396, ⟨Lc396, hQ396, l396, y396, z396⟩, st396⟩ := Jvm.LawKit.callS X395 hx (y := (⟨"com/example/gridtally/gridtally/casefile/IdSequenceNamedPinLaw", "ref", "([III)I"⟩ : MethodName)) hownj357 (mvT hZj357 (hw _ (List.mem_of_getElem? (i := 74) rfl))) (mvT hZj357 (hw _ (List.mem_of_getElem? (i := 75) rfl))) (mvT hZj357 (hw _ (List.mem_of_getElem? (i := 61) rfl))) (mvT hZj357 (hw _ (List.mem_of_getElem? (i := 76) rfl))) (by decide) (backOf (W := 1) (rmref_4 l Z a0 hw [] b359 k359 (-1 : Int32) pp363 pp367 pp371 pp375 nn T394.heap n0 Z394 V_b359_394) hZj357 (hw _ (List.mem_of_getElem? (i := 76) rfl)) (hw _ (List.mem_of_getElem? (i := 61) rfl)) (by decide) (by decide)) (g := (mkF m 284 #[iv p1, iv p2, iv p3, iv p4, iv p5, iv nn, rv al, rv sq, iv v8_358, rv b359, iv (1 : Int32)] [(.int nn), (.int (4 : Int32)), (.ref b359), (.int (own_next nn (own_get (((((own_rs0 nn).set nn.toNatClampNeg pp363).set (own_key nn pp363).toNatClampNeg pp367).set (own_key nn pp367).toNatClampNeg pp371).set (own_key nn pp371).toNatClampNeg pp375) (own_key nn pp375))))])) rfl (by rw [hml]; rfl) (argsL := [(.ref b359), (.int (4 : Int32)), (.int nn)]) (rest := [(.int (own_next nn (own_get (((((own_rs0 nn).set nn.toNatClampNeg pp363).set (own_key nn pp363).toNatClampNeg pp367).set (own_key nn pp367).toNatClampNeg pp371).set (own_key nn pp371).toNatClampNeg pp375) (own_key nn pp375))))]) (lenOf pd__28__5b_III_29_I rfl) rfl (by show 2 * 0 + _ ≤ _; exact Nat.le_of_eq rfl) (hb hby at_284) (fun _ _ => ⟨rfl, e395, (by decide : 25 + 0 ≤ _), (by decide : 205 + 0 ≤ _)⟩)
    dsimp only [Pt.U, Pt.locs, Pt.cells, Pt.slots] at X396 l396 y396 z396 st396 hQ396
    subst l396 y396 z396
    obtain ⟨rfl, Nq396, e396⟩ := hQ396
    refine own_by st396 ?_
    have N396 := Fr.app N395 Nq396
    show own_Fin _ _ _ _ (T396.setTop (mkF m 287 #[iv p1, iv p2, iv p3, iv p4, iv p5, iv nn, rv al, rv sq, iv v8_358, rv b359, iv (1 : Int32)] [(.int (own_rf4 (-1 : Int32) pp363 pp367 pp371 pp375 nn)), (.int (own_next nn (own_get (((((own_rs0 nn).set nn.toNatClampNeg pp363).set (own_key nn pp363).toNatClampNeg pp367).set (own_key nn pp367).toNatClampNeg pp371).set (own_key nn pp371).toNatClampNeg pp375) (own_key nn pp375))))]))
    refine own_go (XS.icmpNo X396.here hx rfl (hb hby at_287) rfl (teq (show (own_next nn (own_get (((((own_rs0 nn).set nn.toNatClampNeg pp363).set (own_key nn pp363).toNatClampNeg pp367).set (own_key nn pp367).toNatClampNeg pp371).set (own_key nn pp371).toNatClampNeg pp375) (own_key nn pp375))) = (own_rf4 (-1 : Int32) pp363 pp367 pp371 pp375 nn) from (own_eqs hnn hR_pp363 hR_pp367 hR_pp371 hR_pp375).2.2.2.2)).2 (Steps.refl _)) ?_
    show own_Fin _ _ _ _ (T396.setTop (mkF m 290 #[iv p1, iv p2, iv p3, iv p4, iv p5, iv nn, rv al, rv sq, iv v8_358, rv b359, iv (1 : Int32)] []))
    refine own_go (XS.iconst X396.here hx rfl (hb hby at_290) (Steps.refl _)) ?_
    show own_Fin _ _ _ _ (T396.setTop (mkF m 291 #[iv p1, iv p2, iv p3, iv p4, iv p5, iv nn, rv al, rv sq, iv v8_358, rv b359, iv (1 : Int32)] [(.int (1 : Int32))]))
    refine own_go (XS.goto X396.here hx rfl (pc0 := 291) (pc' := 295) rfl (hb hby at_291) (by decide) (by decide) (Steps.refl _)) ?_
    show own_Fin _ _ _ _ (T396.setTop (mkF m 295 #[iv p1, iv p2, iv p3, iv p4, iv p5, iv nn, rv al, rv sq, iv v8_358, rv b359, iv (1 : Int32)] [(.int (1 : Int32))]))
    refine own_go (XS.istore X396.here hx rfl (hb hby at_295) rfl rfl (Steps.refl _)) ?_
    show own_Fin _ _ _ _ (T396.setTop (mkF m 297 #[iv p1, iv p2, iv p3, iv p4, iv p5, iv nn, rv al, rv sq, iv v8_358, rv b359, iv (1 : Int32)] []))
    refine own_go (XS.iload X396.here hx rfl (hb hby at_297) rfl (Steps.refl _)) ?_
    show own_Fin _ _ _ _ (T396.setTop (mkF m 299 #[iv p1, iv p2, iv p3, iv p4, iv p5, iv nn, rv al, rv sq, iv v8_358, rv b359, iv (1 : Int32)] [(.int (1 : Int32))]))
    obtain ⟨fs397, hr397, hrun397, hended397, hRW397⟩ := X396.leaveW (s := s) hSj357 (n := kj357) (by rw [e396]; exact hk394) (v := some (.int (1 : Int32))) (fun h => by rw [Bd.returns] at h; cases h)
    refine own_done (retN X396 hx (t := .boolean) Bd.returns (by simp) (hb hby at_299) hr397) hrun397 hended397 ⟨_, _, rfl, ?_, hRW397.1, hRW397.2.1, hRW397.2.2.1, hRW397.2.2.2.mono (by decide) (by decide)⟩
    show Q0 Z p1 p2 p3 p4 p5 dd kd u cs h0 n0 _ T396.heap _
    rw [e396]
    exact ⟨rfl, N396⟩
  have hcs398 : v5_356 = (0 : Int32) ∨ v5_356 = (1 : Int32) ∨ v5_356 = (2 : Int32) ∨ v5_356 = (3 : Int32) := hz_v5_356 ▸ own_n4 p1
  rcases hcs398 with rfl | rfl | rfl | rfl
  · show own_Fin _ _ _ _ (s₁.setTop (mkF m 5 #[iv p1, iv p2, iv p3, iv p4, iv p5, iv (0 : Int32), .unset, .unset, .unset, .unset, .unset] []))
    obtain ⟨T399, h399, X399, e399, E399, A399, D399, U399, st399⟩ := newO X0w hx hZ hown (hw _ (List.mem_of_getElem? (i := 0) rfl)) (hw _ (List.mem_of_getElem? (i := 1) rfl)) (hw _ (List.mem_of_getElem? (i := 2) rfl)) e0 (g := (mkF m 5 #[iv p1, iv p2, iv p3, iv p4, iv p5, iv (0 : Int32), .unset, .unset, .unset, .unset, .unset] [])) rfl (hb hby at_5) (by decide) (by decide)
    obtain ⟨b399, g399⟩ : ∃ z, z = h0.size := ⟨_, rfl⟩
    rw [← g399] at A399 D399 U399 st399
    refine own_by st399 ?_
    have ne_dd_b399 : dd ≠ b399 := Nat.ne_of_lt (Nat.lt_of_lt_of_eq V_dd.lt g399.symm)
    have Od399 := O0.ext E399
    have V_dd_399 := V_dd.ext E399
    have g_b399 : n0 ≤ b399 := Nat.le_trans Z0 (Nat.le_of_eq g399.symm)
    have Z399 : n0 ≤ h399.size := Nat.le_trans Z0 E399.1
    have hk399 : 0 ≤ h399.size := Nat.le_trans hk0 E399.1
    have E_b399 := A399
    have F_modCount_b399 : Fld Z h399 b399 "java/util/AbstractList" "modCount" "I" (.int (0 : Int32)) := D399 (Or.inl (hw _ (List.mem_of_getElem? (i := 22) rfl))) (ty := .int) (by decide)
    have F_elementData_b399 : Fld Z h399 b399 "java/util/ArrayList" "elementData" "[Ljava/lang/Object;" .null := D399 (Or.inl (hw _ (List.mem_of_getElem? (i := 25) rfl))) (ty := (.array (.object "java/lang/Object"))) (by decide)
    have F_size_b399 : Fld Z h399 b399 "java/util/ArrayList" "size" "I" (.int (0 : Int32)) := D399 (Or.inl (hw _ (List.mem_of_getElem? (i := 43) rfl))) (ty := .int) (by decide)
    show own_Fin _ _ _ _ (T399.setTop (mkF m 8 #[iv p1, iv p2, iv p3, iv p4, iv p5, iv (0 : Int32), .unset, .unset, .unset, .unset, .unset] [(.ref b399)]))
    refine own_go (XS.dup X399.here hx rfl (hb hby at_8) rfl rfl (Steps.refl _)) ?_
    show own_Fin _ _ _ _ (T399.setTop (mkF m 9 #[iv p1, iv p2, iv p3, iv p4, iv p5, iv (0 : Int32), .unset, .unset, .unset, .unset, .unset] [(.ref b399), (.ref b399)]))
    obtain ⟨_, _, ⟨T400, L400, k400, n400⟩, -, X400, ⟨Lc400, hQ400, l400, y400, z400⟩, st400⟩ := X399.specialBack hx (y := (⟨"java/util/ArrayList", "<init>", "()V"⟩ : MethodName)) rfl hown (mvT hZ (hw _ (List.mem_of_getElem? (i := 3) rfl))) (mvT hZ (hw _ (List.mem_of_getElem? (i := 4) rfl))) (mvT hZ (hw _ (List.mem_of_getElem? (i := 5) rfl))) (by decide) (backOf (W := 1) (rmali l Z a0 hw [] b399 dd h399 n0 Z399 E_b399 F_modCount_b399 F_elementData_b399 F_size_b399 g_b399 Od399 S_DEFAULTCAPACITY_EMPTY_ELEMENTDATA) hZ (hw _ (List.mem_of_getElem? (i := 5) rfl)) (hw _ (List.mem_of_getElem? (i := 2) rfl)) (by decide) (by decide)) (g := (mkF m 9 #[iv p1, iv p2, iv p3, iv p4, iv p5, iv (0 : Int32), .unset, .unset, .unset, .unset, .unset] [(.ref b399), (.ref b399)])) rfl (by rw [hml]; rfl) (Steps.refl _) (a := b399) (argsL := []) (rest := [(.ref b399)]) (lenOf pd__28__29_V rfl) rfl (by show 2 * 0 + _ ≤ _; exact Nat.le_of_eq rfl) (hb hby at_9) (fun _ _ => ⟨rfl, e399, (by decide : 1 + 0 ≤ _), (by decide : 3 + 0 ≤ _)⟩)
    dsimp only [Pt.U, Pt.locs, Pt.cells, Pt.slots] at X400 l400 y400 z400 st400 hQ400
    subst l400 y400 z400
    refine own_go st400 ?_
    obtain ⟨rfl, Nq400, K400, r400_0, r400_1, r400_2, r400_3⟩ := hQ400
    have Od400 := Od399.keep K400 (allS g_b399 all0)
    have V_dd_400 := V_dd_399.keep K400 (ninS ne_dd_b399 nin0)
    have E_b399_400 := E_b399.keep K400
    have Z400 : n0 ≤ T400.heap.size := Nat.le_trans Z399 K400.1
    have hk400 : 0 ≤ T400.heap.size := Nat.le_trans hk399 K400.1
    have N400 := Fr.app N0 Nq400
    show own_Fin _ _ _ _ (T400.setTop (mkF m 12 #[iv p1, iv p2, iv p3, iv p4, iv p5, iv (0 : Int32), .unset, .unset, .unset, .unset, .unset] [(.ref b399)]))
    refine own_go (XS.astore X400.here hx rfl (hb hby at_12) rfl rfl rfl (Steps.refl _)) ?_
    show own_Fin _ _ _ _ (T400.setTop (mkF m 14 #[iv p1, iv p2, iv p3, iv p4, iv p5, iv (0 : Int32), rv b399, .unset, .unset, .unset, .unset] []))
    refine own_go (XS.iload X400.here hx rfl (hb hby at_14) rfl (Steps.refl _)) ?_
    show own_Fin _ _ _ _ (T400.setTop (mkF m 16 #[iv p1, iv p2, iv p3, iv p4, iv p5, iv (0 : Int32), rv b399, .unset, .unset, .unset, .unset] [(.int (0 : Int32))]))
    refine own_go (XS.iconst X400.here hx rfl (hb hby at_16) (Steps.refl _)) ?_
    show own_Fin _ _ _ _ (T400.setTop (mkF m 17 #[iv p1, iv p2, iv p3, iv p4, iv p5, iv (0 : Int32), rv b399, .unset, .unset, .unset, .unset] [(.int (1 : Int32)), (.int (0 : Int32))]))
    refine own_go (XS.icmpYes X400.here hx rfl (pc0 := 17) (pc' := 28) rfl (hb hby at_17) rfl (tlt (by decide : (0 : Int32) < (1 : Int32))).1 (by decide) (by decide) (Steps.refl _)) ?_
    show own_Fin _ _ _ _ (T400.setTop (mkF m 28 #[iv p1, iv p2, iv p3, iv p4, iv p5, iv (0 : Int32), rv b399, .unset, .unset, .unset, .unset] []))
    refine own_go (XS.iload X400.here hx rfl (hb hby at_28) rfl (Steps.refl _)) ?_
    show own_Fin _ _ _ _ (T400.setTop (mkF m 30 #[iv p1, iv p2, iv p3, iv p4, iv p5, iv (0 : Int32), rv b399, .unset, .unset, .unset, .unset] [(.int (0 : Int32))]))
    refine own_go (XS.iconst X400.here hx rfl (hb hby at_30) (Steps.refl _)) ?_
    show own_Fin _ _ _ _ (T400.setTop (mkF m 31 #[iv p1, iv p2, iv p3, iv p4, iv p5, iv (0 : Int32), rv b399, .unset, .unset, .unset, .unset] [(.int (2 : Int32)), (.int (0 : Int32))]))
    refine own_go (XS.icmpYes X400.here hx rfl (pc0 := 31) (pc' := 42) rfl (hb hby at_31) rfl (tlt (by decide : (0 : Int32) < (2 : Int32))).1 (by decide) (by decide) (Steps.refl _)) ?_
    show own_Fin _ _ _ _ (T400.setTop (mkF m 42 #[iv p1, iv p2, iv p3, iv p4, iv p5, iv (0 : Int32), rv b399, .unset, .unset, .unset, .unset] []))
    refine own_go (XS.iload X400.here hx rfl (hb hby at_42) rfl (Steps.refl _)) ?_
    show own_Fin _ _ _ _ (T400.setTop (mkF m 44 #[iv p1, iv p2, iv p3, iv p4, iv p5, iv (0 : Int32), rv b399, .unset, .unset, .unset, .unset] [(.int (0 : Int32))]))
    refine own_go (XS.iconst X400.here hx rfl (hb hby at_44) (Steps.refl _)) ?_
    show own_Fin _ _ _ _ (T400.setTop (mkF m 45 #[iv p1, iv p2, iv p3, iv p4, iv p5, iv (0 : Int32), rv b399, .unset, .unset, .unset, .unset] [(.int (3 : Int32)), (.int (0 : Int32))]))
    refine own_go (XS.icmpYes X400.here hx rfl (pc0 := 45) (pc' := 56) rfl (hb hby at_45) rfl (tlt (by decide : (0 : Int32) < (3 : Int32))).1 (by decide) (by decide) (Steps.refl _)) ?_
    show own_Fin _ _ _ _ (T400.setTop (mkF m 56 #[iv p1, iv p2, iv p3, iv p4, iv p5, iv (0 : Int32), rv b399, .unset, .unset, .unset, .unset] []))
    obtain ⟨T401, h401, X401, e401, E401, A401, D401, U401, st401⟩ := newO X400 hx hZ hown (hw _ (List.mem_of_getElem? (i := 26) rfl)) (hw _ (List.mem_of_getElem? (i := 27) rfl)) (hw _ (List.mem_of_getElem? (i := 28) rfl)) rfl (g := (mkF m 56 #[iv p1, iv p2, iv p3, iv p4, iv p5, iv (0 : Int32), rv b399, .unset, .unset, .unset, .unset] [])) rfl (hb hby at_56) (by decide) (by decide)
    obtain ⟨b401, g401⟩ : ∃ z, z = T400.heap.size := ⟨_, rfl⟩
    rw [← g401] at A401 D401 U401 st401
    refine own_by st401 ?_
    have ne_dd_b401 : dd ≠ b401 := Nat.ne_of_lt (Nat.lt_of_lt_of_eq V_dd_400.lt g401.symm)
    have ne_b399_b401 : b399 ≠ b401 := Nat.ne_of_lt (Nat.lt_of_lt_of_eq r400_0.lt g401.symm)
    have Od401 := Od400.ext E401
    have V_dd_401 := V_dd_400.ext E401
    have r400_0_401 := r400_0.ext E401
    have r400_1_401 := r400_1.ext E401
    have r400_2_401 := r400_2.ext E401
    have r400_3_401 := r400_3.ext E401
    have g_b401 : n0 ≤ b401 := Nat.le_trans Z400 (Nat.le_of_eq g401.symm)
    have Z401 : n0 ≤ h401.size := Nat.le_trans Z400 E401.1
    have hk401 : 0 ≤ h401.size := Nat.le_trans hk400 E401.1
    have E_b401 := A401
    have F_ids_b401 : Fld Z h401 b401 "com/example/gridtally/gridtally/casefile/IdSequence" "ids" "[[B" .null := D401 (Or.inr (hw _ (List.mem_of_getElem? (i := 47) rfl))) (ty := (.array (.array .byte))) (by decide)
    have F_none_b401 : Fld Z h401 b401 "com/example/gridtally/gridtally/casefile/IdSequence" "none" "I" (.int (0 : Int32)) := D401 (Or.inr (hw _ (List.mem_of_getElem? (i := 49) rfl))) (ty := .int) (by decide)
    have F_following_b401 : Fld Z h401 b401 "com/example/gridtally/gridtally/casefile/IdSequence" "following" "[I" .null := D401 (Or.inr (hw _ (List.mem_of_getElem? (i := 52) rfl))) (ty := (.array .int)) (by decide)
    have F_last_b401 : Fld Z h401 b401 "com/example/gridtally/gridtally/casefile/IdSequence" "last" "I" (.int (0 : Int32)) := D401 (Or.inl (hw _ (List.mem_of_getElem? (i := 58) rfl))) (ty := .int) (by decide)
    show own_Fin _ _ _ _ (T401.setTop (mkF m 59 #[iv p1, iv p2, iv p3, iv p4, iv p5, iv (0 : Int32), rv b399, .unset, .unset, .unset, .unset] [(.ref b401)]))
    refine own_go (XS.dup X401.here hx rfl (hb hby at_59) rfl rfl (Steps.refl _)) ?_
    show own_Fin _ _ _ _ (T401.setTop (mkF m 60 #[iv p1, iv p2, iv p3, iv p4, iv p5, iv (0 : Int32), rv b399, .unset, .unset, .unset, .unset] [(.ref b401), (.ref b401)]))
    refine own_go (XS.aload X401.here hx rfl (hb hby at_60) rfl rfl (Steps.refl _)) ?_
    show own_Fin _ _ _ _ (T401.setTop (mkF m 62 #[iv p1, iv p2, iv p3, iv p4, iv p5, iv (0 : Int32), rv b399, .unset, .unset, .unset, .unset] [(.ref b399), (.ref b401), (.ref b401)]))
    obtain ⟨_, _, ⟨T402, L402, k402, n402⟩, -, X402, ⟨Lc402, hQ402, l402, y402, z402⟩, st402⟩ := X401.specialBack hx (y := (⟨"com/example/gridtally/gridtally/casefile/IdSequence", "<init>", "(Ljava/util/List;)V"⟩ : MethodName)) rfl hown (mvT hZ (hw _ (List.mem_of_getElem? (i := 29) rfl))) (mvT hZ (hw _ (List.mem_of_getElem? (i := 30) rfl))) (mvT hZ (hw _ (List.mem_of_getElem? (i := 31) rfl))) (by decide) (backOf (W := 1) (rminit_0 l Z a0 hw [] b401 b399 u cs h401 n0 Z401 E_b401 F_ids_b401 F_none_b401 F_following_b401 F_last_b401 g_b401 Od401 S_INSTANCE S_UTF_8 S_COMPACT_STRINGS hcs r400_0_401 r400_3_401) hZ (hw _ (List.mem_of_getElem? (i := 31) rfl)) (hw _ (List.mem_of_getElem? (i := 28) rfl)) (by decide) (by decide)) (g := (mkF m 62 #[iv p1, iv p2, iv p3, iv p4, iv p5, iv (0 : Int32), rv b399, .unset, .unset, .unset, .unset] [(.ref b399), (.ref b401), (.ref b401)])) rfl (by rw [hml]; rfl) (Steps.refl _) (a := b401) (argsL := [(.ref b399)]) (rest := [(.ref b401)]) (lenOf pd__28_Ljava_2f_util_2f_List_3b__29_V rfl) rfl (by show 2 * 0 + _ ≤ _; exact Nat.le_of_eq rfl) (hb hby at_62) (fun _ _ => ⟨rfl, e401, (by decide : 2 + 2 ≤ _), (by decide : 7 + 1 ≤ _)⟩)
    dsimp only [Pt.U, Pt.locs, Pt.cells, Pt.slots] at X402 l402 y402 z402 st402 hQ402
    subst l402 y402 z402
    refine own_go st402 ?_
    obtain ⟨bi_402, bf_402, ki_402, kf_402, rfl, Nq402, K402, g_bi_402, sb_bi_402, g_bf_402, sb_bf_402, r402_0, r402_1, r402_2, r402_3, r402_4, r402_5, r402_6⟩ := hQ402
    have ne_dd_bi_402 : dd ≠ bi_402 := Nat.ne_of_lt (Nat.lt_of_lt_of_le V_dd_401.lt sb_bi_402)
    have ne_b399_bi_402 : b399 ≠ bi_402 := Nat.ne_of_lt (Nat.lt_of_lt_of_le r400_0_401.lt sb_bi_402)
    have ne_b401_bi_402 : b401 ≠ bi_402 := Nat.ne_of_lt (Nat.lt_of_lt_of_le E_b401.lt sb_bi_402)
    have ne_dd_bf_402 : dd ≠ bf_402 := Nat.ne_of_lt (Nat.lt_of_lt_of_le V_dd_401.lt sb_bf_402)
    have ne_b399_bf_402 : b399 ≠ bf_402 := Nat.ne_of_lt (Nat.lt_of_lt_of_le r400_0_401.lt sb_bf_402)
    have ne_b401_bf_402 : b401 ≠ bf_402 := Nat.ne_of_lt (Nat.lt_of_lt_of_le E_b401.lt sb_bf_402)
    have Od402 := Od401.keep K402 (allS g_b401 all0)
    have V_dd_402 := V_dd_401.keep K402 (ninS ne_dd_b401 nin0)
    have r400_0_402 := r400_0_401.keep K402
    have r400_1_402 := r400_1_401.keep K402 (ninS ne_b399_b401 nin0)
    have r400_2_402 := r400_2_401.keep K402 (ninS ne_b399_b401 nin0)
    have r400_3_402 := r400_3_401.keep K402 (ninS ne_b399_b401 nin0)
    have E_b401_402 := E_b401.keep K402
    have Z402 : n0 ≤ T402.heap.size := Nat.le_trans Z401 K402.1
    have hk402 : 0 ≤ T402.heap.size := Nat.le_trans hk401 K402.1
    have N402 := Fr.app N400 Nq402
    show own_Fin _ _ _ _ (T402.setTop (mkF m 65 #[iv p1, iv p2, iv p3, iv p4, iv p5, iv (0 : Int32), rv b399, .unset, .unset, .unset, .unset] [(.ref b401)]))
    refine own_go (XS.astore X402.here hx rfl (hb hby at_65) rfl rfl rfl (Steps.refl _)) ?_
    show own_Fin _ _ _ _ (T402.setTop (mkF m 67 #[iv p1, iv p2, iv p3, iv p4, iv p5, iv (0 : Int32), rv b399, rv b401, .unset, .unset, .unset] []))
    exact hj357 T402 _ T402.heap s.vm 0 (0 : Int32) b399 b401 bi_402 bf_402 ki_402 kf_402 [] (X402.more (by decide) (by decide)) rfl N402 hZ hown hS0 hk402 Z402 r402_0 r402_1 r402_2 r402_3 r402_4 r402_5 (by rw [show own_rs0 (0 : Int32) = [(0 : Int32)] from by decide, show (0 : Int32) + (1 : Int32) = (1 : Int32) from rfl]; exact r402_6) g_b401 g_bf_402 (⟨⟨0, by decide⟩, rfl⟩) (ne_b401_bf_402) ((arv_ne r402_5 r402_6 (Or.inl (by decide)))) (ne_b401_bi_402)
  · show own_Fin _ _ _ _ (s₁.setTop (mkF m 5 #[iv p1, iv p2, iv p3, iv p4, iv p5, iv (1 : Int32), .unset, .unset, .unset, .unset, .unset] []))
    obtain ⟨T403, h403, X403, e403, E403, A403, D403, U403, st403⟩ := newO X0w hx hZ hown (hw _ (List.mem_of_getElem? (i := 0) rfl)) (hw _ (List.mem_of_getElem? (i := 1) rfl)) (hw _ (List.mem_of_getElem? (i := 2) rfl)) e0 (g := (mkF m 5 #[iv p1, iv p2, iv p3, iv p4, iv p5, iv (1 : Int32), .unset, .unset, .unset, .unset, .unset] [])) rfl (hb hby at_5) (by decide) (by decide)
    obtain ⟨b403, g403⟩ : ∃ z, z = h0.size := ⟨_, rfl⟩
    rw [← g403] at A403 D403 U403 st403
    refine own_by st403 ?_
    have ne_dd_b403 : dd ≠ b403 := Nat.ne_of_lt (Nat.lt_of_lt_of_eq V_dd.lt g403.symm)
    have Od403 := O0.ext E403
    have V_dd_403 := V_dd.ext E403
    have g_b403 : n0 ≤ b403 := Nat.le_trans Z0 (Nat.le_of_eq g403.symm)
    have Z403 : n0 ≤ h403.size := Nat.le_trans Z0 E403.1
    have hk403 : 0 ≤ h403.size := Nat.le_trans hk0 E403.1
    have E_b403 := A403
    have F_modCount_b403 : Fld Z h403 b403 "java/util/AbstractList" "modCount" "I" (.int (0 : Int32)) := D403 (Or.inl (hw _ (List.mem_of_getElem? (i := 22) rfl))) (ty := .int) (by decide)
    have F_elementData_b403 : Fld Z h403 b403 "java/util/ArrayList" "elementData" "[Ljava/lang/Object;" .null := D403 (Or.inl (hw _ (List.mem_of_getElem? (i := 25) rfl))) (ty := (.array (.object "java/lang/Object"))) (by decide)
    have F_size_b403 : Fld Z h403 b403 "java/util/ArrayList" "size" "I" (.int (0 : Int32)) := D403 (Or.inl (hw _ (List.mem_of_getElem? (i := 43) rfl))) (ty := .int) (by decide)
    show own_Fin _ _ _ _ (T403.setTop (mkF m 8 #[iv p1, iv p2, iv p3, iv p4, iv p5, iv (1 : Int32), .unset, .unset, .unset, .unset, .unset] [(.ref b403)]))
    refine own_go (XS.dup X403.here hx rfl (hb hby at_8) rfl rfl (Steps.refl _)) ?_
    show own_Fin _ _ _ _ (T403.setTop (mkF m 9 #[iv p1, iv p2, iv p3, iv p4, iv p5, iv (1 : Int32), .unset, .unset, .unset, .unset, .unset] [(.ref b403), (.ref b403)]))
    obtain ⟨_, _, ⟨T404, L404, k404, n404⟩, -, X404, ⟨Lc404, hQ404, l404, y404, z404⟩, st404⟩ := X403.specialBack hx (y := (⟨"java/util/ArrayList", "<init>", "()V"⟩ : MethodName)) rfl hown (mvT hZ (hw _ (List.mem_of_getElem? (i := 3) rfl))) (mvT hZ (hw _ (List.mem_of_getElem? (i := 4) rfl))) (mvT hZ (hw _ (List.mem_of_getElem? (i := 5) rfl))) (by decide) (backOf (W := 1) (rmali l Z a0 hw [] b403 dd h403 n0 Z403 E_b403 F_modCount_b403 F_elementData_b403 F_size_b403 g_b403 Od403 S_DEFAULTCAPACITY_EMPTY_ELEMENTDATA) hZ (hw _ (List.mem_of_getElem? (i := 5) rfl)) (hw _ (List.mem_of_getElem? (i := 2) rfl)) (by decide) (by decide)) (g := (mkF m 9 #[iv p1, iv p2, iv p3, iv p4, iv p5, iv (1 : Int32), .unset, .unset, .unset, .unset, .unset] [(.ref b403), (.ref b403)])) rfl (by rw [hml]; rfl) (Steps.refl _) (a := b403) (argsL := []) (rest := [(.ref b403)]) (lenOf pd__28__29_V rfl) rfl (by show 2 * 0 + _ ≤ _; exact Nat.le_of_eq rfl) (hb hby at_9) (fun _ _ => ⟨rfl, e403, (by decide : 1 + 0 ≤ _), (by decide : 3 + 0 ≤ _)⟩)
    dsimp only [Pt.U, Pt.locs, Pt.cells, Pt.slots] at X404 l404 y404 z404 st404 hQ404
    subst l404 y404 z404
    refine own_go st404 ?_
    obtain ⟨rfl, Nq404, K404, r404_0, r404_1, r404_2, r404_3⟩ := hQ404
    have Od404 := Od403.keep K404 (allS g_b403 all0)
    have V_dd_404 := V_dd_403.keep K404 (ninS ne_dd_b403 nin0)
    have E_b403_404 := E_b403.keep K404
    have Z404 : n0 ≤ T404.heap.size := Nat.le_trans Z403 K404.1
    have hk404 : 0 ≤ T404.heap.size := Nat.le_trans hk403 K404.1
    have N404 := Fr.app N0 Nq404
    show own_Fin _ _ _ _ (T404.setTop (mkF m 12 #[iv p1, iv p2, iv p3, iv p4, iv p5, iv (1 : Int32), .unset, .unset, .unset, .unset, .unset] [(.ref b403)]))
    refine own_go (XS.astore X404.here hx rfl (hb hby at_12) rfl rfl rfl (Steps.refl _)) ?_
    show own_Fin _ _ _ _ (T404.setTop (mkF m 14 #[iv p1, iv p2, iv p3, iv p4, iv p5, iv (1 : Int32), rv b403, .unset, .unset, .unset, .unset] []))
    refine own_go (XS.iload X404.here hx rfl (hb hby at_14) rfl (Steps.refl _)) ?_
    show own_Fin _ _ _ _ (T404.setTop (mkF m 16 #[iv p1, iv p2, iv p3, iv p4, iv p5, iv (1 : Int32), rv b403, .unset, .unset, .unset, .unset] [(.int (1 : Int32))]))
    refine own_go (XS.iconst X404.here hx rfl (hb hby at_16) (Steps.refl _)) ?_
    show own_Fin _ _ _ _ (T404.setTop (mkF m 17 #[iv p1, iv p2, iv p3, iv p4, iv p5, iv (1 : Int32), rv b403, .unset, .unset, .unset, .unset] [(.int (1 : Int32)), (.int (1 : Int32))]))
    refine own_go (XS.icmpNo X404.here hx rfl (hb hby at_17) rfl (flt (by decide : ¬ ((1 : Int32) < (1 : Int32)))).1 (Steps.refl _)) ?_
    show own_Fin _ _ _ _ (T404.setTop (mkF m 20 #[iv p1, iv p2, iv p3, iv p4, iv p5, iv (1 : Int32), rv b403, .unset, .unset, .unset, .unset] []))
    refine own_go (XS.aload X404.here hx rfl (hb hby at_20) rfl rfl (Steps.refl _)) ?_
    show own_Fin _ _ _ _ (T404.setTop (mkF m 22 #[iv p1, iv p2, iv p3, iv p4, iv p5, iv (1 : Int32), rv b403, .unset, .unset, .unset, .unset] [(.ref b403)]))
    obtain ⟨a405, T405, h405, k405, b405, kc405, X405, e405, E405, hS405, hk405, hZ405, hown405, Ex405, Fc405, Fv405, Va405, Eb405, IB405, st405⟩ := own_ldcE (s := s) (vm0 := s.vm) X404 hx hZ hown (hw _ (List.mem_of_getElem? (i := 77) rfl)) wS rfl hS0 hk404 (show Fr s.heap.size _ by rw [es0, ← hn0]; exact N404) (fun b cl q => by rw [← hZs]; exact q) IB0 (by decide) hh1 hcw (vs := [.int (97 : Int32)]) (z := (1 : Int32)) ⟨by decide, by decide⟩ (by decide) (by decide) (g := (mkF m 22 #[iv p1, iv p2, iv p3, iv p4, iv p5, iv (1 : Int32), rv b403, .unset, .unset, .unset, .unset] [(.ref b403)])) rfl (hb hby at_22) (n := 4) (by decide) (by decide) (by decide) (by decide)
    refine own_by st405 ?_
    have Od405 := Od404.ext E405
    have V_dd_405 := V_dd_404.ext E405
    have r404_0_405 := r404_0.ext E405
    have r404_1_405 := r404_1.ext E405
    have r404_2_405 := r404_2.ext E405
    have r404_3_405 := r404_3.ext E405
    have Z405 : n0 ≤ h405.size := Nat.le_trans Z404 E405.1
    show own_Fin _ _ _ _ (T405.setTop (mkF m 24 #[iv p1, iv p2, iv p3, iv p4, iv p5, iv (1 : Int32), rv b403, .unset, .unset, .unset, .unset] [(.ref a405), (.ref b403)]))
    obtain ⟨cq406, kq406, q406a, q406b, q406c⟩ := isOf hZ405 e405 r404_0_405
    obtain ⟨_, _, ⟨T406, L406, k406, n406⟩, -, X406, ⟨Lc406, hQ406, l406, y406, z406⟩, st406⟩ := X405.virtualBack hx (y := (⟨"java/util/ArrayList", "add", "(Ljava/lang/Object;)Z"⟩ : MethodName)) (z := (⟨"java/util/ArrayList", "add", "(Ljava/lang/Object;)Z"⟩ : MethodName)) hown405 (mvT hZ405 (hw _ (List.mem_of_getElem? (i := 85) rfl))) (mvT hZ405 (hw _ (List.mem_of_getElem? (i := 86) rfl))) (notFace_of_selects (args := #[]) (mvT hZ405 (hw _ (List.mem_of_getElem? (i := 88) rfl)))) (mvT hZ405 (hw _ (List.mem_of_getElem? (i := 88) rfl))) (mvT hZ405 (hw _ (List.mem_of_getElem? (i := 87) rfl))) (by decide) (backOf (W := 0) (rmadd_0 l Z a0 hw [] b403 dd kd (0 : Int32) a405 h405 n0 Z405 r404_0_405 r404_1_405 r404_2_405 r404_3_405 V_dd_405 S_DEFAULTCAPACITY_EMPTY_ELEMENTDATA Od405 g_b403 Ex405) hZ405 (hw _ (List.mem_of_getElem? (i := 89) rfl)) (hw _ (List.mem_of_getElem? (i := 2) rfl)) (by decide) (by decide)) q406a q406c (g := (mkF m 24 #[iv p1, iv p2, iv p3, iv p4, iv p5, iv (1 : Int32), rv b403, .unset, .unset, .unset, .unset] [(.ref a405), (.ref b403)])) rfl (by rw [hml]; rfl) (Steps.refl _) (argsL := [(.ref a405)]) (rest := []) (lenOf pd__28_Ljava_2f_lang_2f_Object_3b__29_Z rfl) rfl (by show 2 * 0 + _ ≤ _; exact Nat.le_of_eq rfl) (hb hby at_24) (fun _ _ => ⟨rfl, e405, (by decide : 3 + 1 ≤ _), (by decide : 11 + 10 ≤ _)⟩)
    dsimp only [Pt.U, Pt.locs, Pt.cells, Pt.slots] at X406 l406 y406 z406 st406 hQ406
    subst l406 y406 z406
    refine own_go st406 ?_
    obtain ⟨b_406, kb_406, rfl, Nq406, K406, g_b_406, sb_b_406, r406_0, r406_1, r406_2, r406_3, r406_4, r406_5, r406_6⟩ := hQ406
    have ne_dd_b_406 : dd ≠ b_406 := Nat.ne_of_lt (Nat.lt_of_lt_of_le V_dd_405.lt sb_b_406)
    have ne_b403_b_406 : b403 ≠ b_406 := Nat.ne_of_lt (Nat.lt_of_lt_of_le r404_0_405.lt sb_b_406)
    have ne_a405_b_406 : a405 ≠ b_406 := Nat.ne_of_lt (Nat.lt_of_lt_of_le Ex405.lt sb_b_406)
    have ne_b405_b_406 : b405 ≠ b_406 := Nat.ne_of_lt (Nat.lt_of_lt_of_le Va405.lt sb_b_406)
    have Od406 := Od405.keep K406 (allS g_b403 all0)
    have V_dd_406 := V_dd_405.keep K406 (ninS ne_dd_b403 nin0)
    have r404_0_406 := r404_0_405.keep K406
    have Ex405_406 := Ex405.keep K406
    have Fc405_406 := Fc405.keep K406 (ninS (Exa.ne Ex405 r404_0_405 (by decide)) nin0)
    have Fv405_406 := Fv405.keep K406 (ninS (Exa.ne Ex405 r404_0_405 (by decide)) nin0)
    have Va405_406 := Va405.keep K406 (ninS (Exa.ne Eb405 r404_0_405 (by decide)) nin0)
    have Eb405_406 := Eb405.keep K406
    have Z406 : n0 ≤ T406.heap.size := Nat.le_trans Z405 K406.1
    have hk406 : k405 ≤ T406.heap.size := Nat.le_trans hk405 K406.1
    have N406 := Fr.app N404 Nq406
    show own_Fin _ _ _ _ (T406.setTop (mkF m 27 #[iv p1, iv p2, iv p3, iv p4, iv p5, iv (1 : Int32), rv b403, .unset, .unset, .unset, .unset] [(.int (1 : Int32))]))
    refine own_go (XS.pop X406.here hx rfl (hb hby at_27) rfl rfl (Steps.refl _)) ?_
    show own_Fin _ _ _ _ (T406.setTop (mkF m 28 #[iv p1, iv p2, iv p3, iv p4, iv p5, iv (1 : Int32), rv b403, .unset, .unset, .unset, .unset] []))
    refine own_go (XS.iload X406.here hx rfl (hb hby at_28) rfl (Steps.refl _)) ?_
    show own_Fin _ _ _ _ (T406.setTop (mkF m 30 #[iv p1, iv p2, iv p3, iv p4, iv p5, iv (1 : Int32), rv b403, .unset, .unset, .unset, .unset] [(.int (1 : Int32))]))
    refine own_go (XS.iconst X406.here hx rfl (hb hby at_30) (Steps.refl _)) ?_
    show own_Fin _ _ _ _ (T406.setTop (mkF m 31 #[iv p1, iv p2, iv p3, iv p4, iv p5, iv (1 : Int32), rv b403, .unset, .unset, .unset, .unset] [(.int (2 : Int32)), (.int (1 : Int32))]))
    refine own_go (XS.icmpYes X406.here hx rfl (pc0 := 31) (pc' := 42) rfl (hb hby at_31) rfl (tlt (by decide : (1 : Int32) < (2 : Int32))).1 (by decide) (by decide) (Steps.refl _)) ?_
    show own_Fin _ _ _ _ (T406.setTop (mkF m 42 #[iv p1, iv p2, iv p3, iv p4, iv p5, iv (1 : Int32), rv b403, .unset, .unset, .unset, .unset] []))
    refine own_go (XS.iload X406.here hx rfl (hb hby at_42) rfl (Steps.refl _)) ?_
    show own_Fin _ _ _ _ (T406.setTop (mkF m 44 #[iv p1, iv p2, iv p3, iv p4, iv p5, iv (1 : Int32), rv b403, .unset, .unset, .unset, .unset] [(.int (1 : Int32))]))
    refine own_go (XS.iconst X406.here hx rfl (hb hby at_44) (Steps.refl _)) ?_
    show own_Fin _ _ _ _ (T406.setTop (mkF m 45 #[iv p1, iv p2, iv p3, iv p4, iv p5, iv (1 : Int32), rv b403, .unset, .unset, .unset, .unset] [(.int (3 : Int32)), (.int (1 : Int32))]))
    refine own_go (XS.icmpYes X406.here hx rfl (pc0 := 45) (pc' := 56) rfl (hb hby at_45) rfl (tlt (by decide : (1 : Int32) < (3 : Int32))).1 (by decide) (by decide) (Steps.refl _)) ?_
    show own_Fin _ _ _ _ (T406.setTop (mkF m 56 #[iv p1, iv p2, iv p3, iv p4, iv p5, iv (1 : Int32), rv b403, .unset, .unset, .unset, .unset] []))
    obtain ⟨T407, h407, X407, e407, E407, A407, D407, U407, st407⟩ := newO X406 hx hZ405 hown405 (hw _ (List.mem_of_getElem? (i := 26) rfl)) (hw _ (List.mem_of_getElem? (i := 27) rfl)) (hw _ (List.mem_of_getElem? (i := 28) rfl)) rfl (g := (mkF m 56 #[iv p1, iv p2, iv p3, iv p4, iv p5, iv (1 : Int32), rv b403, .unset, .unset, .unset, .unset] [])) rfl (hb hby at_56) (by decide) (by decide)
    obtain ⟨b407, g407⟩ : ∃ z, z = T406.heap.size := ⟨_, rfl⟩
    rw [← g407] at A407 D407 U407 st407
    refine own_by st407 ?_
    have ne_dd_b407 : dd ≠ b407 := Nat.ne_of_lt (Nat.lt_of_lt_of_eq V_dd_406.lt g407.symm)
    have ne_b403_b407 : b403 ≠ b407 := Nat.ne_of_lt (Nat.lt_of_lt_of_eq r406_0.lt g407.symm)
    have ne_a405_b407 : a405 ≠ b407 := Nat.ne_of_lt (Nat.lt_of_lt_of_eq Ex405_406.lt g407.symm)
    have ne_b405_b407 : b405 ≠ b407 := Nat.ne_of_lt (Nat.lt_of_lt_of_eq Va405_406.lt g407.symm)
    have ne_b_406_b407 : b_406 ≠ b407 := Nat.ne_of_lt (Nat.lt_of_lt_of_eq r406_4.lt g407.symm)
    have Od407 := Od406.ext E407
    have V_dd_407 := V_dd_406.ext E407
    have r406_0_407 := r406_0.ext E407
    have Ex405_407 := Ex405_406.ext E407
    have Fc405_407 := Fc405_406.ext E407
    have Fv405_407 := Fv405_406.ext E407
    have Va405_407 := Va405_406.ext E407
    have Eb405_407 := Eb405_406.ext E407
    have r406_1_407 := r406_1.ext E407
    have r406_2_407 := r406_2.ext E407
    have r406_3_407 := r406_3.ext E407
    have r406_4_407 := r406_4.ext E407
    have r406_5_407 := r406_5.ext E407
    have g_b407 : n0 ≤ b407 := Nat.le_trans Z406 (Nat.le_of_eq g407.symm)
    have Z407 : n0 ≤ h407.size := Nat.le_trans Z406 E407.1
    have hk407 : k405 ≤ h407.size := Nat.le_trans hk406 E407.1
    have E_b407 := A407
    have F_ids_b407 : Fld Z h407 b407 "com/example/gridtally/gridtally/casefile/IdSequence" "ids" "[[B" .null := D407 (Or.inr (hw _ (List.mem_of_getElem? (i := 47) rfl))) (ty := (.array (.array .byte))) (by decide)
    have F_none_b407 : Fld Z h407 b407 "com/example/gridtally/gridtally/casefile/IdSequence" "none" "I" (.int (0 : Int32)) := D407 (Or.inr (hw _ (List.mem_of_getElem? (i := 49) rfl))) (ty := .int) (by decide)
    have F_following_b407 : Fld Z h407 b407 "com/example/gridtally/gridtally/casefile/IdSequence" "following" "[I" .null := D407 (Or.inr (hw _ (List.mem_of_getElem? (i := 52) rfl))) (ty := (.array .int)) (by decide)
    have F_last_b407 : Fld Z h407 b407 "com/example/gridtally/gridtally/casefile/IdSequence" "last" "I" (.int (0 : Int32)) := D407 (Or.inl (hw _ (List.mem_of_getElem? (i := 58) rfl))) (ty := .int) (by decide)
    show own_Fin _ _ _ _ (T407.setTop (mkF m 59 #[iv p1, iv p2, iv p3, iv p4, iv p5, iv (1 : Int32), rv b403, .unset, .unset, .unset, .unset] [(.ref b407)]))
    refine own_go (XS.dup X407.here hx rfl (hb hby at_59) rfl rfl (Steps.refl _)) ?_
    show own_Fin _ _ _ _ (T407.setTop (mkF m 60 #[iv p1, iv p2, iv p3, iv p4, iv p5, iv (1 : Int32), rv b403, .unset, .unset, .unset, .unset] [(.ref b407), (.ref b407)]))
    refine own_go (XS.aload X407.here hx rfl (hb hby at_60) rfl rfl (Steps.refl _)) ?_
    show own_Fin _ _ _ _ (T407.setTop (mkF m 62 #[iv p1, iv p2, iv p3, iv p4, iv p5, iv (1 : Int32), rv b403, .unset, .unset, .unset, .unset] [(.ref b403), (.ref b407), (.ref b407)]))
    obtain ⟨_, _, ⟨T408, L408, k408, n408⟩, -, X408, ⟨Lc408, hQ408, l408, y408, z408⟩, st408⟩ := X407.specialBack hx (y := (⟨"com/example/gridtally/gridtally/casefile/IdSequence", "<init>", "(Ljava/util/List;)V"⟩ : MethodName)) rfl hown405 (mvT hZ405 (hw _ (List.mem_of_getElem? (i := 29) rfl))) (mvT hZ405 (hw _ (List.mem_of_getElem? (i := 30) rfl))) (mvT hZ405 (hw _ (List.mem_of_getElem? (i := 31) rfl))) (by decide) (backOf (W := 1) (rminit_1 l Z a0 hw [] b407 b403 u cs b_406 kb_406 a405 b405 kc405 h407 n0 Z407 E_b407 F_ids_b407 F_none_b407 F_following_b407 F_last_b407 g_b407 Od407 S_INSTANCE S_UTF_8 S_COMPACT_STRINGS hcs r406_0_407 r406_3_407 r406_2_407 r406_4_407 Ex405_407 Fc405_407 Fv405_407 Va405_407 Eb405_407) hZ405 (hw _ (List.mem_of_getElem? (i := 31) rfl)) (hw _ (List.mem_of_getElem? (i := 28) rfl)) (by decide) (by decide)) (g := (mkF m 62 #[iv p1, iv p2, iv p3, iv p4, iv p5, iv (1 : Int32), rv b403, .unset, .unset, .unset, .unset] [(.ref b403), (.ref b407), (.ref b407)])) rfl (by rw [hml]; rfl) (Steps.refl _) (a := b407) (argsL := [(.ref b403)]) (rest := [(.ref b407)]) (lenOf pd__28_Ljava_2f_util_2f_List_3b__29_V rfl) rfl (by show 2 * 0 + _ ≤ _; exact Nat.le_of_eq rfl) (hb hby at_62) (fun _ _ => ⟨rfl, e407, (by decide : 5 + 3 ≤ _), (by decide : 25 + 4 ≤ _)⟩)
    dsimp only [Pt.U, Pt.locs, Pt.cells, Pt.slots] at X408 l408 y408 z408 st408 hQ408
    subst l408 y408 z408
    refine own_go st408 ?_
    obtain ⟨bi_408, bf_408, x0_408, ki_408, kf_408, rfl, Nq408, K408, g_bi_408, sb_bi_408, g_bf_408, sb_bf_408, g_x0_408, sb_x0_408, r408_0, r408_1, r408_2, r408_3, r408_4, r408_5, r408_6⟩ := hQ408
    have ne_dd_bi_408 : dd ≠ bi_408 := Nat.ne_of_lt (Nat.lt_of_lt_of_le V_dd_407.lt sb_bi_408)
    have ne_b403_bi_408 : b403 ≠ bi_408 := Nat.ne_of_lt (Nat.lt_of_lt_of_le r406_0_407.lt sb_bi_408)
    have ne_a405_bi_408 : a405 ≠ bi_408 := Nat.ne_of_lt (Nat.lt_of_lt_of_le Ex405_407.lt sb_bi_408)
    have ne_b405_bi_408 : b405 ≠ bi_408 := Nat.ne_of_lt (Nat.lt_of_lt_of_le Va405_407.lt sb_bi_408)
    have ne_b_406_bi_408 : b_406 ≠ bi_408 := Nat.ne_of_lt (Nat.lt_of_lt_of_le r406_4_407.lt sb_bi_408)
    have ne_b407_bi_408 : b407 ≠ bi_408 := Nat.ne_of_lt (Nat.lt_of_lt_of_le E_b407.lt sb_bi_408)
    have ne_dd_bf_408 : dd ≠ bf_408 := Nat.ne_of_lt (Nat.lt_of_lt_of_le V_dd_407.lt sb_bf_408)
    have ne_b403_bf_408 : b403 ≠ bf_408 := Nat.ne_of_lt (Nat.lt_of_lt_of_le r406_0_407.lt sb_bf_408)
    have ne_a405_bf_408 : a405 ≠ bf_408 := Nat.ne_of_lt (Nat.lt_of_lt_of_le Ex405_407.lt sb_bf_408)
    have ne_b405_bf_408 : b405 ≠ bf_408 := Nat.ne_of_lt (Nat.lt_of_lt_of_le Va405_407.lt sb_bf_408)
    have ne_b_406_bf_408 : b_406 ≠ bf_408 := Nat.ne_of_lt (Nat.lt_of_lt_of_le r406_4_407.lt sb_bf_408)
    have ne_b407_bf_408 : b407 ≠ bf_408 := Nat.ne_of_lt (Nat.lt_of_lt_of_le E_b407.lt sb_bf_408)
    have ne_dd_x0_408 : dd ≠ x0_408 := Nat.ne_of_lt (Nat.lt_of_lt_of_le V_dd_407.lt sb_x0_408)
    have ne_b403_x0_408 : b403 ≠ x0_408 := Nat.ne_of_lt (Nat.lt_of_lt_of_le r406_0_407.lt sb_x0_408)
    have ne_a405_x0_408 : a405 ≠ x0_408 := Nat.ne_of_lt (Nat.lt_of_lt_of_le Ex405_407.lt sb_x0_408)
    have ne_b405_x0_408 : b405 ≠ x0_408 := Nat.ne_of_lt (Nat.lt_of_lt_of_le Va405_407.lt sb_x0_408)
    have ne_b_406_x0_408 : b_406 ≠ x0_408 := Nat.ne_of_lt (Nat.lt_of_lt_of_le r406_4_407.lt sb_x0_408)
    have ne_b407_x0_408 : b407 ≠ x0_408 := Nat.ne_of_lt (Nat.lt_of_lt_of_le E_b407.lt sb_x0_408)
    have Od408 := Od407.keep K408 (allS g_b407 all0)
    have V_dd_408 := V_dd_407.keep K408 (ninS ne_dd_b407 nin0)
    have r406_0_408 := r406_0_407.keep K408
    have Ex405_408 := Ex405_407.keep K408
    have Fc405_408 := Fc405_407.keep K408 (ninS ne_a405_b407 nin0)
    have Fv405_408 := Fv405_407.keep K408 (ninS ne_a405_b407 nin0)
    have Va405_408 := Va405_407.keep K408 (ninS ne_b405_b407 nin0)
    have Eb405_408 := Eb405_407.keep K408
    have r406_1_408 := r406_1_407.keep K408 (ninS ne_b403_b407 nin0)
    have r406_2_408 := r406_2_407.keep K408 (ninS ne_b403_b407 nin0)
    have r406_3_408 := r406_3_407.keep K408 (ninS ne_b403_b407 nin0)
    have r406_4_408 := r406_4_407.keep K408 (ninS ne_b_406_b407 nin0)
    have r406_5_408 := r406_5_407.keep K408
    have E_b407_408 := E_b407.keep K408
    have Z408 : n0 ≤ T408.heap.size := Nat.le_trans Z407 K408.1
    have hk408 : k405 ≤ T408.heap.size := Nat.le_trans hk407 K408.1
    have N408 := Fr.app N406 Nq408
    show own_Fin _ _ _ _ (T408.setTop (mkF m 65 #[iv p1, iv p2, iv p3, iv p4, iv p5, iv (1 : Int32), rv b403, .unset, .unset, .unset, .unset] [(.ref b407)]))
    refine own_go (XS.astore X408.here hx rfl (hb hby at_65) rfl rfl rfl (Steps.refl _)) ?_
    show own_Fin _ _ _ _ (T408.setTop (mkF m 67 #[iv p1, iv p2, iv p3, iv p4, iv p5, iv (1 : Int32), rv b403, rv b407, .unset, .unset, .unset] []))
    exact hj357 T408 _ T408.heap T405.vm k405 (1 : Int32) b403 b407 bi_408 bf_408 ki_408 kf_408 [(.ref x0_408)] (X408.more (by decide) (by decide)) rfl N408 hZ405 hown405 hS405 hk408 Z408 r408_0 r408_1 r408_2 r408_3 r408_4 r408_5 (by rw [show own_rs0 (1 : Int32) = [(-1 : Int32), (0 : Int32)] from by decide, show (1 : Int32) + (1 : Int32) = (2 : Int32) from rfl]; exact r408_6) g_b407 g_bf_408 (⟨⟨1, by decide⟩, rfl⟩) (ne_b407_bf_408) ((arv_ne r408_5 r408_6 (Or.inl (by decide)))) (ne_b407_bi_408)
  · show own_Fin _ _ _ _ (s₁.setTop (mkF m 5 #[iv p1, iv p2, iv p3, iv p4, iv p5, iv (2 : Int32), .unset, .unset, .unset, .unset, .unset] []))
    obtain ⟨T409, h409, X409, e409, E409, A409, D409, U409, st409⟩ := newO X0w hx hZ hown (hw _ (List.mem_of_getElem? (i := 0) rfl)) (hw _ (List.mem_of_getElem? (i := 1) rfl)) (hw _ (List.mem_of_getElem? (i := 2) rfl)) e0 (g := (mkF m 5 #[iv p1, iv p2, iv p3, iv p4, iv p5, iv (2 : Int32), .unset, .unset, .unset, .unset, .unset] [])) rfl (hb hby at_5) (by decide) (by decide)
    obtain ⟨b409, g409⟩ : ∃ z, z = h0.size := ⟨_, rfl⟩
    rw [← g409] at A409 D409 U409 st409
    refine own_by st409 ?_
    have ne_dd_b409 : dd ≠ b409 := Nat.ne_of_lt (Nat.lt_of_lt_of_eq V_dd.lt g409.symm)
    have Od409 := O0.ext E409
    have V_dd_409 := V_dd.ext E409
    have g_b409 : n0 ≤ b409 := Nat.le_trans Z0 (Nat.le_of_eq g409.symm)
    have Z409 : n0 ≤ h409.size := Nat.le_trans Z0 E409.1
    have hk409 : 0 ≤ h409.size := Nat.le_trans hk0 E409.1
    have E_b409 := A409
    have F_modCount_b409 : Fld Z h409 b409 "java/util/AbstractList" "modCount" "I" (.int (0 : Int32)) := D409 (Or.inl (hw _ (List.mem_of_getElem? (i := 22) rfl))) (ty := .int) (by decide)
    have F_elementData_b409 : Fld Z h409 b409 "java/util/ArrayList" "elementData" "[Ljava/lang/Object;" .null := D409 (Or.inl (hw _ (List.mem_of_getElem? (i := 25) rfl))) (ty := (.array (.object "java/lang/Object"))) (by decide)
    have F_size_b409 : Fld Z h409 b409 "java/util/ArrayList" "size" "I" (.int (0 : Int32)) := D409 (Or.inl (hw _ (List.mem_of_getElem? (i := 43) rfl))) (ty := .int) (by decide)
    show own_Fin _ _ _ _ (T409.setTop (mkF m 8 #[iv p1, iv p2, iv p3, iv p4, iv p5, iv (2 : Int32), .unset, .unset, .unset, .unset, .unset] [(.ref b409)]))
    refine own_go (XS.dup X409.here hx rfl (hb hby at_8) rfl rfl (Steps.refl _)) ?_
    show own_Fin _ _ _ _ (T409.setTop (mkF m 9 #[iv p1, iv p2, iv p3, iv p4, iv p5, iv (2 : Int32), .unset, .unset, .unset, .unset, .unset] [(.ref b409), (.ref b409)]))
    obtain ⟨_, _, ⟨T410, L410, k410, n410⟩, -, X410, ⟨Lc410, hQ410, l410, y410, z410⟩, st410⟩ := X409.specialBack hx (y := (⟨"java/util/ArrayList", "<init>", "()V"⟩ : MethodName)) rfl hown (mvT hZ (hw _ (List.mem_of_getElem? (i := 3) rfl))) (mvT hZ (hw _ (List.mem_of_getElem? (i := 4) rfl))) (mvT hZ (hw _ (List.mem_of_getElem? (i := 5) rfl))) (by decide) (backOf (W := 1) (rmali l Z a0 hw [] b409 dd h409 n0 Z409 E_b409 F_modCount_b409 F_elementData_b409 F_size_b409 g_b409 Od409 S_DEFAULTCAPACITY_EMPTY_ELEMENTDATA) hZ (hw _ (List.mem_of_getElem? (i := 5) rfl)) (hw _ (List.mem_of_getElem? (i := 2) rfl)) (by decide) (by decide)) (g := (mkF m 9 #[iv p1, iv p2, iv p3, iv p4, iv p5, iv (2 : Int32), .unset, .unset, .unset, .unset, .unset] [(.ref b409), (.ref b409)])) rfl (by rw [hml]; rfl) (Steps.refl _) (a := b409) (argsL := []) (rest := [(.ref b409)]) (lenOf pd__28__29_V rfl) rfl (by show 2 * 0 + _ ≤ _; exact Nat.le_of_eq rfl) (hb hby at_9) (fun _ _ => ⟨rfl, e409, (by decide : 1 + 0 ≤ _), (by decide : 3 + 0 ≤ _)⟩)
    dsimp only [Pt.U, Pt.locs, Pt.cells, Pt.slots] at X410 l410 y410 z410 st410 hQ410
    subst l410 y410 z410
    refine own_go st410 ?_
    obtain ⟨rfl, Nq410, K410, r410_0, r410_1, r410_2, r410_3⟩ := hQ410
    have Od410 := Od409.keep K410 (allS g_b409 all0)
    have V_dd_410 := V_dd_409.keep K410 (ninS ne_dd_b409 nin0)
    have E_b409_410 := E_b409.keep K410
    have Z410 : n0 ≤ T410.heap.size := Nat.le_trans Z409 K410.1
    have hk410 : 0 ≤ T410.heap.size := Nat.le_trans hk409 K410.1
    have N410 := Fr.app N0 Nq410
    show own_Fin _ _ _ _ (T410.setTop (mkF m 12 #[iv p1, iv p2, iv p3, iv p4, iv p5, iv (2 : Int32), .unset, .unset, .unset, .unset, .unset] [(.ref b409)]))
    refine own_go (XS.astore X410.here hx rfl (hb hby at_12) rfl rfl rfl (Steps.refl _)) ?_
    show own_Fin _ _ _ _ (T410.setTop (mkF m 14 #[iv p1, iv p2, iv p3, iv p4, iv p5, iv (2 : Int32), rv b409, .unset, .unset, .unset, .unset] []))
    refine own_go (XS.iload X410.here hx rfl (hb hby at_14) rfl (Steps.refl _)) ?_
    show own_Fin _ _ _ _ (T410.setTop (mkF m 16 #[iv p1, iv p2, iv p3, iv p4, iv p5, iv (2 : Int32), rv b409, .unset, .unset, .unset, .unset] [(.int (2 : Int32))]))
    refine own_go (XS.iconst X410.here hx rfl (hb hby at_16) (Steps.refl _)) ?_
    show own_Fin _ _ _ _ (T410.setTop (mkF m 17 #[iv p1, iv p2, iv p3, iv p4, iv p5, iv (2 : Int32), rv b409, .unset, .unset, .unset, .unset] [(.int (1 : Int32)), (.int (2 : Int32))]))
    refine own_go (XS.icmpNo X410.here hx rfl (hb hby at_17) rfl (flt (by decide : ¬ ((2 : Int32) < (1 : Int32)))).1 (Steps.refl _)) ?_
    show own_Fin _ _ _ _ (T410.setTop (mkF m 20 #[iv p1, iv p2, iv p3, iv p4, iv p5, iv (2 : Int32), rv b409, .unset, .unset, .unset, .unset] []))
    refine own_go (XS.aload X410.here hx rfl (hb hby at_20) rfl rfl (Steps.refl _)) ?_
    show own_Fin _ _ _ _ (T410.setTop (mkF m 22 #[iv p1, iv p2, iv p3, iv p4, iv p5, iv (2 : Int32), rv b409, .unset, .unset, .unset, .unset] [(.ref b409)]))
    obtain ⟨a411, T411, h411, k411, b411, kc411, X411, e411, E411, hS411, hk411, hZ411, hown411, Ex411, Fc411, Fv411, Va411, Eb411, IB411, st411⟩ := own_ldcE (s := s) (vm0 := s.vm) X410 hx hZ hown (hw _ (List.mem_of_getElem? (i := 77) rfl)) wS rfl hS0 hk410 (show Fr s.heap.size _ by rw [es0, ← hn0]; exact N410) (fun b cl q => by rw [← hZs]; exact q) IB0 (by decide) hh1 hcw (vs := [.int (97 : Int32)]) (z := (1 : Int32)) ⟨by decide, by decide⟩ (by decide) (by decide) (g := (mkF m 22 #[iv p1, iv p2, iv p3, iv p4, iv p5, iv (2 : Int32), rv b409, .unset, .unset, .unset, .unset] [(.ref b409)])) rfl (hb hby at_22) (n := 4) (by decide) (by decide) (by decide) (by decide)
    refine own_by st411 ?_
    have Od411 := Od410.ext E411
    have V_dd_411 := V_dd_410.ext E411
    have r410_0_411 := r410_0.ext E411
    have r410_1_411 := r410_1.ext E411
    have r410_2_411 := r410_2.ext E411
    have r410_3_411 := r410_3.ext E411
    have Z411 : n0 ≤ h411.size := Nat.le_trans Z410 E411.1
    show own_Fin _ _ _ _ (T411.setTop (mkF m 24 #[iv p1, iv p2, iv p3, iv p4, iv p5, iv (2 : Int32), rv b409, .unset, .unset, .unset, .unset] [(.ref a411), (.ref b409)]))
    obtain ⟨cq412, kq412, q412a, q412b, q412c⟩ := isOf hZ411 e411 r410_0_411
    obtain ⟨_, _, ⟨T412, L412, k412, n412⟩, -, X412, ⟨Lc412, hQ412, l412, y412, z412⟩, st412⟩ := X411.virtualBack hx (y := (⟨"java/util/ArrayList", "add", "(Ljava/lang/Object;)Z"⟩ : MethodName)) (z := (⟨"java/util/ArrayList", "add", "(Ljava/lang/Object;)Z"⟩ : MethodName)) hown411 (mvT hZ411 (hw _ (List.mem_of_getElem? (i := 85) rfl))) (mvT hZ411 (hw _ (List.mem_of_getElem? (i := 86) rfl))) (notFace_of_selects (args := #[]) (mvT hZ411 (hw _ (List.mem_of_getElem? (i := 88) rfl)))) (mvT hZ411 (hw _ (List.mem_of_getElem? (i := 88) rfl))) (mvT hZ411 (hw _ (List.mem_of_getElem? (i := 87) rfl))) (by decide) (backOf (W := 0) (rmadd_0 l Z a0 hw [] b409 dd kd (0 : Int32) a411 h411 n0 Z411 r410_0_411 r410_1_411 r410_2_411 r410_3_411 V_dd_411 S_DEFAULTCAPACITY_EMPTY_ELEMENTDATA Od411 g_b409 Ex411) hZ411 (hw _ (List.mem_of_getElem? (i := 89) rfl)) (hw _ (List.mem_of_getElem? (i := 2) rfl)) (by decide) (by decide)) q412a q412c (g := (mkF m 24 #[iv p1, iv p2, iv p3, iv p4, iv p5, iv (2 : Int32), rv b409, .unset, .unset, .unset, .unset] [(.ref a411), (.ref b409)])) rfl (by rw [hml]; rfl) (Steps.refl _) (argsL := [(.ref a411)]) (rest := []) (lenOf pd__28_Ljava_2f_lang_2f_Object_3b__29_Z rfl) rfl (by show 2 * 0 + _ ≤ _; exact Nat.le_of_eq rfl) (hb hby at_24) (fun _ _ => ⟨rfl, e411, (by decide : 3 + 1 ≤ _), (by decide : 11 + 10 ≤ _)⟩)
    dsimp only [Pt.U, Pt.locs, Pt.cells, Pt.slots] at X412 l412 y412 z412 st412 hQ412
    subst l412 y412 z412
    refine own_go st412 ?_
    obtain ⟨b_412, kb_412, rfl, Nq412, K412, g_b_412, sb_b_412, r412_0, r412_1, r412_2, r412_3, r412_4, r412_5, r412_6⟩ := hQ412
    have ne_dd_b_412 : dd ≠ b_412 := Nat.ne_of_lt (Nat.lt_of_lt_of_le V_dd_411.lt sb_b_412)
    have ne_b409_b_412 : b409 ≠ b_412 := Nat.ne_of_lt (Nat.lt_of_lt_of_le r410_0_411.lt sb_b_412)
    have ne_a411_b_412 : a411 ≠ b_412 := Nat.ne_of_lt (Nat.lt_of_lt_of_le Ex411.lt sb_b_412)
    have ne_b411_b_412 : b411 ≠ b_412 := Nat.ne_of_lt (Nat.lt_of_lt_of_le Va411.lt sb_b_412)
    have Od412 := Od411.keep K412 (allS g_b409 all0)
    have V_dd_412 := V_dd_411.keep K412 (ninS ne_dd_b409 nin0)
    have r410_0_412 := r410_0_411.keep K412
    have Ex411_412 := Ex411.keep K412
    have Fc411_412 := Fc411.keep K412 (ninS (Exa.ne Ex411 r410_0_411 (by decide)) nin0)
    have Fv411_412 := Fv411.keep K412 (ninS (Exa.ne Ex411 r410_0_411 (by decide)) nin0)
    have Va411_412 := Va411.keep K412 (ninS (Exa.ne Eb411 r410_0_411 (by decide)) nin0)
    have Eb411_412 := Eb411.keep K412
    have Z412 : n0 ≤ T412.heap.size := Nat.le_trans Z411 K412.1
    have hk412 : k411 ≤ T412.heap.size := Nat.le_trans hk411 K412.1
    have N412 := Fr.app N410 Nq412
    show own_Fin _ _ _ _ (T412.setTop (mkF m 27 #[iv p1, iv p2, iv p3, iv p4, iv p5, iv (2 : Int32), rv b409, .unset, .unset, .unset, .unset] [(.int (1 : Int32))]))
    refine own_go (XS.pop X412.here hx rfl (hb hby at_27) rfl rfl (Steps.refl _)) ?_
    show own_Fin _ _ _ _ (T412.setTop (mkF m 28 #[iv p1, iv p2, iv p3, iv p4, iv p5, iv (2 : Int32), rv b409, .unset, .unset, .unset, .unset] []))
    refine own_go (XS.iload X412.here hx rfl (hb hby at_28) rfl (Steps.refl _)) ?_
    show own_Fin _ _ _ _ (T412.setTop (mkF m 30 #[iv p1, iv p2, iv p3, iv p4, iv p5, iv (2 : Int32), rv b409, .unset, .unset, .unset, .unset] [(.int (2 : Int32))]))
    refine own_go (XS.iconst X412.here hx rfl (hb hby at_30) (Steps.refl _)) ?_
    show own_Fin _ _ _ _ (T412.setTop (mkF m 31 #[iv p1, iv p2, iv p3, iv p4, iv p5, iv (2 : Int32), rv b409, .unset, .unset, .unset, .unset] [(.int (2 : Int32)), (.int (2 : Int32))]))
    refine own_go (XS.icmpNo X412.here hx rfl (hb hby at_31) rfl (flt (by decide : ¬ ((2 : Int32) < (2 : Int32)))).1 (Steps.refl _)) ?_
    show own_Fin _ _ _ _ (T412.setTop (mkF m 34 #[iv p1, iv p2, iv p3, iv p4, iv p5, iv (2 : Int32), rv b409, .unset, .unset, .unset, .unset] []))
    refine own_go (XS.aload X412.here hx rfl (hb hby at_34) rfl rfl (Steps.refl _)) ?_
    show own_Fin _ _ _ _ (T412.setTop (mkF m 36 #[iv p1, iv p2, iv p3, iv p4, iv p5, iv (2 : Int32), rv b409, .unset, .unset, .unset, .unset] [(.ref b409)]))
    obtain ⟨a413, T413, h413, k413, b413, kc413, X413, e413, E413, hS413, hk413, hZ413, hown413, Ex413, Fc413, Fv413, Va413, Eb413, IB413, st413⟩ := own_ldcE (s := s) (vm0 := T411.vm) X412 hx hZ411 hown411 (hw _ (List.mem_of_getElem? (i := 114) rfl)) wS rfl hS411 hk412 (show Fr s.heap.size _ by rw [es0, ← hn0]; exact N412) (fun b cl q => by rw [← hZs]; exact q) IB411 (by decide) hh2 hcw (vs := [.int (98 : Int32)]) (z := (1 : Int32)) ⟨by decide, by decide⟩ (by decide) (by decide) (g := (mkF m 36 #[iv p1, iv p2, iv p3, iv p4, iv p5, iv (2 : Int32), rv b409, .unset, .unset, .unset, .unset] [(.ref b409)])) rfl (hb hby at_36) (n := 4) (by decide) (by decide) (by decide) (by decide)
    refine own_by st413 ?_
    have Od413 := Od412.ext E413
    have V_dd_413 := V_dd_412.ext E413
    have r412_0_413 := r412_0.ext E413
    have Ex411_413 := Ex411_412.ext E413
    have Fc411_413 := Fc411_412.ext E413
    have Fv411_413 := Fv411_412.ext E413
    have Va411_413 := Va411_412.ext E413
    have Eb411_413 := Eb411_412.ext E413
    have r412_1_413 := r412_1.ext E413
    have r412_2_413 := r412_2.ext E413
    have r412_3_413 := r412_3.ext E413
    have r412_4_413 := r412_4.ext E413
    have r412_5_413 := r412_5.ext E413
    have Z413 : n0 ≤ h413.size := Nat.le_trans Z412 E413.1
    show own_Fin _ _ _ _ (T413.setTop (mkF m 38 #[iv p1, iv p2, iv p3, iv p4, iv p5, iv (2 : Int32), rv b409, .unset, .unset, .unset, .unset] [(.ref a413), (.ref b409)]))
    obtain ⟨cq414, kq414, q414a, q414b, q414c⟩ := isOf hZ413 e413 r412_0_413
    obtain ⟨_, _, ⟨T414, L414, k414, n414⟩, -, X414, ⟨Lc414, hQ414, l414, y414, z414⟩, st414⟩ := X413.virtualBack hx (y := (⟨"java/util/ArrayList", "add", "(Ljava/lang/Object;)Z"⟩ : MethodName)) (z := (⟨"java/util/ArrayList", "add", "(Ljava/lang/Object;)Z"⟩ : MethodName)) hown413 (mvT hZ413 (hw _ (List.mem_of_getElem? (i := 85) rfl))) (mvT hZ413 (hw _ (List.mem_of_getElem? (i := 86) rfl))) (notFace_of_selects (args := #[]) (mvT hZ413 (hw _ (List.mem_of_getElem? (i := 88) rfl)))) (mvT hZ413 (hw _ (List.mem_of_getElem? (i := 88) rfl))) (mvT hZ413 (hw _ (List.mem_of_getElem? (i := 87) rfl))) (by decide) (backOf (W := 0) (rmadd_1 l Z a0 hw [] b409 a413 b_412 kb_412 ((0 : Int32) + (1 : Int32)) a411 h413 n0 Z413 r412_0_413 r412_1_413 r412_2_413 r412_3_413 r412_4_413 r412_6 Ex413 g_b409 g_b_412 ne_b409_b_412) hZ413 (hw _ (List.mem_of_getElem? (i := 89) rfl)) (hw _ (List.mem_of_getElem? (i := 2) rfl)) (by decide) (by decide)) q414a q414c (g := (mkF m 38 #[iv p1, iv p2, iv p3, iv p4, iv p5, iv (2 : Int32), rv b409, .unset, .unset, .unset, .unset] [(.ref a413), (.ref b409)])) rfl (by rw [hml]; rfl) (Steps.refl _) (argsL := [(.ref a413)]) (rest := []) (lenOf pd__28_Ljava_2f_lang_2f_Object_3b__29_Z rfl) rfl (by show 2 * 0 + _ ≤ _; exact Nat.le_of_eq rfl) (hb hby at_38) (fun _ _ => ⟨rfl, e413, (by decide : 6 + 0 ≤ _), (by decide : 29 + 0 ≤ _)⟩)
    dsimp only [Pt.U, Pt.locs, Pt.cells, Pt.slots] at X414 l414 y414 z414 st414 hQ414
    subst l414 y414 z414
    refine own_go st414 ?_
    obtain ⟨rfl, Nq414, K414, r414_0, r414_1, r414_2, r414_3, r414_4⟩ := hQ414
    have Od414 := Od413.keep K414 (allS g_b409 (allS g_b_412 all0))
    have V_dd_414 := V_dd_413.keep K414 (ninS ne_dd_b409 (ninS ne_dd_b_412 nin0))
    have r412_0_414 := r412_0_413.keep K414
    have Ex411_414 := Ex411_413.keep K414
    have Fc411_414 := Fc411_413.keep K414 (ninS (Exa.ne Ex411_413 r412_0_413 (by decide)) (ninS ne_a411_b_412 nin0))
    have Fv411_414 := Fv411_413.keep K414 (ninS (Exa.ne Ex411_413 r412_0_413 (by decide)) (ninS ne_a411_b_412 nin0))
    have Va411_414 := Va411_413.keep K414 (ninS (Exa.ne Eb411_413 r412_0_413 (by decide)) (ninS ne_b411_b_412 nin0))
    have Eb411_414 := Eb411_413.keep K414
    have r412_5_414 := r412_5_413.keep K414
    have Ex413_414 := Ex413.keep K414
    have Fc413_414 := Fc413.keep K414 (ninS (Exa.ne Ex413 r412_0_413 (by decide)) (ninS (Exa.ne Ex413 r412_5_413 (by decide)) nin0))
    have Fv413_414 := Fv413.keep K414 (ninS (Exa.ne Ex413 r412_0_413 (by decide)) (ninS (Exa.ne Ex413 r412_5_413 (by decide)) nin0))
    have Va413_414 := Va413.keep K414 (ninS (Exa.ne Eb413 r412_0_413 (by decide)) (ninS (Exa.ne Eb413 r412_5_413 (by decide)) nin0))
    have Eb413_414 := Eb413.keep K414
    have Z414 : n0 ≤ T414.heap.size := Nat.le_trans Z413 K414.1
    have hk414 : k413 ≤ T414.heap.size := Nat.le_trans hk413 K414.1
    have N414 := Fr.app N412 Nq414
    show own_Fin _ _ _ _ (T414.setTop (mkF m 41 #[iv p1, iv p2, iv p3, iv p4, iv p5, iv (2 : Int32), rv b409, .unset, .unset, .unset, .unset] [(.int (1 : Int32))]))
    refine own_go (XS.pop X414.here hx rfl (hb hby at_41) rfl rfl (Steps.refl _)) ?_
    show own_Fin _ _ _ _ (T414.setTop (mkF m 42 #[iv p1, iv p2, iv p3, iv p4, iv p5, iv (2 : Int32), rv b409, .unset, .unset, .unset, .unset] []))
    refine own_go (XS.iload X414.here hx rfl (hb hby at_42) rfl (Steps.refl _)) ?_
    show own_Fin _ _ _ _ (T414.setTop (mkF m 44 #[iv p1, iv p2, iv p3, iv p4, iv p5, iv (2 : Int32), rv b409, .unset, .unset, .unset, .unset] [(.int (2 : Int32))]))
    refine own_go (XS.iconst X414.here hx rfl (hb hby at_44) (Steps.refl _)) ?_
    show own_Fin _ _ _ _ (T414.setTop (mkF m 45 #[iv p1, iv p2, iv p3, iv p4, iv p5, iv (2 : Int32), rv b409, .unset, .unset, .unset, .unset] [(.int (3 : Int32)), (.int (2 : Int32))]))
    refine own_go (XS.icmpYes X414.here hx rfl (pc0 := 45) (pc' := 56) rfl (hb hby at_45) rfl (tlt (by decide : (2 : Int32) < (3 : Int32))).1 (by decide) (by decide) (Steps.refl _)) ?_
    show own_Fin _ _ _ _ (T414.setTop (mkF m 56 #[iv p1, iv p2, iv p3, iv p4, iv p5, iv (2 : Int32), rv b409, .unset, .unset, .unset, .unset] []))
    obtain ⟨T415, h415, X415, e415, E415, A415, D415, U415, st415⟩ := newO X414 hx hZ413 hown413 (hw _ (List.mem_of_getElem? (i := 26) rfl)) (hw _ (List.mem_of_getElem? (i := 27) rfl)) (hw _ (List.mem_of_getElem? (i := 28) rfl)) rfl (g := (mkF m 56 #[iv p1, iv p2, iv p3, iv p4, iv p5, iv (2 : Int32), rv b409, .unset, .unset, .unset, .unset] [])) rfl (hb hby at_56) (by decide) (by decide)
    obtain ⟨b415, g415⟩ : ∃ z, z = T414.heap.size := ⟨_, rfl⟩
    rw [← g415] at A415 D415 U415 st415
    refine own_by st415 ?_
    have ne_dd_b415 : dd ≠ b415 := Nat.ne_of_lt (Nat.lt_of_lt_of_eq V_dd_414.lt g415.symm)
    have ne_b409_b415 : b409 ≠ b415 := Nat.ne_of_lt (Nat.lt_of_lt_of_eq r414_0.lt g415.symm)
    have ne_a411_b415 : a411 ≠ b415 := Nat.ne_of_lt (Nat.lt_of_lt_of_eq Ex411_414.lt g415.symm)
    have ne_b411_b415 : b411 ≠ b415 := Nat.ne_of_lt (Nat.lt_of_lt_of_eq Va411_414.lt g415.symm)
    have ne_b_412_b415 : b_412 ≠ b415 := Nat.ne_of_lt (Nat.lt_of_lt_of_eq r412_5_414.lt g415.symm)
    have ne_a413_b415 : a413 ≠ b415 := Nat.ne_of_lt (Nat.lt_of_lt_of_eq Ex413_414.lt g415.symm)
    have ne_b413_b415 : b413 ≠ b415 := Nat.ne_of_lt (Nat.lt_of_lt_of_eq Va413_414.lt g415.symm)
    have Od415 := Od414.ext E415
    have V_dd_415 := V_dd_414.ext E415
    have r414_0_415 := r414_0.ext E415
    have Ex411_415 := Ex411_414.ext E415
    have Fc411_415 := Fc411_414.ext E415
    have Fv411_415 := Fv411_414.ext E415
    have Va411_415 := Va411_414.ext E415
    have Eb411_415 := Eb411_414.ext E415
    have r412_5_415 := r412_5_414.ext E415
    have Ex413_415 := Ex413_414.ext E415
    have Fc413_415 := Fc413_414.ext E415
    have Fv413_415 := Fv413_414.ext E415
    have Va413_415 := Va413_414.ext E415
    have Eb413_415 := Eb413_414.ext E415
    have r414_1_415 := r414_1.ext E415
    have r414_2_415 := r414_2.ext E415
    have r414_3_415 := r414_3.ext E415
    have r414_4_415 := r414_4.ext E415
    have g_b415 : n0 ≤ b415 := Nat.le_trans Z414 (Nat.le_of_eq g415.symm)
    have Z415 : n0 ≤ h415.size := Nat.le_trans Z414 E415.1
    have hk415 : k413 ≤ h415.size := Nat.le_trans hk414 E415.1
    have E_b415 := A415
    have F_ids_b415 : Fld Z h415 b415 "com/example/gridtally/gridtally/casefile/IdSequence" "ids" "[[B" .null := D415 (Or.inr (hw _ (List.mem_of_getElem? (i := 47) rfl))) (ty := (.array (.array .byte))) (by decide)
    have F_none_b415 : Fld Z h415 b415 "com/example/gridtally/gridtally/casefile/IdSequence" "none" "I" (.int (0 : Int32)) := D415 (Or.inr (hw _ (List.mem_of_getElem? (i := 49) rfl))) (ty := .int) (by decide)
    have F_following_b415 : Fld Z h415 b415 "com/example/gridtally/gridtally/casefile/IdSequence" "following" "[I" .null := D415 (Or.inr (hw _ (List.mem_of_getElem? (i := 52) rfl))) (ty := (.array .int)) (by decide)
    have F_last_b415 : Fld Z h415 b415 "com/example/gridtally/gridtally/casefile/IdSequence" "last" "I" (.int (0 : Int32)) := D415 (Or.inl (hw _ (List.mem_of_getElem? (i := 58) rfl))) (ty := .int) (by decide)
    show own_Fin _ _ _ _ (T415.setTop (mkF m 59 #[iv p1, iv p2, iv p3, iv p4, iv p5, iv (2 : Int32), rv b409, .unset, .unset, .unset, .unset] [(.ref b415)]))
    refine own_go (XS.dup X415.here hx rfl (hb hby at_59) rfl rfl (Steps.refl _)) ?_
    show own_Fin _ _ _ _ (T415.setTop (mkF m 60 #[iv p1, iv p2, iv p3, iv p4, iv p5, iv (2 : Int32), rv b409, .unset, .unset, .unset, .unset] [(.ref b415), (.ref b415)]))
    refine own_go (XS.aload X415.here hx rfl (hb hby at_60) rfl rfl (Steps.refl _)) ?_
    show own_Fin _ _ _ _ (T415.setTop (mkF m 62 #[iv p1, iv p2, iv p3, iv p4, iv p5, iv (2 : Int32), rv b409, .unset, .unset, .unset, .unset] [(.ref b409), (.ref b415), (.ref b415)]))
    obtain ⟨_, _, ⟨T416, L416, k416, n416⟩, -, X416, ⟨Lc416, hQ416, l416, y416, z416⟩, st416⟩ := X415.specialBack hx (y := (⟨"com/example/gridtally/gridtally/casefile/IdSequence", "<init>", "(Ljava/util/List;)V"⟩ : MethodName)) rfl hown413 (mvT hZ413 (hw _ (List.mem_of_getElem? (i := 29) rfl))) (mvT hZ413 (hw _ (List.mem_of_getElem? (i := 30) rfl))) (mvT hZ413 (hw _ (List.mem_of_getElem? (i := 31) rfl))) (by decide) (backOf (W := 1) (rminit_2 l Z a0 hw [] b415 b409 u cs b_412 kb_412 a411 a413 b411 b413 kc411 kc413 h415 n0 Z415 E_b415 F_ids_b415 F_none_b415 F_following_b415 F_last_b415 g_b415 Od415 S_INSTANCE S_UTF_8 S_COMPACT_STRINGS hcs r414_0_415 r414_3_415 r414_2_415 r414_4_415 Ex411_415 Fc411_415 Fv411_415 Va411_415 Eb411_415 Ex413_415 Fc413_415 Fv413_415 Va413_415 Eb413_415) hZ413 (hw _ (List.mem_of_getElem? (i := 31) rfl)) (hw _ (List.mem_of_getElem? (i := 28) rfl)) (by decide) (by decide)) (g := (mkF m 62 #[iv p1, iv p2, iv p3, iv p4, iv p5, iv (2 : Int32), rv b409, .unset, .unset, .unset, .unset] [(.ref b409), (.ref b415), (.ref b415)])) rfl (by rw [hml]; rfl) (Steps.refl _) (a := b415) (argsL := [(.ref b409)]) (rest := [(.ref b415)]) (lenOf pd__28_Ljava_2f_util_2f_List_3b__29_V rfl) rfl (by show 2 * 0 + _ ≤ _; exact Nat.le_of_eq rfl) (hb hby at_62) (fun _ _ => ⟨rfl, e415, (by decide : 7 + 4 ≤ _), (by decide : 33 + 7 ≤ _)⟩)
    dsimp only [Pt.U, Pt.locs, Pt.cells, Pt.slots] at X416 l416 y416 z416 st416 hQ416
    subst l416 y416 z416
    refine own_go st416 ?_
    obtain ⟨bi_416, bf_416, x0_416, x1_416, ki_416, kf_416, rfl, Nq416, K416, g_bi_416, sb_bi_416, g_bf_416, sb_bf_416, g_x0_416, sb_x0_416, g_x1_416, sb_x1_416, r416_0, r416_1, r416_2, r416_3, r416_4, r416_5, r416_6⟩ := hQ416
    have ne_dd_bi_416 : dd ≠ bi_416 := Nat.ne_of_lt (Nat.lt_of_lt_of_le V_dd_415.lt sb_bi_416)
    have ne_b409_bi_416 : b409 ≠ bi_416 := Nat.ne_of_lt (Nat.lt_of_lt_of_le r414_0_415.lt sb_bi_416)
    have ne_a411_bi_416 : a411 ≠ bi_416 := Nat.ne_of_lt (Nat.lt_of_lt_of_le Ex411_415.lt sb_bi_416)
    have ne_b411_bi_416 : b411 ≠ bi_416 := Nat.ne_of_lt (Nat.lt_of_lt_of_le Va411_415.lt sb_bi_416)
    have ne_b_412_bi_416 : b_412 ≠ bi_416 := Nat.ne_of_lt (Nat.lt_of_lt_of_le r412_5_415.lt sb_bi_416)
    have ne_a413_bi_416 : a413 ≠ bi_416 := Nat.ne_of_lt (Nat.lt_of_lt_of_le Ex413_415.lt sb_bi_416)
    have ne_b413_bi_416 : b413 ≠ bi_416 := Nat.ne_of_lt (Nat.lt_of_lt_of_le Va413_415.lt sb_bi_416)
    have ne_b415_bi_416 : b415 ≠ bi_416 := Nat.ne_of_lt (Nat.lt_of_lt_of_le E_b415.lt sb_bi_416)
    have ne_dd_bf_416 : dd ≠ bf_416 := Nat.ne_of_lt (Nat.lt_of_lt_of_le V_dd_415.lt sb_bf_416)
    have ne_b409_bf_416 : b409 ≠ bf_416 := Nat.ne_of_lt (Nat.lt_of_lt_of_le r414_0_415.lt sb_bf_416)
    have ne_a411_bf_416 : a411 ≠ bf_416 := Nat.ne_of_lt (Nat.lt_of_lt_of_le Ex411_415.lt sb_bf_416)
    have ne_b411_bf_416 : b411 ≠ bf_416 := Nat.ne_of_lt (Nat.lt_of_lt_of_le Va411_415.lt sb_bf_416)
    have ne_b_412_bf_416 : b_412 ≠ bf_416 := Nat.ne_of_lt (Nat.lt_of_lt_of_le r412_5_415.lt sb_bf_416)
    have ne_a413_bf_416 : a413 ≠ bf_416 := Nat.ne_of_lt (Nat.lt_of_lt_of_le Ex413_415.lt sb_bf_416)
    have ne_b413_bf_416 : b413 ≠ bf_416 := Nat.ne_of_lt (Nat.lt_of_lt_of_le Va413_415.lt sb_bf_416)
    have ne_b415_bf_416 : b415 ≠ bf_416 := Nat.ne_of_lt (Nat.lt_of_lt_of_le E_b415.lt sb_bf_416)
    have ne_dd_x0_416 : dd ≠ x0_416 := Nat.ne_of_lt (Nat.lt_of_lt_of_le V_dd_415.lt sb_x0_416)
    have ne_b409_x0_416 : b409 ≠ x0_416 := Nat.ne_of_lt (Nat.lt_of_lt_of_le r414_0_415.lt sb_x0_416)
    have ne_a411_x0_416 : a411 ≠ x0_416 := Nat.ne_of_lt (Nat.lt_of_lt_of_le Ex411_415.lt sb_x0_416)
    have ne_b411_x0_416 : b411 ≠ x0_416 := Nat.ne_of_lt (Nat.lt_of_lt_of_le Va411_415.lt sb_x0_416)
    have ne_b_412_x0_416 : b_412 ≠ x0_416 := Nat.ne_of_lt (Nat.lt_of_lt_of_le r412_5_415.lt sb_x0_416)
    have ne_a413_x0_416 : a413 ≠ x0_416 := Nat.ne_of_lt (Nat.lt_of_lt_of_le Ex413_415.lt sb_x0_416)
    have ne_b413_x0_416 : b413 ≠ x0_416 := Nat.ne_of_lt (Nat.lt_of_lt_of_le Va413_415.lt sb_x0_416)
    have ne_b415_x0_416 : b415 ≠ x0_416 := Nat.ne_of_lt (Nat.lt_of_lt_of_le E_b415.lt sb_x0_416)
    have ne_dd_x1_416 : dd ≠ x1_416 := Nat.ne_of_lt (Nat.lt_of_lt_of_le V_dd_415.lt sb_x1_416)
    have ne_b409_x1_416 : b409 ≠ x1_416 := Nat.ne_of_lt (Nat.lt_of_lt_of_le r414_0_415.lt sb_x1_416)
    have ne_a411_x1_416 : a411 ≠ x1_416 := Nat.ne_of_lt (Nat.lt_of_lt_of_le Ex411_415.lt sb_x1_416)
    have ne_b411_x1_416 : b411 ≠ x1_416 := Nat.ne_of_lt (Nat.lt_of_lt_of_le Va411_415.lt sb_x1_416)
    have ne_b_412_x1_416 : b_412 ≠ x1_416 := Nat.ne_of_lt (Nat.lt_of_lt_of_le r412_5_415.lt sb_x1_416)
    have ne_a413_x1_416 : a413 ≠ x1_416 := Nat.ne_of_lt (Nat.lt_of_lt_of_le Ex413_415.lt sb_x1_416)
    have ne_b413_x1_416 : b413 ≠ x1_416 := Nat.ne_of_lt (Nat.lt_of_lt_of_le Va413_415.lt sb_x1_416)
    have ne_b415_x1_416 : b415 ≠ x1_416 := Nat.ne_of_lt (Nat.lt_of_lt_of_le E_b415.lt sb_x1_416)
    have Od416 := Od415.keep K416 (allS g_b415 all0)
    have V_dd_416 := V_dd_415.keep K416 (ninS ne_dd_b415 nin0)
    have r414_0_416 := r414_0_415.keep K416
    have Ex411_416 := Ex411_415.keep K416
    have Fc411_416 := Fc411_415.keep K416 (ninS ne_a411_b415 nin0)
    have Fv411_416 := Fv411_415.keep K416 (ninS ne_a411_b415 nin0)
    have Va411_416 := Va411_415.keep K416 (ninS ne_b411_b415 nin0)
    have Eb411_416 := Eb411_415.keep K416
    have r412_5_416 := r412_5_415.keep K416
    have Ex413_416 := Ex413_415.keep K416
    have Fc413_416 := Fc413_415.keep K416 (ninS ne_a413_b415 nin0)
    have Fv413_416 := Fv413_415.keep K416 (ninS ne_a413_b415 nin0)
    have Va413_416 := Va413_415.keep K416 (ninS ne_b413_b415 nin0)
    have Eb413_416 := Eb413_415.keep K416
    have r414_1_416 := r414_1_415.keep K416 (ninS ne_b409_b415 nin0)
    have r414_2_416 := r414_2_415.keep K416 (ninS ne_b409_b415 nin0)
    have r414_3_416 := r414_3_415.keep K416 (ninS ne_b409_b415 nin0)
    have r414_4_416 := r414_4_415.keep K416 (ninS ne_b_412_b415 nin0)
    have E_b415_416 := E_b415.keep K416
    have Z416 : n0 ≤ T416.heap.size := Nat.le_trans Z415 K416.1
    have hk416 : k413 ≤ T416.heap.size := Nat.le_trans hk415 K416.1
    have N416 := Fr.app N414 Nq416
    show own_Fin _ _ _ _ (T416.setTop (mkF m 65 #[iv p1, iv p2, iv p3, iv p4, iv p5, iv (2 : Int32), rv b409, .unset, .unset, .unset, .unset] [(.ref b415)]))
    refine own_go (XS.astore X416.here hx rfl (hb hby at_65) rfl rfl rfl (Steps.refl _)) ?_
    show own_Fin _ _ _ _ (T416.setTop (mkF m 67 #[iv p1, iv p2, iv p3, iv p4, iv p5, iv (2 : Int32), rv b409, rv b415, .unset, .unset, .unset] []))
    exact hj357 T416 _ T416.heap T413.vm k413 (2 : Int32) b409 b415 bi_416 bf_416 ki_416 kf_416 [(.ref x0_416), (.ref x1_416)] (X416.more (by decide) (by decide)) rfl N416 hZ413 hown413 hS413 hk416 Z416 r416_0 r416_1 r416_2 r416_3 r416_4 r416_5 (by rw [show own_rs0 (2 : Int32) = [(-1 : Int32), (-1 : Int32), (0 : Int32)] from by decide, show (2 : Int32) + (1 : Int32) = (3 : Int32) from rfl]; exact r416_6) g_b415 g_bf_416 (⟨⟨2, by decide⟩, rfl⟩) (ne_b415_bf_416) ((arv_ne r416_5 r416_6 (Or.inl (by decide)))) (ne_b415_bi_416)
  · show own_Fin _ _ _ _ (s₁.setTop (mkF m 5 #[iv p1, iv p2, iv p3, iv p4, iv p5, iv (3 : Int32), .unset, .unset, .unset, .unset, .unset] []))
    obtain ⟨T417, h417, X417, e417, E417, A417, D417, U417, st417⟩ := newO X0w hx hZ hown (hw _ (List.mem_of_getElem? (i := 0) rfl)) (hw _ (List.mem_of_getElem? (i := 1) rfl)) (hw _ (List.mem_of_getElem? (i := 2) rfl)) e0 (g := (mkF m 5 #[iv p1, iv p2, iv p3, iv p4, iv p5, iv (3 : Int32), .unset, .unset, .unset, .unset, .unset] [])) rfl (hb hby at_5) (by decide) (by decide)
    obtain ⟨b417, g417⟩ : ∃ z, z = h0.size := ⟨_, rfl⟩
    rw [← g417] at A417 D417 U417 st417
    refine own_by st417 ?_
    have ne_dd_b417 : dd ≠ b417 := Nat.ne_of_lt (Nat.lt_of_lt_of_eq V_dd.lt g417.symm)
    have Od417 := O0.ext E417
    have V_dd_417 := V_dd.ext E417
    have g_b417 : n0 ≤ b417 := Nat.le_trans Z0 (Nat.le_of_eq g417.symm)
    have Z417 : n0 ≤ h417.size := Nat.le_trans Z0 E417.1
    have hk417 : 0 ≤ h417.size := Nat.le_trans hk0 E417.1
    have E_b417 := A417
    have F_modCount_b417 : Fld Z h417 b417 "java/util/AbstractList" "modCount" "I" (.int (0 : Int32)) := D417 (Or.inl (hw _ (List.mem_of_getElem? (i := 22) rfl))) (ty := .int) (by decide)
    have F_elementData_b417 : Fld Z h417 b417 "java/util/ArrayList" "elementData" "[Ljava/lang/Object;" .null := D417 (Or.inl (hw _ (List.mem_of_getElem? (i := 25) rfl))) (ty := (.array (.object "java/lang/Object"))) (by decide)
    have F_size_b417 : Fld Z h417 b417 "java/util/ArrayList" "size" "I" (.int (0 : Int32)) := D417 (Or.inl (hw _ (List.mem_of_getElem? (i := 43) rfl))) (ty := .int) (by decide)
    show own_Fin _ _ _ _ (T417.setTop (mkF m 8 #[iv p1, iv p2, iv p3, iv p4, iv p5, iv (3 : Int32), .unset, .unset, .unset, .unset, .unset] [(.ref b417)]))
    refine own_go (XS.dup X417.here hx rfl (hb hby at_8) rfl rfl (Steps.refl _)) ?_
    show own_Fin _ _ _ _ (T417.setTop (mkF m 9 #[iv p1, iv p2, iv p3, iv p4, iv p5, iv (3 : Int32), .unset, .unset, .unset, .unset, .unset] [(.ref b417), (.ref b417)]))
    obtain ⟨_, _, ⟨T418, L418, k418, n418⟩, -, X418, ⟨Lc418, hQ418, l418, y418, z418⟩, st418⟩ := X417.specialBack hx (y := (⟨"java/util/ArrayList", "<init>", "()V"⟩ : MethodName)) rfl hown (mvT hZ (hw _ (List.mem_of_getElem? (i := 3) rfl))) (mvT hZ (hw _ (List.mem_of_getElem? (i := 4) rfl))) (mvT hZ (hw _ (List.mem_of_getElem? (i := 5) rfl))) (by decide) (backOf (W := 1) (rmali l Z a0 hw [] b417 dd h417 n0 Z417 E_b417 F_modCount_b417 F_elementData_b417 F_size_b417 g_b417 Od417 S_DEFAULTCAPACITY_EMPTY_ELEMENTDATA) hZ (hw _ (List.mem_of_getElem? (i := 5) rfl)) (hw _ (List.mem_of_getElem? (i := 2) rfl)) (by decide) (by decide)) (g := (mkF m 9 #[iv p1, iv p2, iv p3, iv p4, iv p5, iv (3 : Int32), .unset, .unset, .unset, .unset, .unset] [(.ref b417), (.ref b417)])) rfl (by rw [hml]; rfl) (Steps.refl _) (a := b417) (argsL := []) (rest := [(.ref b417)]) (lenOf pd__28__29_V rfl) rfl (by show 2 * 0 + _ ≤ _; exact Nat.le_of_eq rfl) (hb hby at_9) (fun _ _ => ⟨rfl, e417, (by decide : 1 + 0 ≤ _), (by decide : 3 + 0 ≤ _)⟩)
    dsimp only [Pt.U, Pt.locs, Pt.cells, Pt.slots] at X418 l418 y418 z418 st418 hQ418
    subst l418 y418 z418
    refine own_go st418 ?_
    obtain ⟨rfl, Nq418, K418, r418_0, r418_1, r418_2, r418_3⟩ := hQ418
    have Od418 := Od417.keep K418 (allS g_b417 all0)
    have V_dd_418 := V_dd_417.keep K418 (ninS ne_dd_b417 nin0)
    have E_b417_418 := E_b417.keep K418
    have Z418 : n0 ≤ T418.heap.size := Nat.le_trans Z417 K418.1
    have hk418 : 0 ≤ T418.heap.size := Nat.le_trans hk417 K418.1
    have N418 := Fr.app N0 Nq418
    show own_Fin _ _ _ _ (T418.setTop (mkF m 12 #[iv p1, iv p2, iv p3, iv p4, iv p5, iv (3 : Int32), .unset, .unset, .unset, .unset, .unset] [(.ref b417)]))
    refine own_go (XS.astore X418.here hx rfl (hb hby at_12) rfl rfl rfl (Steps.refl _)) ?_
    show own_Fin _ _ _ _ (T418.setTop (mkF m 14 #[iv p1, iv p2, iv p3, iv p4, iv p5, iv (3 : Int32), rv b417, .unset, .unset, .unset, .unset] []))
    refine own_go (XS.iload X418.here hx rfl (hb hby at_14) rfl (Steps.refl _)) ?_
    show own_Fin _ _ _ _ (T418.setTop (mkF m 16 #[iv p1, iv p2, iv p3, iv p4, iv p5, iv (3 : Int32), rv b417, .unset, .unset, .unset, .unset] [(.int (3 : Int32))]))
    refine own_go (XS.iconst X418.here hx rfl (hb hby at_16) (Steps.refl _)) ?_
    show own_Fin _ _ _ _ (T418.setTop (mkF m 17 #[iv p1, iv p2, iv p3, iv p4, iv p5, iv (3 : Int32), rv b417, .unset, .unset, .unset, .unset] [(.int (1 : Int32)), (.int (3 : Int32))]))
    refine own_go (XS.icmpNo X418.here hx rfl (hb hby at_17) rfl (flt (by decide : ¬ ((3 : Int32) < (1 : Int32)))).1 (Steps.refl _)) ?_
    show own_Fin _ _ _ _ (T418.setTop (mkF m 20 #[iv p1, iv p2, iv p3, iv p4, iv p5, iv (3 : Int32), rv b417, .unset, .unset, .unset, .unset] []))
    refine own_go (XS.aload X418.here hx rfl (hb hby at_20) rfl rfl (Steps.refl _)) ?_
    show own_Fin _ _ _ _ (T418.setTop (mkF m 22 #[iv p1, iv p2, iv p3, iv p4, iv p5, iv (3 : Int32), rv b417, .unset, .unset, .unset, .unset] [(.ref b417)]))
    obtain ⟨a419, T419, h419, k419, b419, kc419, X419, e419, E419, hS419, hk419, hZ419, hown419, Ex419, Fc419, Fv419, Va419, Eb419, IB419, st419⟩ := own_ldcE (s := s) (vm0 := s.vm) X418 hx hZ hown (hw _ (List.mem_of_getElem? (i := 77) rfl)) wS rfl hS0 hk418 (show Fr s.heap.size _ by rw [es0, ← hn0]; exact N418) (fun b cl q => by rw [← hZs]; exact q) IB0 (by decide) hh1 hcw (vs := [.int (97 : Int32)]) (z := (1 : Int32)) ⟨by decide, by decide⟩ (by decide) (by decide) (g := (mkF m 22 #[iv p1, iv p2, iv p3, iv p4, iv p5, iv (3 : Int32), rv b417, .unset, .unset, .unset, .unset] [(.ref b417)])) rfl (hb hby at_22) (n := 4) (by decide) (by decide) (by decide) (by decide)
    refine own_by st419 ?_
    have Od419 := Od418.ext E419
    have V_dd_419 := V_dd_418.ext E419
    have r418_0_419 := r418_0.ext E419
    have r418_1_419 := r418_1.ext E419
    have r418_2_419 := r418_2.ext E419
    have r418_3_419 := r418_3.ext E419
    have Z419 : n0 ≤ h419.size := Nat.le_trans Z418 E419.1
    show own_Fin _ _ _ _ (T419.setTop (mkF m 24 #[iv p1, iv p2, iv p3, iv p4, iv p5, iv (3 : Int32), rv b417, .unset, .unset, .unset, .unset] [(.ref a419), (.ref b417)]))
    obtain ⟨cq420, kq420, q420a, q420b, q420c⟩ := isOf hZ419 e419 r418_0_419
    obtain ⟨_, _, ⟨T420, L420, k420, n420⟩, -, X420, ⟨Lc420, hQ420, l420, y420, z420⟩, st420⟩ := X419.virtualBack hx (y := (⟨"java/util/ArrayList", "add", "(Ljava/lang/Object;)Z"⟩ : MethodName)) (z := (⟨"java/util/ArrayList", "add", "(Ljava/lang/Object;)Z"⟩ : MethodName)) hown419 (mvT hZ419 (hw _ (List.mem_of_getElem? (i := 85) rfl))) (mvT hZ419 (hw _ (List.mem_of_getElem? (i := 86) rfl))) (notFace_of_selects (args := #[]) (mvT hZ419 (hw _ (List.mem_of_getElem? (i := 88) rfl)))) (mvT hZ419 (hw _ (List.mem_of_getElem? (i := 88) rfl))) (mvT hZ419 (hw _ (List.mem_of_getElem? (i := 87) rfl))) (by decide) (backOf (W := 0) (rmadd_0 l Z a0 hw [] b417 dd kd (0 : Int32) a419 h419 n0 Z419 r418_0_419 r418_1_419 r418_2_419 r418_3_419 V_dd_419 S_DEFAULTCAPACITY_EMPTY_ELEMENTDATA Od419 g_b417 Ex419) hZ419 (hw _ (List.mem_of_getElem? (i := 89) rfl)) (hw _ (List.mem_of_getElem? (i := 2) rfl)) (by decide) (by decide)) q420a q420c (g := (mkF m 24 #[iv p1, iv p2, iv p3, iv p4, iv p5, iv (3 : Int32), rv b417, .unset, .unset, .unset, .unset] [(.ref a419), (.ref b417)])) rfl (by rw [hml]; rfl) (Steps.refl _) (argsL := [(.ref a419)]) (rest := []) (lenOf pd__28_Ljava_2f_lang_2f_Object_3b__29_Z rfl) rfl (by show 2 * 0 + _ ≤ _; exact Nat.le_of_eq rfl) (hb hby at_24) (fun _ _ => ⟨rfl, e419, (by decide : 3 + 1 ≤ _), (by decide : 11 + 10 ≤ _)⟩)
    dsimp only [Pt.U, Pt.locs, Pt.cells, Pt.slots] at X420 l420 y420 z420 st420 hQ420
    subst l420 y420 z420
    refine own_go st420 ?_
    obtain ⟨b_420, kb_420, rfl, Nq420, K420, g_b_420, sb_b_420, r420_0, r420_1, r420_2, r420_3, r420_4, r420_5, r420_6⟩ := hQ420
    have ne_dd_b_420 : dd ≠ b_420 := Nat.ne_of_lt (Nat.lt_of_lt_of_le V_dd_419.lt sb_b_420)
    have ne_b417_b_420 : b417 ≠ b_420 := Nat.ne_of_lt (Nat.lt_of_lt_of_le r418_0_419.lt sb_b_420)
    have ne_a419_b_420 : a419 ≠ b_420 := Nat.ne_of_lt (Nat.lt_of_lt_of_le Ex419.lt sb_b_420)
    have ne_b419_b_420 : b419 ≠ b_420 := Nat.ne_of_lt (Nat.lt_of_lt_of_le Va419.lt sb_b_420)
    have Od420 := Od419.keep K420 (allS g_b417 all0)
    have V_dd_420 := V_dd_419.keep K420 (ninS ne_dd_b417 nin0)
    have r418_0_420 := r418_0_419.keep K420
    have Ex419_420 := Ex419.keep K420
    have Fc419_420 := Fc419.keep K420 (ninS (Exa.ne Ex419 r418_0_419 (by decide)) nin0)
    have Fv419_420 := Fv419.keep K420 (ninS (Exa.ne Ex419 r418_0_419 (by decide)) nin0)
    have Va419_420 := Va419.keep K420 (ninS (Exa.ne Eb419 r418_0_419 (by decide)) nin0)
    have Eb419_420 := Eb419.keep K420
    have Z420 : n0 ≤ T420.heap.size := Nat.le_trans Z419 K420.1
    have hk420 : k419 ≤ T420.heap.size := Nat.le_trans hk419 K420.1
    have N420 := Fr.app N418 Nq420
    show own_Fin _ _ _ _ (T420.setTop (mkF m 27 #[iv p1, iv p2, iv p3, iv p4, iv p5, iv (3 : Int32), rv b417, .unset, .unset, .unset, .unset] [(.int (1 : Int32))]))
    refine own_go (XS.pop X420.here hx rfl (hb hby at_27) rfl rfl (Steps.refl _)) ?_
    show own_Fin _ _ _ _ (T420.setTop (mkF m 28 #[iv p1, iv p2, iv p3, iv p4, iv p5, iv (3 : Int32), rv b417, .unset, .unset, .unset, .unset] []))
    refine own_go (XS.iload X420.here hx rfl (hb hby at_28) rfl (Steps.refl _)) ?_
    show own_Fin _ _ _ _ (T420.setTop (mkF m 30 #[iv p1, iv p2, iv p3, iv p4, iv p5, iv (3 : Int32), rv b417, .unset, .unset, .unset, .unset] [(.int (3 : Int32))]))
    refine own_go (XS.iconst X420.here hx rfl (hb hby at_30) (Steps.refl _)) ?_
    show own_Fin _ _ _ _ (T420.setTop (mkF m 31 #[iv p1, iv p2, iv p3, iv p4, iv p5, iv (3 : Int32), rv b417, .unset, .unset, .unset, .unset] [(.int (2 : Int32)), (.int (3 : Int32))]))
    refine own_go (XS.icmpNo X420.here hx rfl (hb hby at_31) rfl (flt (by decide : ¬ ((3 : Int32) < (2 : Int32)))).1 (Steps.refl _)) ?_
    show own_Fin _ _ _ _ (T420.setTop (mkF m 34 #[iv p1, iv p2, iv p3, iv p4, iv p5, iv (3 : Int32), rv b417, .unset, .unset, .unset, .unset] []))
    refine own_go (XS.aload X420.here hx rfl (hb hby at_34) rfl rfl (Steps.refl _)) ?_
    show own_Fin _ _ _ _ (T420.setTop (mkF m 36 #[iv p1, iv p2, iv p3, iv p4, iv p5, iv (3 : Int32), rv b417, .unset, .unset, .unset, .unset] [(.ref b417)]))
    obtain ⟨a421, T421, h421, k421, b421, kc421, X421, e421, E421, hS421, hk421, hZ421, hown421, Ex421, Fc421, Fv421, Va421, Eb421, IB421, st421⟩ := own_ldcE (s := s) (vm0 := T419.vm) X420 hx hZ419 hown419 (hw _ (List.mem_of_getElem? (i := 114) rfl)) wS rfl hS419 hk420 (show Fr s.heap.size _ by rw [es0, ← hn0]; exact N420) (fun b cl q => by rw [← hZs]; exact q) IB419 (by decide) hh2 hcw (vs := [.int (98 : Int32)]) (z := (1 : Int32)) ⟨by decide, by decide⟩ (by decide) (by decide) (g := (mkF m 36 #[iv p1, iv p2, iv p3, iv p4, iv p5, iv (3 : Int32), rv b417, .unset, .unset, .unset, .unset] [(.ref b417)])) rfl (hb hby at_36) (n := 4) (by decide) (by decide) (by decide) (by decide)
    refine own_by st421 ?_
    have Od421 := Od420.ext E421
    have V_dd_421 := V_dd_420.ext E421
    have r420_0_421 := r420_0.ext E421
    have Ex419_421 := Ex419_420.ext E421
    have Fc419_421 := Fc419_420.ext E421
    have Fv419_421 := Fv419_420.ext E421
    have Va419_421 := Va419_420.ext E421
    have Eb419_421 := Eb419_420.ext E421
    have r420_1_421 := r420_1.ext E421
    have r420_2_421 := r420_2.ext E421
    have r420_3_421 := r420_3.ext E421
    have r420_4_421 := r420_4.ext E421
    have r420_5_421 := r420_5.ext E421
    have Z421 : n0 ≤ h421.size := Nat.le_trans Z420 E421.1
    show own_Fin _ _ _ _ (T421.setTop (mkF m 38 #[iv p1, iv p2, iv p3, iv p4, iv p5, iv (3 : Int32), rv b417, .unset, .unset, .unset, .unset] [(.ref a421), (.ref b417)]))
    obtain ⟨cq422, kq422, q422a, q422b, q422c⟩ := isOf hZ421 e421 r420_0_421
    obtain ⟨_, _, ⟨T422, L422, k422, n422⟩, -, X422, ⟨Lc422, hQ422, l422, y422, z422⟩, st422⟩ := X421.virtualBack hx (y := (⟨"java/util/ArrayList", "add", "(Ljava/lang/Object;)Z"⟩ : MethodName)) (z := (⟨"java/util/ArrayList", "add", "(Ljava/lang/Object;)Z"⟩ : MethodName)) hown421 (mvT hZ421 (hw _ (List.mem_of_getElem? (i := 85) rfl))) (mvT hZ421 (hw _ (List.mem_of_getElem? (i := 86) rfl))) (notFace_of_selects (args := #[]) (mvT hZ421 (hw _ (List.mem_of_getElem? (i := 88) rfl)))) (mvT hZ421 (hw _ (List.mem_of_getElem? (i := 88) rfl))) (mvT hZ421 (hw _ (List.mem_of_getElem? (i := 87) rfl))) (by decide) (backOf (W := 0) (rmadd_1 l Z a0 hw [] b417 a421 b_420 kb_420 ((0 : Int32) + (1 : Int32)) a419 h421 n0 Z421 r420_0_421 r420_1_421 r420_2_421 r420_3_421 r420_4_421 r420_6 Ex421 g_b417 g_b_420 ne_b417_b_420) hZ421 (hw _ (List.mem_of_getElem? (i := 89) rfl)) (hw _ (List.mem_of_getElem? (i := 2) rfl)) (by decide) (by decide)) q422a q422c (g := (mkF m 38 #[iv p1, iv p2, iv p3, iv p4, iv p5, iv (3 : Int32), rv b417, .unset, .unset, .unset, .unset] [(.ref a421), (.ref b417)])) rfl (by rw [hml]; rfl) (Steps.refl _) (argsL := [(.ref a421)]) (rest := []) (lenOf pd__28_Ljava_2f_lang_2f_Object_3b__29_Z rfl) rfl (by show 2 * 0 + _ ≤ _; exact Nat.le_of_eq rfl) (hb hby at_38) (fun _ _ => ⟨rfl, e421, (by decide : 6 + 0 ≤ _), (by decide : 29 + 0 ≤ _)⟩)
    dsimp only [Pt.U, Pt.locs, Pt.cells, Pt.slots] at X422 l422 y422 z422 st422 hQ422
    subst l422 y422 z422
    refine own_go st422 ?_
    obtain ⟨rfl, Nq422, K422, r422_0, r422_1, r422_2, r422_3, r422_4⟩ := hQ422
    have Od422 := Od421.keep K422 (allS g_b417 (allS g_b_420 all0))
    have V_dd_422 := V_dd_421.keep K422 (ninS ne_dd_b417 (ninS ne_dd_b_420 nin0))
    have r420_0_422 := r420_0_421.keep K422
    have Ex419_422 := Ex419_421.keep K422
    have Fc419_422 := Fc419_421.keep K422 (ninS (Exa.ne Ex419_421 r420_0_421 (by decide)) (ninS ne_a419_b_420 nin0))
    have Fv419_422 := Fv419_421.keep K422 (ninS (Exa.ne Ex419_421 r420_0_421 (by decide)) (ninS ne_a419_b_420 nin0))
    have Va419_422 := Va419_421.keep K422 (ninS (Exa.ne Eb419_421 r420_0_421 (by decide)) (ninS ne_b419_b_420 nin0))
    have Eb419_422 := Eb419_421.keep K422
    have r420_5_422 := r420_5_421.keep K422
    have Ex421_422 := Ex421.keep K422
    have Fc421_422 := Fc421.keep K422 (ninS (Exa.ne Ex421 r420_0_421 (by decide)) (ninS (Exa.ne Ex421 r420_5_421 (by decide)) nin0))
    have Fv421_422 := Fv421.keep K422 (ninS (Exa.ne Ex421 r420_0_421 (by decide)) (ninS (Exa.ne Ex421 r420_5_421 (by decide)) nin0))
    have Va421_422 := Va421.keep K422 (ninS (Exa.ne Eb421 r420_0_421 (by decide)) (ninS (Exa.ne Eb421 r420_5_421 (by decide)) nin0))
    have Eb421_422 := Eb421.keep K422
    have Z422 : n0 ≤ T422.heap.size := Nat.le_trans Z421 K422.1
    have hk422 : k421 ≤ T422.heap.size := Nat.le_trans hk421 K422.1
    have N422 := Fr.app N420 Nq422
    show own_Fin _ _ _ _ (T422.setTop (mkF m 41 #[iv p1, iv p2, iv p3, iv p4, iv p5, iv (3 : Int32), rv b417, .unset, .unset, .unset, .unset] [(.int (1 : Int32))]))
    refine own_go (XS.pop X422.here hx rfl (hb hby at_41) rfl rfl (Steps.refl _)) ?_
    show own_Fin _ _ _ _ (T422.setTop (mkF m 42 #[iv p1, iv p2, iv p3, iv p4, iv p5, iv (3 : Int32), rv b417, .unset, .unset, .unset, .unset] []))
    refine own_go (XS.iload X422.here hx rfl (hb hby at_42) rfl (Steps.refl _)) ?_
    show own_Fin _ _ _ _ (T422.setTop (mkF m 44 #[iv p1, iv p2, iv p3, iv p4, iv p5, iv (3 : Int32), rv b417, .unset, .unset, .unset, .unset] [(.int (3 : Int32))]))
    refine own_go (XS.iconst X422.here hx rfl (hb hby at_44) (Steps.refl _)) ?_
    show own_Fin _ _ _ _ (T422.setTop (mkF m 45 #[iv p1, iv p2, iv p3, iv p4, iv p5, iv (3 : Int32), rv b417, .unset, .unset, .unset, .unset] [(.int (3 : Int32)), (.int (3 : Int32))]))
    refine own_go (XS.icmpNo X422.here hx rfl (hb hby at_45) rfl (flt (by decide : ¬ ((3 : Int32) < (3 : Int32)))).1 (Steps.refl _)) ?_
    show own_Fin _ _ _ _ (T422.setTop (mkF m 48 #[iv p1, iv p2, iv p3, iv p4, iv p5, iv (3 : Int32), rv b417, .unset, .unset, .unset, .unset] []))
    refine own_go (XS.aload X422.here hx rfl (hb hby at_48) rfl rfl (Steps.refl _)) ?_
    show own_Fin _ _ _ _ (T422.setTop (mkF m 50 #[iv p1, iv p2, iv p3, iv p4, iv p5, iv (3 : Int32), rv b417, .unset, .unset, .unset, .unset] [(.ref b417)]))
    obtain ⟨a423, T423, h423, k423, b423, kc423, X423, e423, E423, hS423, hk423, hZ423, hown423, Ex423, Fc423, Fv423, Va423, Eb423, IB423, st423⟩ := own_ldcE (s := s) (vm0 := T421.vm) X422 hx hZ421 hown421 (hw _ (List.mem_of_getElem? (i := 115) rfl)) wS rfl hS421 hk422 (show Fr s.heap.size _ by rw [es0, ← hn0]; exact N422) (fun b cl q => by rw [← hZs]; exact q) IB421 (by decide) hh3 hcw (vs := [.int (99 : Int32)]) (z := (1 : Int32)) ⟨by decide, by decide⟩ (by decide) (by decide) (g := (mkF m 50 #[iv p1, iv p2, iv p3, iv p4, iv p5, iv (3 : Int32), rv b417, .unset, .unset, .unset, .unset] [(.ref b417)])) rfl (hb hby at_50) (n := 4) (by decide) (by decide) (by decide) (by decide)
    refine own_by st423 ?_
    have Od423 := Od422.ext E423
    have V_dd_423 := V_dd_422.ext E423
    have r422_0_423 := r422_0.ext E423
    have Ex419_423 := Ex419_422.ext E423
    have Fc419_423 := Fc419_422.ext E423
    have Fv419_423 := Fv419_422.ext E423
    have Va419_423 := Va419_422.ext E423
    have Eb419_423 := Eb419_422.ext E423
    have r420_5_423 := r420_5_422.ext E423
    have Ex421_423 := Ex421_422.ext E423
    have Fc421_423 := Fc421_422.ext E423
    have Fv421_423 := Fv421_422.ext E423
    have Va421_423 := Va421_422.ext E423
    have Eb421_423 := Eb421_422.ext E423
    have r422_1_423 := r422_1.ext E423
    have r422_2_423 := r422_2.ext E423
    have r422_3_423 := r422_3.ext E423
    have r422_4_423 := r422_4.ext E423
    have Z423 : n0 ≤ h423.size := Nat.le_trans Z422 E423.1
    show own_Fin _ _ _ _ (T423.setTop (mkF m 52 #[iv p1, iv p2, iv p3, iv p4, iv p5, iv (3 : Int32), rv b417, .unset, .unset, .unset, .unset] [(.ref a423), (.ref b417)]))
    obtain ⟨cq424, kq424, q424a, q424b, q424c⟩ := isOf hZ423 e423 r422_0_423
    obtain ⟨_, _, ⟨T424, L424, k424, n424⟩, -, X424, ⟨Lc424, hQ424, l424, y424, z424⟩, st424⟩ := X423.virtualBack hx (y := (⟨"java/util/ArrayList", "add", "(Ljava/lang/Object;)Z"⟩ : MethodName)) (z := (⟨"java/util/ArrayList", "add", "(Ljava/lang/Object;)Z"⟩ : MethodName)) hown423 (mvT hZ423 (hw _ (List.mem_of_getElem? (i := 85) rfl))) (mvT hZ423 (hw _ (List.mem_of_getElem? (i := 86) rfl))) (notFace_of_selects (args := #[]) (mvT hZ423 (hw _ (List.mem_of_getElem? (i := 88) rfl)))) (mvT hZ423 (hw _ (List.mem_of_getElem? (i := 88) rfl))) (mvT hZ423 (hw _ (List.mem_of_getElem? (i := 87) rfl))) (by decide) (backOf (W := 0) (rmadd_2 l Z a0 hw [] b417 a423 b_420 kb_420 (((0 : Int32) + (1 : Int32)) + (1 : Int32)) a419 a421 h423 n0 Z423 r422_0_423 r422_1_423 r422_2_423 r422_3_423 r422_4_423 r420_6 Ex423 g_b417 g_b_420 ne_b417_b_420) hZ423 (hw _ (List.mem_of_getElem? (i := 89) rfl)) (hw _ (List.mem_of_getElem? (i := 2) rfl)) (by decide) (by decide)) q424a q424c (g := (mkF m 52 #[iv p1, iv p2, iv p3, iv p4, iv p5, iv (3 : Int32), rv b417, .unset, .unset, .unset, .unset] [(.ref a423), (.ref b417)])) rfl (by rw [hml]; rfl) (Steps.refl _) (argsL := [(.ref a423)]) (rest := []) (lenOf pd__28_Ljava_2f_lang_2f_Object_3b__29_Z rfl) rfl (by show 2 * 0 + _ ≤ _; exact Nat.le_of_eq rfl) (hb hby at_52) (fun _ _ => ⟨rfl, e423, (by decide : 8 + 0 ≤ _), (by decide : 37 + 0 ≤ _)⟩)
    dsimp only [Pt.U, Pt.locs, Pt.cells, Pt.slots] at X424 l424 y424 z424 st424 hQ424
    subst l424 y424 z424
    refine own_go st424 ?_
    obtain ⟨rfl, Nq424, K424, r424_0, r424_1, r424_2, r424_3, r424_4⟩ := hQ424
    have Od424 := Od423.keep K424 (allS g_b417 (allS g_b_420 all0))
    have V_dd_424 := V_dd_423.keep K424 (ninS ne_dd_b417 (ninS ne_dd_b_420 nin0))
    have r422_0_424 := r422_0_423.keep K424
    have Ex419_424 := Ex419_423.keep K424
    have Fc419_424 := Fc419_423.keep K424 (ninS (Exa.ne Ex419_423 r422_0_423 (by decide)) (ninS ne_a419_b_420 nin0))
    have Fv419_424 := Fv419_423.keep K424 (ninS (Exa.ne Ex419_423 r422_0_423 (by decide)) (ninS ne_a419_b_420 nin0))
    have Va419_424 := Va419_423.keep K424 (ninS (Exa.ne Eb419_423 r422_0_423 (by decide)) (ninS ne_b419_b_420 nin0))
    have Eb419_424 := Eb419_423.keep K424
    have r420_5_424 := r420_5_423.keep K424
    have Ex421_424 := Ex421_423.keep K424
    have Fc421_424 := Fc421_423.keep K424 (ninS (Exa.ne Ex421_423 r422_0_423 (by decide)) (ninS (Exa.ne Ex421_423 r420_5_423 (by decide)) nin0))
    have Fv421_424 := Fv421_423.keep K424 (ninS (Exa.ne Ex421_423 r422_0_423 (by decide)) (ninS (Exa.ne Ex421_423 r420_5_423 (by decide)) nin0))
    have Va421_424 := Va421_423.keep K424 (ninS (Exa.ne Eb421_423 r422_0_423 (by decide)) (ninS (Exa.ne Eb421_423 r420_5_423 (by decide)) nin0))
    have Eb421_424 := Eb421_423.keep K424
    have Ex423_424 := Ex423.keep K424
    have Fc423_424 := Fc423.keep K424 (ninS (Exa.ne Ex423 r422_0_423 (by decide)) (ninS (Exa.ne Ex423 r420_5_423 (by decide)) nin0))
    have Fv423_424 := Fv423.keep K424 (ninS (Exa.ne Ex423 r422_0_423 (by decide)) (ninS (Exa.ne Ex423 r420_5_423 (by decide)) nin0))
    have Va423_424 := Va423.keep K424 (ninS (Exa.ne Eb423 r422_0_423 (by decide)) (ninS (Exa.ne Eb423 r420_5_423 (by decide)) nin0))
    have Eb423_424 := Eb423.keep K424
    have Z424 : n0 ≤ T424.heap.size := Nat.le_trans Z423 K424.1
    have hk424 : k423 ≤ T424.heap.size := Nat.le_trans hk423 K424.1
    have N424 := Fr.app N422 Nq424
    show own_Fin _ _ _ _ (T424.setTop (mkF m 55 #[iv p1, iv p2, iv p3, iv p4, iv p5, iv (3 : Int32), rv b417, .unset, .unset, .unset, .unset] [(.int (1 : Int32))]))
    refine own_go (XS.pop X424.here hx rfl (hb hby at_55) rfl rfl (Steps.refl _)) ?_
    show own_Fin _ _ _ _ (T424.setTop (mkF m 56 #[iv p1, iv p2, iv p3, iv p4, iv p5, iv (3 : Int32), rv b417, .unset, .unset, .unset, .unset] []))
    obtain ⟨T425, h425, X425, e425, E425, A425, D425, U425, st425⟩ := newO X424 hx hZ423 hown423 (hw _ (List.mem_of_getElem? (i := 26) rfl)) (hw _ (List.mem_of_getElem? (i := 27) rfl)) (hw _ (List.mem_of_getElem? (i := 28) rfl)) rfl (g := (mkF m 56 #[iv p1, iv p2, iv p3, iv p4, iv p5, iv (3 : Int32), rv b417, .unset, .unset, .unset, .unset] [])) rfl (hb hby at_56) (by decide) (by decide)
    obtain ⟨b425, g425⟩ : ∃ z, z = T424.heap.size := ⟨_, rfl⟩
    rw [← g425] at A425 D425 U425 st425
    refine own_by st425 ?_
    have ne_dd_b425 : dd ≠ b425 := Nat.ne_of_lt (Nat.lt_of_lt_of_eq V_dd_424.lt g425.symm)
    have ne_b417_b425 : b417 ≠ b425 := Nat.ne_of_lt (Nat.lt_of_lt_of_eq r424_0.lt g425.symm)
    have ne_a419_b425 : a419 ≠ b425 := Nat.ne_of_lt (Nat.lt_of_lt_of_eq Ex419_424.lt g425.symm)
    have ne_b419_b425 : b419 ≠ b425 := Nat.ne_of_lt (Nat.lt_of_lt_of_eq Va419_424.lt g425.symm)
    have ne_b_420_b425 : b_420 ≠ b425 := Nat.ne_of_lt (Nat.lt_of_lt_of_eq r420_5_424.lt g425.symm)
    have ne_a421_b425 : a421 ≠ b425 := Nat.ne_of_lt (Nat.lt_of_lt_of_eq Ex421_424.lt g425.symm)
    have ne_b421_b425 : b421 ≠ b425 := Nat.ne_of_lt (Nat.lt_of_lt_of_eq Va421_424.lt g425.symm)
    have ne_a423_b425 : a423 ≠ b425 := Nat.ne_of_lt (Nat.lt_of_lt_of_eq Ex423_424.lt g425.symm)
    have ne_b423_b425 : b423 ≠ b425 := Nat.ne_of_lt (Nat.lt_of_lt_of_eq Va423_424.lt g425.symm)
    have Od425 := Od424.ext E425
    have V_dd_425 := V_dd_424.ext E425
    have r424_0_425 := r424_0.ext E425
    have Ex419_425 := Ex419_424.ext E425
    have Fc419_425 := Fc419_424.ext E425
    have Fv419_425 := Fv419_424.ext E425
    have Va419_425 := Va419_424.ext E425
    have Eb419_425 := Eb419_424.ext E425
    have r420_5_425 := r420_5_424.ext E425
    have Ex421_425 := Ex421_424.ext E425
    have Fc421_425 := Fc421_424.ext E425
    have Fv421_425 := Fv421_424.ext E425
    have Va421_425 := Va421_424.ext E425
    have Eb421_425 := Eb421_424.ext E425
    have Ex423_425 := Ex423_424.ext E425
    have Fc423_425 := Fc423_424.ext E425
    have Fv423_425 := Fv423_424.ext E425
    have Va423_425 := Va423_424.ext E425
    have Eb423_425 := Eb423_424.ext E425
    have r424_1_425 := r424_1.ext E425
    have r424_2_425 := r424_2.ext E425
    have r424_3_425 := r424_3.ext E425
    have r424_4_425 := r424_4.ext E425
    have g_b425 : n0 ≤ b425 := Nat.le_trans Z424 (Nat.le_of_eq g425.symm)
    have Z425 : n0 ≤ h425.size := Nat.le_trans Z424 E425.1
    have hk425 : k423 ≤ h425.size := Nat.le_trans hk424 E425.1
    have E_b425 := A425
    have F_ids_b425 : Fld Z h425 b425 "com/example/gridtally/gridtally/casefile/IdSequence" "ids" "[[B" .null := D425 (Or.inr (hw _ (List.mem_of_getElem? (i := 47) rfl))) (ty := (.array (.array .byte))) (by decide)
    have F_none_b425 : Fld Z h425 b425 "com/example/gridtally/gridtally/casefile/IdSequence" "none" "I" (.int (0 : Int32)) := D425 (Or.inr (hw _ (List.mem_of_getElem? (i := 49) rfl))) (ty := .int) (by decide)
    have F_following_b425 : Fld Z h425 b425 "com/example/gridtally/gridtally/casefile/IdSequence" "following" "[I" .null := D425 (Or.inr (hw _ (List.mem_of_getElem? (i := 52) rfl))) (ty := (.array .int)) (by decide)
    have F_last_b425 : Fld Z h425 b425 "com/example/gridtally/gridtally/casefile/IdSequence" "last" "I" (.int (0 : Int32)) := D425 (Or.inl (hw _ (List.mem_of_getElem? (i := 58) rfl))) (ty := .int) (by decide)
    show own_Fin _ _ _ _ (T425.setTop (mkF m 59 #[iv p1, iv p2, iv p3, iv p4, iv p5, iv (3 : Int32), rv b417, .unset, .unset, .unset, .unset] [(.ref b425)]))
    refine own_go (XS.dup X425.here hx rfl (hb hby at_59) rfl rfl (Steps.refl _)) ?_
    show own_Fin _ _ _ _ (T425.setTop (mkF m 60 #[iv p1, iv p2, iv p3, iv p4, iv p5, iv (3 : Int32), rv b417, .unset, .unset, .unset, .unset] [(.ref b425), (.ref b425)]))
    refine own_go (XS.aload X425.here hx rfl (hb hby at_60) rfl rfl (Steps.refl _)) ?_
    show own_Fin _ _ _ _ (T425.setTop (mkF m 62 #[iv p1, iv p2, iv p3, iv p4, iv p5, iv (3 : Int32), rv b417, .unset, .unset, .unset, .unset] [(.ref b417), (.ref b425), (.ref b425)]))
    obtain ⟨_, _, ⟨T426, L426, k426, n426⟩, -, X426, ⟨Lc426, hQ426, l426, y426, z426⟩, st426⟩ := X425.specialBack hx (y := (⟨"com/example/gridtally/gridtally/casefile/IdSequence", "<init>", "(Ljava/util/List;)V"⟩ : MethodName)) rfl hown423 (mvT hZ423 (hw _ (List.mem_of_getElem? (i := 29) rfl))) (mvT hZ423 (hw _ (List.mem_of_getElem? (i := 30) rfl))) (mvT hZ423 (hw _ (List.mem_of_getElem? (i := 31) rfl))) (by decide) (backOf (W := 1) (rminit_3 l Z a0 hw [] b425 b417 u cs b_420 kb_420 a419 a421 a423 b419 b421 b423 kc419 kc421 kc423 h425 n0 Z425 E_b425 F_ids_b425 F_none_b425 F_following_b425 F_last_b425 g_b425 Od425 S_INSTANCE S_UTF_8 S_COMPACT_STRINGS hcs r424_0_425 r424_3_425 r424_2_425 r424_4_425 Ex419_425 Fc419_425 Fv419_425 Va419_425 Eb419_425 Ex421_425 Fc421_425 Fv421_425 Va421_425 Eb421_425 Ex423_425 Fc423_425 Fv423_425 Va423_425 Eb423_425) hZ423 (hw _ (List.mem_of_getElem? (i := 31) rfl)) (hw _ (List.mem_of_getElem? (i := 28) rfl)) (by decide) (by decide)) (g := (mkF m 62 #[iv p1, iv p2, iv p3, iv p4, iv p5, iv (3 : Int32), rv b417, .unset, .unset, .unset, .unset] [(.ref b417), (.ref b425), (.ref b425)])) rfl (by rw [hml]; rfl) (Steps.refl _) (a := b425) (argsL := [(.ref b417)]) (rest := [(.ref b425)]) (lenOf pd__28_Ljava_2f_util_2f_List_3b__29_V rfl) rfl (by show 2 * 0 + _ ≤ _; exact Nat.le_of_eq rfl) (hb hby at_62) (fun _ _ => ⟨rfl, e425, (by decide : 9 + 5 ≤ _), (by decide : 41 + 10 ≤ _)⟩)
    dsimp only [Pt.U, Pt.locs, Pt.cells, Pt.slots] at X426 l426 y426 z426 st426 hQ426
    subst l426 y426 z426
    refine own_go st426 ?_
    obtain ⟨bi_426, bf_426, x0_426, x1_426, x2_426, ki_426, kf_426, rfl, Nq426, K426, g_bi_426, sb_bi_426, g_bf_426, sb_bf_426, g_x0_426, sb_x0_426, g_x1_426, sb_x1_426, g_x2_426, sb_x2_426, r426_0, r426_1, r426_2, r426_3, r426_4, r426_5, r426_6⟩ := hQ426
    have ne_dd_bi_426 : dd ≠ bi_426 := Nat.ne_of_lt (Nat.lt_of_lt_of_le V_dd_425.lt sb_bi_426)
    have ne_b417_bi_426 : b417 ≠ bi_426 := Nat.ne_of_lt (Nat.lt_of_lt_of_le r424_0_425.lt sb_bi_426)
    have ne_a419_bi_426 : a419 ≠ bi_426 := Nat.ne_of_lt (Nat.lt_of_lt_of_le Ex419_425.lt sb_bi_426)
    have ne_b419_bi_426 : b419 ≠ bi_426 := Nat.ne_of_lt (Nat.lt_of_lt_of_le Va419_425.lt sb_bi_426)
    have ne_b_420_bi_426 : b_420 ≠ bi_426 := Nat.ne_of_lt (Nat.lt_of_lt_of_le r420_5_425.lt sb_bi_426)
    have ne_a421_bi_426 : a421 ≠ bi_426 := Nat.ne_of_lt (Nat.lt_of_lt_of_le Ex421_425.lt sb_bi_426)
    have ne_b421_bi_426 : b421 ≠ bi_426 := Nat.ne_of_lt (Nat.lt_of_lt_of_le Va421_425.lt sb_bi_426)
    have ne_a423_bi_426 : a423 ≠ bi_426 := Nat.ne_of_lt (Nat.lt_of_lt_of_le Ex423_425.lt sb_bi_426)
    have ne_b423_bi_426 : b423 ≠ bi_426 := Nat.ne_of_lt (Nat.lt_of_lt_of_le Va423_425.lt sb_bi_426)
    have ne_b425_bi_426 : b425 ≠ bi_426 := Nat.ne_of_lt (Nat.lt_of_lt_of_le E_b425.lt sb_bi_426)
    have ne_dd_bf_426 : dd ≠ bf_426 := Nat.ne_of_lt (Nat.lt_of_lt_of_le V_dd_425.lt sb_bf_426)
    have ne_b417_bf_426 : b417 ≠ bf_426 := Nat.ne_of_lt (Nat.lt_of_lt_of_le r424_0_425.lt sb_bf_426)
    have ne_a419_bf_426 : a419 ≠ bf_426 := Nat.ne_of_lt (Nat.lt_of_lt_of_le Ex419_425.lt sb_bf_426)
    have ne_b419_bf_426 : b419 ≠ bf_426 := Nat.ne_of_lt (Nat.lt_of_lt_of_le Va419_425.lt sb_bf_426)
    have ne_b_420_bf_426 : b_420 ≠ bf_426 := Nat.ne_of_lt (Nat.lt_of_lt_of_le r420_5_425.lt sb_bf_426)
    have ne_a421_bf_426 : a421 ≠ bf_426 := Nat.ne_of_lt (Nat.lt_of_lt_of_le Ex421_425.lt sb_bf_426)
    have ne_b421_bf_426 : b421 ≠ bf_426 := Nat.ne_of_lt (Nat.lt_of_lt_of_le Va421_425.lt sb_bf_426)
    have ne_a423_bf_426 : a423 ≠ bf_426 := Nat.ne_of_lt (Nat.lt_of_lt_of_le Ex423_425.lt sb_bf_426)
    have ne_b423_bf_426 : b423 ≠ bf_426 := Nat.ne_of_lt (Nat.lt_of_lt_of_le Va423_425.lt sb_bf_426)
    have ne_b425_bf_426 : b425 ≠ bf_426 := Nat.ne_of_lt (Nat.lt_of_lt_of_le E_b425.lt sb_bf_426)
    have ne_dd_x0_426 : dd ≠ x0_426 := Nat.ne_of_lt (Nat.lt_of_lt_of_le V_dd_425.lt sb_x0_426)
    have ne_b417_x0_426 : b417 ≠ x0_426 := Nat.ne_of_lt (Nat.lt_of_lt_of_le r424_0_425.lt sb_x0_426)
    have ne_a419_x0_426 : a419 ≠ x0_426 := Nat.ne_of_lt (Nat.lt_of_lt_of_le Ex419_425.lt sb_x0_426)
    have ne_b419_x0_426 : b419 ≠ x0_426 := Nat.ne_of_lt (Nat.lt_of_lt_of_le Va419_425.lt sb_x0_426)
    have ne_b_420_x0_426 : b_420 ≠ x0_426 := Nat.ne_of_lt (Nat.lt_of_lt_of_le r420_5_425.lt sb_x0_426)
    have ne_a421_x0_426 : a421 ≠ x0_426 := Nat.ne_of_lt (Nat.lt_of_lt_of_le Ex421_425.lt sb_x0_426)
    have ne_b421_x0_426 : b421 ≠ x0_426 := Nat.ne_of_lt (Nat.lt_of_lt_of_le Va421_425.lt sb_x0_426)
    have ne_a423_x0_426 : a423 ≠ x0_426 := Nat.ne_of_lt (Nat.lt_of_lt_of_le Ex423_425.lt sb_x0_426)
    have ne_b423_x0_426 : b423 ≠ x0_426 := Nat.ne_of_lt (Nat.lt_of_lt_of_le Va423_425.lt sb_x0_426)
    have ne_b425_x0_426 : b425 ≠ x0_426 := Nat.ne_of_lt (Nat.lt_of_lt_of_le E_b425.lt sb_x0_426)
    have ne_dd_x1_426 : dd ≠ x1_426 := Nat.ne_of_lt (Nat.lt_of_lt_of_le V_dd_425.lt sb_x1_426)
    have ne_b417_x1_426 : b417 ≠ x1_426 := Nat.ne_of_lt (Nat.lt_of_lt_of_le r424_0_425.lt sb_x1_426)
    have ne_a419_x1_426 : a419 ≠ x1_426 := Nat.ne_of_lt (Nat.lt_of_lt_of_le Ex419_425.lt sb_x1_426)
    have ne_b419_x1_426 : b419 ≠ x1_426 := Nat.ne_of_lt (Nat.lt_of_lt_of_le Va419_425.lt sb_x1_426)
    have ne_b_420_x1_426 : b_420 ≠ x1_426 := Nat.ne_of_lt (Nat.lt_of_lt_of_le r420_5_425.lt sb_x1_426)
    have ne_a421_x1_426 : a421 ≠ x1_426 := Nat.ne_of_lt (Nat.lt_of_lt_of_le Ex421_425.lt sb_x1_426)
    have ne_b421_x1_426 : b421 ≠ x1_426 := Nat.ne_of_lt (Nat.lt_of_lt_of_le Va421_425.lt sb_x1_426)
    have ne_a423_x1_426 : a423 ≠ x1_426 := Nat.ne_of_lt (Nat.lt_of_lt_of_le Ex423_425.lt sb_x1_426)
    have ne_b423_x1_426 : b423 ≠ x1_426 := Nat.ne_of_lt (Nat.lt_of_lt_of_le Va423_425.lt sb_x1_426)
    have ne_b425_x1_426 : b425 ≠ x1_426 := Nat.ne_of_lt (Nat.lt_of_lt_of_le E_b425.lt sb_x1_426)
    have ne_dd_x2_426 : dd ≠ x2_426 := Nat.ne_of_lt (Nat.lt_of_lt_of_le V_dd_425.lt sb_x2_426)
    have ne_b417_x2_426 : b417 ≠ x2_426 := Nat.ne_of_lt (Nat.lt_of_lt_of_le r424_0_425.lt sb_x2_426)
    have ne_a419_x2_426 : a419 ≠ x2_426 := Nat.ne_of_lt (Nat.lt_of_lt_of_le Ex419_425.lt sb_x2_426)
    have ne_b419_x2_426 : b419 ≠ x2_426 := Nat.ne_of_lt (Nat.lt_of_lt_of_le Va419_425.lt sb_x2_426)
    have ne_b_420_x2_426 : b_420 ≠ x2_426 := Nat.ne_of_lt (Nat.lt_of_lt_of_le r420_5_425.lt sb_x2_426)
    have ne_a421_x2_426 : a421 ≠ x2_426 := Nat.ne_of_lt (Nat.lt_of_lt_of_le Ex421_425.lt sb_x2_426)
    have ne_b421_x2_426 : b421 ≠ x2_426 := Nat.ne_of_lt (Nat.lt_of_lt_of_le Va421_425.lt sb_x2_426)
    have ne_a423_x2_426 : a423 ≠ x2_426 := Nat.ne_of_lt (Nat.lt_of_lt_of_le Ex423_425.lt sb_x2_426)
    have ne_b423_x2_426 : b423 ≠ x2_426 := Nat.ne_of_lt (Nat.lt_of_lt_of_le Va423_425.lt sb_x2_426)
    have ne_b425_x2_426 : b425 ≠ x2_426 := Nat.ne_of_lt (Nat.lt_of_lt_of_le E_b425.lt sb_x2_426)
    have Od426 := Od425.keep K426 (allS g_b425 all0)
    have V_dd_426 := V_dd_425.keep K426 (ninS ne_dd_b425 nin0)
    have r424_0_426 := r424_0_425.keep K426
    have Ex419_426 := Ex419_425.keep K426
    have Fc419_426 := Fc419_425.keep K426 (ninS ne_a419_b425 nin0)
    have Fv419_426 := Fv419_425.keep K426 (ninS ne_a419_b425 nin0)
    have Va419_426 := Va419_425.keep K426 (ninS ne_b419_b425 nin0)
    have Eb419_426 := Eb419_425.keep K426
    have r420_5_426 := r420_5_425.keep K426
    have Ex421_426 := Ex421_425.keep K426
    have Fc421_426 := Fc421_425.keep K426 (ninS ne_a421_b425 nin0)
    have Fv421_426 := Fv421_425.keep K426 (ninS ne_a421_b425 nin0)
    have Va421_426 := Va421_425.keep K426 (ninS ne_b421_b425 nin0)
    have Eb421_426 := Eb421_425.keep K426
    have Ex423_426 := Ex423_425.keep K426
    have Fc423_426 := Fc423_425.keep K426 (ninS ne_a423_b425 nin0)
    have Fv423_426 := Fv423_425.keep K426 (ninS ne_a423_b425 nin0)
    have Va423_426 := Va423_425.keep K426 (ninS ne_b423_b425 nin0)
    have Eb423_426 := Eb423_425.keep K426
    have r424_1_426 := r424_1_425.keep K426 (ninS ne_b417_b425 nin0)
    have r424_2_426 := r424_2_425.keep K426 (ninS ne_b417_b425 nin0)
    have r424_3_426 := r424_3_425.keep K426 (ninS ne_b417_b425 nin0)
    have r424_4_426 := r424_4_425.keep K426 (ninS ne_b_420_b425 nin0)
    have E_b425_426 := E_b425.keep K426
    have Z426 : n0 ≤ T426.heap.size := Nat.le_trans Z425 K426.1
    have hk426 : k423 ≤ T426.heap.size := Nat.le_trans hk425 K426.1
    have N426 := Fr.app N424 Nq426
    show own_Fin _ _ _ _ (T426.setTop (mkF m 65 #[iv p1, iv p2, iv p3, iv p4, iv p5, iv (3 : Int32), rv b417, .unset, .unset, .unset, .unset] [(.ref b425)]))
    refine own_go (XS.astore X426.here hx rfl (hb hby at_65) rfl rfl rfl (Steps.refl _)) ?_
    show own_Fin _ _ _ _ (T426.setTop (mkF m 67 #[iv p1, iv p2, iv p3, iv p4, iv p5, iv (3 : Int32), rv b417, rv b425, .unset, .unset, .unset] []))
    exact hj357 T426 _ T426.heap T423.vm k423 (3 : Int32) b417 b425 bi_426 bf_426 ki_426 kf_426 [(.ref x0_426), (.ref x1_426), (.ref x2_426)] (X426.more (by decide) (by decide)) rfl N426 hZ423 hown423 hS423 hk426 Z426 r426_0 r426_1 r426_2 r426_3 r426_4 r426_5 (by rw [show own_rs0 (3 : Int32) = [(-1 : Int32), (-1 : Int32), (-1 : Int32), (0 : Int32)] from by decide, show (3 : Int32) + (1 : Int32) = (4 : Int32) from rfl]; exact r426_6) g_b425 g_bf_426 (⟨⟨3, by decide⟩, rfl⟩) (ne_b425_bf_426) ((arv_ne r426_5 r426_6 (Or.inl (by decide)))) (ne_b425_bi_426)
theorem own_eqR {args : Array Value} {s : State} {a b : Term} {x y : Addr} (h : (Jvm.Cond.eq a b).value args s none s [] = some true) (ha : a.eval args s none [] s = some (.ref x)) (hb : b.eval args s none [] s = some (.ref y)) : x = y :=
  Value.ref.inj (gotT (eq_R ha hb rfl rfl) h)
theorem own_len0 {args : Array Value} {s : State} {t : Term} {b : Addr} {cl : Cell} (h : (Jvm.Cond.eq (.length t) (.int 0)).value args s none s [] = some true) (ht : t.eval args s none [] s = some (.ref b)) (ha : s.arrayAt? b = some cl) : cl.slots.size < 2 ^ 31 ∧ cl.slots.size.toInt32 = 0 := by
  by_cases hl : cl.slots.size < 2 ^ 31
  · have q := gotT (Cond.eq_ints (len_f ht ha hl) (Term.int_eval (0 : Int32))) h
    exact ⟨hl, q⟩
  · exfalso
    obtain ⟨x, y, e1, -⟩ := cmp_v (Or.inl h)
    simp [Term.eval, ht, ha, hl] at e1
set_option maxRecDepth 65536 in
set_option maxHeartbeats 40000000 in
theorem comes_1 {Post : Tables → Env → Array Value → State → Outcome → State → Prop} (hpost : ∀ tb e args s v u, (limb_1_1.after args s (.returned v) u = true ∧ limb_1_2.after args s (.returned v) u = true ∧ True) → ReturnedEndW s (.returned v) u (Jvm.fieldLocs frame_1_writes args s ++ Jvm.arrayLocs frame_1_arrays args s ++ Jvm.staticLocs frame_1_statics s) 32 3264 → Post tb e args s (.returned v) u) :
    ArmFor flags0 classFile x code maxLocals ret World_1 tables_1 room_1 Calls_1 rest_1 Pre_1 Post := by
  intro l hfl _ _ p e ha hc hk s m args below hf hA hF happ hP
  obtain ⟨hcalls, hrest, hpre⟩ := hP
  obtain ⟨-, -, -, hnamed, -, -, -, hat⟩ := (Spec.applies_iff hf).mp happ
  obtain ⟨hg, hn⟩ := and_e (Cond.before_iff.mp (show (Jvm.Cond.and given_1 narrow_1).before args s = true from hpre))
  obtain ⟨gg1, gg2⟩ := and_e hg
  obtain ⟨gg3, gg4⟩ := and_e gg2
  obtain ⟨gg5, gg6⟩ := and_e gg4
  obtain ⟨gg7, gg8⟩ := and_e gg6
  obtain ⟨gg9, gg10⟩ := and_e gg8
  obtain ⟨w0, w1, w2, w3, w4, rfl⟩ : ∃ w0 w1 w2 w3 w4 : Value, args = #[w0, w1, w2, w3, w4] := by
    have hs : args.size = 5 := by simpa [Cond.value, given_1] using gg1
    obtain ⟨L⟩ := args
    match L, hs with
    | [w0, w1, w2, w3, w4], _ => exact ⟨w0, w1, w2, w3, w4, rfl⟩
  have hw := fun d (hd : d ∈ tables_1) => atoms_spec (ws := Jvm.Cond.code x code maxLocals ret :: tables_1) hat d (List.mem_cons_of_mem _ hd)
  obtain ⟨i0, ei0⟩ := is_v gg3
  obtain rfl : w0 = (.int i0) := Option.some.inj ei0
  obtain ⟨i1, ei1⟩ := is_v gg5
  obtain rfl : w1 = (.int i1) := Option.some.inj ei1
  obtain ⟨i2, ei2⟩ := is_v gg7
  obtain rfl : w2 = (.int i2) := Option.some.inj ei2
  obtain ⟨i3, ei3⟩ := is_v gg9
  obtain rfl : w3 = (.int i3) := Option.some.inj ei3
  obtain ⟨i4, ei4⟩ := is_v gg10
  obtain rfl : w4 = (.int i4) := Option.some.inj ei4
  have hfit : Fit s := fun {y c} hc i hi => by
    obtain ⟨ha, rfl⟩ := Array.getElem?_eq_some_iff.mp hc
    have q := List.all_eq_true.mp ((Array.all_eq_true_iff_forall_mem.mp hF) _ (Array.getElem_mem ha)) i (List.mem_range.mpr hi)
    simpa [Array.getElem?_eq_getElem hi] using q
  obtain ⟨hsets, hown0⟩ := atoms_of _ (rest_1_c_eq ▸ (show rest_1_c.before _ s = true from hrest))
  obtain ⟨cs, ecs⟩ := is_v (Cond.before_iff.mp (hsets _ (List.mem_of_getElem? (i := 16) rfl)))
  have S_CS := Sta.start ecs (Or.inl (hsets _ (List.mem_of_getElem? (i := 15) rfl)))
  have hcs : ¬ cs = (0 : Int32) := by
    intro q
    subst q
    have h := not_v (Cond.before_iff.mp (hsets _ (List.mem_of_getElem? (i := 17) rfl)))
    have h' := (eq_i ecs (Term.int_eval (0 : Int32)) rfl).symm.trans h
    cases h'
  obtain ⟨dd, edd⟩ := exa_v (Cond.before_iff.mp (hsets _ (List.mem_of_getElem? (i := 7) rfl)))
  have S_D := Sta.start edd (Or.inr ⟨(hw _ (List.mem_of_getElem? (i := 2) rfl)), (hsets _ (List.mem_of_getElem? (i := 2) rfl))⟩)
  obtain ⟨cld, Ad⟩ := Arr.start edd (Cond.before_iff.mp (hsets _ (List.mem_of_getElem? (i := 6) rfl)))
  obtain ⟨ql1, ql2⟩ := own_len0 (Cond.before_iff.mp (hsets _ (List.mem_of_getElem? (i := 8) rfl))) edd (Ad.fin (Vm.Alike.refl _))
  have V_dd : Arv s s.heap dd cld.cls (.object "java/lang/Object") (0 : Int32) [] .null := Arv.start hfit Ad ql1 ql2 (by decide) rfl trivial
  obtain ⟨u8, eu8⟩ := exa_v (Cond.before_iff.mp (hsets _ (List.mem_of_getElem? (i := 14) rfl)))
  obtain ⟨u, eu⟩ := exa_v (Cond.before_iff.mp (hsets _ (List.mem_of_getElem? (i := 26) rfl)))
  obtain rfl : u8 = u := own_eqR (Cond.before_iff.mp (hsets _ (List.mem_of_getElem? (i := 13) rfl))) eu8 eu
  have S_8 := Sta.start eu8 (Or.inl (hsets _ (List.mem_of_getElem? (i := 10) rfl)))
  have S_U := Sta.start eu (Or.inl (hsets _ (List.mem_of_getElem? (i := 12) rfl)))
  obtain ⟨n, o, h1, h2, h3, _, L, rfl, ⟨rfl, N⟩, hq⟩ := rm0 l s _ hw tables_1 i0 i1 i2 i3 i4 dd cld.cls u8 cs s.heap s.heap.size (Nat.le_refl _) (Old.start s) S_D S_U S_CS S_8 V_dd hcs rfl (hcalls.1 _ (List.mem_of_getElem? (i := 0) rfl)) (hcalls.1 _ (List.mem_of_getElem? (i := 1) rfl)) (hcalls.1 _ (List.mem_of_getElem? (i := 2) rfl)) (hsets _ (List.mem_of_getElem? (i := 17) rfl)) p e ha hc hk s m _ below hf ((Spec.applies_iff_loose hf).mp happ).1 ⟨rfl, ⟨State.Warmed39.refl s, rfl⟩, rfl⟩ trivial
  refine ⟨n, _, h1, h2, h3, hpost _ _ _ _ _ _ ⟨Cond.after_iff.mpr rfl, Cond.after_iff.mpr (eq_i res_at (Term.int_eval (1)) rfl), trivial⟩ ⟨hq.1, hq.2.1, hq.2.2.1, (hq.2.2.2.sift fun y hy => Or.inr (N y hy)).mono (by decide) (by decide)⟩⟩
theorem main_1_1 : Claimed_1_1 := comes_1 fun _ _ _ _ _ _ h hF => ⟨h.1, hF⟩
theorem main_1_2 : Claimed_1_2 := comes_1 fun _ _ _ _ _ _ h hF => ⟨h.2.1, hF⟩
end Jvm.Pilot.@@N@@
namespace Jvm.Pilot.@@N@@
open Jvm Jvm.ClassFile Sem Op Lib Jvm.Free Jvm.Stand Jvm.Pilot.@@N@@.Jvm.D
/-! MADE BY PROGRAM (witnessworld.py) out of the Statement's table words and the real class files: 35 classes; the members and pool entries that the words name. The judged class is class 1, her method 3. -/
namespace start1
open Jvm.ClassFile
def u (s : String) : CpInfo := .utf8 (stringToUtf16 s)
/-- a pool by its gaps: so many unusable entries, then the entry; so many at the end -/
def gap : Nat → List CpInfo → List CpInfo
  | 0, r => r
  | n + 1, r => .unusable :: gap n r
def poolList (es : List (Nat × CpInfo)) (last : Nat) : List CpInfo := es.foldr (fun e r => gap e.1 (e.2 :: r)) (gap last [])
def pool (es : List (Nat × CpInfo)) (last : Nat) : Array CpInfo := ⟨poolList es last⟩
def fileOf (pool : Array CpInfo) (this : Nat) (attrs : Array Attribute := #[]) (ms : Array MethodInfo := #[]) (fl : Nat := 33) (sup : Nat := 0) (ifs : Array Nat := #[]) (fds : Array FieldInfo := #[]) : ClassFile where
  minorVersion := 0
  majorVersion := 65
  constantPool := pool
  accessFlags := fl
  thisClass := this
  superClass := sup
  interfaces := ifs
  fields := fds
  methods := ms
  attributes := attrs
def plain (name : String) (sup : Option ClassId) : Class where
  name := name
  kind := .ordinary
  loader := none
  accessFlags := 33
  super := sup
  interfaces := #[]
  cf := none
  fields := #[]
  methods := #[]
  instanceTypes := #[]
  staticTypes := #[]
  resolved := #[]
  callSites := []
  init := .initialized
  statics := none
  mirror := none

def pool0 : Array CpInfo := pool [(5, u "<init>"), (0, u "()V"), (1, .class_ 10), (1, u "java/lang/Object"), (85, u "clone"), (0, u "()Ljava/lang/Object;")] 26

def k0c0 : Code := { maxStack := 0, maxLocals := 1, code := object_method_1_code, exceptionTable := #[], attributes := #[] }
def k0m0 : Method := { name := "<init>", desc := "()V", sig := { parameters := [], returnType := none }, accessFlags := 1, code := some k0c0 }
def k0m1 : Method := { name := "clone", desc := "()Ljava/lang/Object;", sig := { parameters := [], returnType := some (.object "java/lang/Object") }, accessFlags := 260, code := none }
/-- java/lang/Object -/
def k0 : Class := { plain "java/lang/Object" none with
  accessFlags := 33
  interfaces := #[]
  cf := some (fileOf pool0 8 #[] #[{ accessFlags := 1, nameIndex := 5, descriptorIndex := 6, attributes := #[] }, { accessFlags := 260, nameIndex := 96, descriptorIndex := 97, attributes := #[] }] 33 0 #[] #[])
  fields := #[]
  methods := #[k0m0, k0m1]
  instanceTypes := #[]
  staticTypes := #[]
  resolved := Array.replicate 124 none
  statics := none }

def pool1 : Array CpInfo := pool [(2, .class_ 4), (0, .nameAndType 5 6), (0, u "java/lang/Object"), (0, u "<init>"), (0, u "()V"), (0, .integer 2147483647), (0, .class_ 9), (0, u "java/util/ArrayList"), (0, .methodref 8 3), (0, .string 12), (0, u "a"), (0, .methodref 8 14), (0, .nameAndType 15 16), (0, u "add"), (0, u "(Ljava/lang/Object;)Z"), (0, .string 18), (0, u "b"), (0, .string 20), (0, u "c"), (0, .class_ 22), (0, u "com/example/gridtally/gridtally/casefile/IdSequence"), (0, .methodref 21 24), (0, .nameAndType 5 25), (0, u "(Ljava/util/List;)V"), (0, .methodref 27 28), (0, .class_ 29), (0, .nameAndType 30 31), (0, u "com/example/gridtally/gridtally/casefile/IdSequenceNamedPinLaw"), (0, u "pos"), (0, u "(II)I"), (0, .methodref 21 33), (0, .nameAndType 34 35), (0, u "nextExpected"), (0, u "()I"), (0, .methodref 21 37), (0, .nameAndType 38 39), (0, u "named"), (0, u "(I)V"), (0, .methodref 27 41), (0, .nameAndType 42 43), (0, u "ref"), (0, u "([III)I"), (3, u "law"), (0, u "(IIIII)Z")] 4

def k1m0 : Method := { name := "<init>", desc := "()V", sig := { parameters := [], returnType := none }, accessFlags := 2, code := none }
def k1c1 : Code := { maxStack := 2, maxLocals := 2, code := method_2_code, exceptionTable := #[], attributes := #[] }
def k1m1 : Method := { name := "pos", desc := "(II)I", sig := { parameters := [.int, .int], returnType := some .int }, accessFlags := 10, code := some k1c1 }
def k1c2 : Code := { maxStack := 3, maxLocals := 4, code := method_3_code, exceptionTable := #[], attributes := #[] }
def k1m2 : Method := { name := "ref", desc := "([III)I", sig := { parameters := [(.array .int), .int, .int], returnType := some .int }, accessFlags := 10, code := some k1c2 }
def k1c3 : Code := { maxStack := 4, maxLocals := 11, code := code, exceptionTable := #[], attributes := #[] }
def k1m3 : Method := { name := "law", desc := "(IIIII)Z", sig := { parameters := [.int, .int, .int, .int, .int], returnType := some .boolean }, accessFlags := 9, code := some k1c3 }
/-- com/example/gridtally/gridtally/casefile/IdSequenceNamedPinLaw -/
def k1 : Class := { plain "com/example/gridtally/gridtally/casefile/IdSequenceNamedPinLaw" (some 0) with
  accessFlags := 49
  interfaces := #[]
  cf := some (fileOf pool1 27 #[] #[{ accessFlags := 2, nameIndex := 5, descriptorIndex := 6, attributes := #[] }, { accessFlags := 10, nameIndex := 30, descriptorIndex := 31, attributes := #[] }, { accessFlags := 10, nameIndex := 42, descriptorIndex := 43, attributes := #[] }, { accessFlags := 9, nameIndex := 47, descriptorIndex := 48, attributes := #[] }] 49 2 #[] #[])
  fields := #[]
  methods := #[k1m0, k1m1, k1m2, k1m3]
  instanceTypes := #[]
  staticTypes := #[]
  resolved := Array.replicate 53 none
  statics := none }

def pool2 : Array CpInfo := pool [(8, .class_ 10), (1, u "java/lang/Iterable"), (24, .class_ 36), (0, u "java/lang/Object")] 25

/-- java/lang/Iterable -/
def k2 : Class := { plain "java/lang/Iterable" (some 0) with
  accessFlags := 1537
  interfaces := #[]
  cf := some (fileOf pool2 8 #[] #[] 1537 35 #[] #[])
  fields := #[]
  methods := #[]
  instanceTypes := #[]
  staticTypes := #[]
  resolved := Array.replicate 62 none
  statics := none }

def pool3 : Array CpInfo := pool [(10, .class_ 12), (1, u "java/util/Collection"), (47, .class_ 61), (0, u "java/lang/Object"), (0, .class_ 63), (0, u "java/lang/Iterable")] 51

/-- java/util/Collection -/
def k3 : Class := { plain "java/util/Collection" (some 0) with
  accessFlags := 1537
  interfaces := #[2]
  cf := some (fileOf pool3 10 #[] #[] 1537 60 #[62] #[])
  fields := #[]
  methods := #[]
  instanceTypes := #[]
  staticTypes := #[]
  resolved := Array.replicate 115 none
  statics := none }

def pool4 : Array CpInfo := pool [(1, .methodref 2 3), (0, .class_ 4), (0, .nameAndType 5 6), (0, u "java/lang/Object"), (0, u "<init>"), (0, u "()V"), (1, .class_ 10), (1, u "java/util/AbstractCollection"), (66, .class_ 78), (0, u "java/util/Collection")] 81

def k4c0 : Code := { maxStack := 1, maxLocals := 1, code := jdk_22_method_1_code, exceptionTable := #[], attributes := #[] }
def k4m0 : Method := { name := "<init>", desc := "()V", sig := { parameters := [], returnType := none }, accessFlags := 4, code := some k4c0 }
/-- java/util/AbstractCollection -/
def k4 : Class := { plain "java/util/AbstractCollection" (some 0) with
  accessFlags := 1057
  interfaces := #[3]
  cf := some (fileOf pool4 8 #[] #[{ accessFlags := 4, nameIndex := 5, descriptorIndex := 6, attributes := #[] }] 1057 2 #[77] #[])
  fields := #[]
  methods := #[k4m0]
  instanceTypes := #[]
  staticTypes := #[]
  resolved := Array.replicate 160 none
  statics := none }

def pool5 : Array CpInfo := pool [(8, .class_ 10), (1, u "java/util/SequencedCollection"), (15, .class_ 27), (0, u "java/lang/Object"), (0, .class_ 29), (0, u "java/util/Collection")] 27

/-- java/util/SequencedCollection -/
def k5 : Class := { plain "java/util/SequencedCollection" (some 0) with
  accessFlags := 1537
  interfaces := #[3]
  cf := some (fileOf pool5 8 #[] #[] 1537 26 #[28] #[])
  fields := #[]
  methods := #[]
  instanceTypes := #[]
  staticTypes := #[]
  resolved := Array.replicate 57 none
  statics := none }

def pool6 : Array CpInfo := pool [(8, .class_ 10), (1, u "java/util/List"), (64, u "get"), (0, u "(I)Ljava/lang/Object;"), (2, u "size"), (0, u "()I"), (22, .class_ 104), (0, u "java/lang/Object"), (15, .class_ 121), (0, u "java/util/SequencedCollection")] 129

def k6m0 : Method := { name := "size", desc := "()I", sig := { parameters := [], returnType := some .int }, accessFlags := 1025, code := none }
def k6m1 : Method := { name := "get", desc := "(I)Ljava/lang/Object;", sig := { parameters := [.int], returnType := some (.object "java/lang/Object") }, accessFlags := 1025, code := none }
/-- java/util/List -/
def k6 : Class := { plain "java/util/List" (some 0) with
  accessFlags := 1537
  interfaces := #[5]
  cf := some (fileOf pool6 8 #[] #[{ accessFlags := 1025, nameIndex := 79, descriptorIndex := 80, attributes := #[] }, { accessFlags := 1025, nameIndex := 75, descriptorIndex := 76, attributes := #[] }] 1537 103 #[120] #[])
  fields := #[]
  methods := #[k6m0, k6m1]
  instanceTypes := #[]
  staticTypes := #[]
  resolved := Array.replicate 251 none
  statics := none }

def pool7 : Array CpInfo := pool [(1, .methodref 2 3), (0, .class_ 4), (0, .nameAndType 5 6), (0, u "java/util/AbstractCollection"), (0, u "<init>"), (0, u "()V"), (0, .fieldref 8 9), (0, .class_ 10), (0, .nameAndType 11 12), (0, u "java/util/AbstractList"), (0, u "modCount"), (0, u "I"), (64, .class_ 78), (0, u "java/util/AbstractList$Itr"), (3, .class_ 83), (0, u "java/util/AbstractList$ListItr"), (9, .class_ 94), (0, u "java/util/AbstractList$RandomAccessSubList"), (3, .class_ 99), (0, u "java/util/AbstractList$SubList"), (33, .class_ 134), (0, u "java/util/List"), (73, .class_ 209), (0, u "java/util/AbstractList$SubList$1"), (0, .class_ 211), (0, u "java/util/AbstractList$RandomAccessSpliterator")] 6

def k7c0 : Code := { maxStack := 2, maxLocals := 1, code := jdk_39_method_1_code, exceptionTable := #[], attributes := #[] }
def k7m0 : Method := { name := "<init>", desc := "()V", sig := { parameters := [], returnType := none }, accessFlags := 4, code := some k7c0 }
/-- java/util/AbstractList -/
def k7 : Class := { plain "java/util/AbstractList" (some 4) with
  accessFlags := 1057
  interfaces := #[6]
  cf := some (fileOf pool7 8 #[.nestMembers #[93, 98, 208, 210, 82, 77]] #[{ accessFlags := 4, nameIndex := 5, descriptorIndex := 6, attributes := #[] }] 1057 2 #[133] #[{ accessFlags := 132, nameIndex := 11, descriptorIndex := 12, attributes := #[] }])
  fields := #[{ name := "modCount", type := .int, accessFlags := 132, slot := 0, constantValue := 0 }]
  methods := #[k7m0]
  instanceTypes := #[.int]
  staticTypes := #[]
  resolved := Array.replicate 218 none
  statics := none }

def pool8 : Array CpInfo := pool [(1, .class_ 2), (0, u "java/util/RandomAccess"), (0, .class_ 4), (0, u "java/lang/Object")] 2

/-- java/util/RandomAccess -/
def k8 : Class := { plain "java/util/RandomAccess" (some 0) with
  accessFlags := 1537
  interfaces := #[]
  cf := some (fileOf pool8 1 #[] #[] 1537 3 #[] #[])
  fields := #[]
  methods := #[]
  instanceTypes := #[]
  staticTypes := #[]
  resolved := Array.replicate 7 none
  statics := none }

def pool9 : Array CpInfo := pool [(1, .class_ 2), (0, u "java/lang/Cloneable"), (0, .class_ 4), (0, u "java/lang/Object")] 2

/-- java/lang/Cloneable -/
def k9 : Class := { plain "java/lang/Cloneable" (some 0) with
  accessFlags := 1537
  interfaces := #[]
  cf := some (fileOf pool9 1 #[] #[] 1537 3 #[] #[])
  fields := #[]
  methods := #[]
  instanceTypes := #[]
  staticTypes := #[]
  resolved := Array.replicate 7 none
  statics := none }

def pool10 : Array CpInfo := pool [(1, .class_ 2), (0, u "java/io/Serializable"), (0, .class_ 4), (0, u "java/lang/Object")] 2

/-- java/io/Serializable -/
def k10 : Class := { plain "java/io/Serializable" (some 0) with
  accessFlags := 1537
  interfaces := #[]
  cf := some (fileOf pool10 1 #[] #[] 1537 3 #[] #[])
  fields := #[]
  methods := #[]
  instanceTypes := #[]
  staticTypes := #[]
  resolved := Array.replicate 7 none
  statics := none }

def pool11 : Array CpInfo := pool [(1, .methodref 2 3), (0, .class_ 4), (0, .nameAndType 5 6), (0, u "java/util/AbstractList"), (0, u "<init>"), (0, u "()V"), (0, .class_ 8), (0, u "java/lang/Object"), (0, .fieldref 10 11), (0, .class_ 12), (0, .nameAndType 13 14), (0, u "java/util/ArrayList"), (0, u "elementData"), (0, u "[Ljava/lang/Object;"), (2, u "EMPTY_ELEMENTDATA"), (21, .fieldref 10 40), (0, .nameAndType 41 14), (0, u "DEFAULTCAPACITY_EMPTY_ELEMENTDATA"), (5, u "()[Ljava/lang/Object;"), (0, .fieldref 10 49), (0, .nameAndType 50 51), (0, u "size"), (0, u "I"), (11, .fieldref 10 64), (0, .nameAndType 65 51), (0, u "modCount"), (3, .methodref 10 70), (0, .nameAndType 71 72), (0, u "grow"), (0, u "(I)[Ljava/lang/Object;"), (6, .methodref 80 81), (0, .class_ 82), (0, .nameAndType 83 84), (0, u "java/lang/Math"), (0, u "max"), (0, u "(II)I"), (11, u "(Ljava/lang/Object;)Z"), (21, .methodref 119 120), (0, .class_ 121), (0, .nameAndType 122 84), (0, u "java/util/Objects"), (0, u "checkIndex"), (0, .methodref 10 124), (0, .nameAndType 13 125), (0, u "(I)Ljava/lang/Object;"), (3, .methodref 10 130), (0, .nameAndType 71 47), (0, .methodref 10 132), (0, .nameAndType 133 134), (0, u "add"), (0, u "(Ljava/lang/Object;[Ljava/lang/Object;I)V"), (13, .class_ 149), (0, u "java/util/List"), (36, u "()I"), (75, .class_ 263), (0, u "java/util/ArrayList$ListItr"), (3, .class_ 268), (0, u "java/util/ArrayList$Itr"), (7, .class_ 277), (0, u "java/util/ArrayList$SubList"), (12, .class_ 291), (0, u "java/util/ArrayList$ArrayListSpliterator"), (37, .class_ 330), (0, u "java/util/RandomAccess"), (0, .class_ 332), (0, u "java/lang/Cloneable"), (0, .class_ 334), (0, u "java/io/Serializable"), (0, u "serialVersionUID"), (0, u "J"), (3, u "DEFAULT_CAPACITY"), (40, u "get"), (118, .class_ 501), (0, u "java/util/ArrayList$SubList$2"), (0, .class_ 503), (0, u "java/util/ArrayList$SubList$1")] 5

def k11c0 : Code := { maxStack := 2, maxLocals := 1, code := jdk_38_method_2_code, exceptionTable := #[], attributes := #[] }
def k11m0 : Method := { name := "<init>", desc := "()V", sig := { parameters := [], returnType := none }, accessFlags := 1, code := some k11c0 }
def k11c1 : Code := { maxStack := 4, maxLocals := 4, code := jdk_38_method_6_code, exceptionTable := #[], attributes := #[] }
def k11m1 : Method := { name := "grow", desc := "(I)[Ljava/lang/Object;", sig := { parameters := [.int], returnType := some (.array (.object "java/lang/Object")) }, accessFlags := 2, code := some k11c1 }
def k11c2 : Code := { maxStack := 3, maxLocals := 1, code := jdk_38_method_7_code, exceptionTable := #[], attributes := #[] }
def k11m2 : Method := { name := "grow", desc := "()[Ljava/lang/Object;", sig := { parameters := [], returnType := some (.array (.object "java/lang/Object")) }, accessFlags := 2, code := some k11c2 }
def k11c3 : Code := { maxStack := 1, maxLocals := 1, code := jdk_38_method_8_code, exceptionTable := #[], attributes := #[] }
def k11m3 : Method := { name := "size", desc := "()I", sig := { parameters := [], returnType := some .int }, accessFlags := 1, code := some k11c3 }
def k11c4 : Code := { maxStack := 2, maxLocals := 2, code := jdk_38_method_18_code, exceptionTable := #[], attributes := #[] }
def k11m4 : Method := { name := "elementData", desc := "(I)Ljava/lang/Object;", sig := { parameters := [.int], returnType := some (.object "java/lang/Object") }, accessFlags := 0, code := some k11c4 }
def k11c5 : Code := { maxStack := 2, maxLocals := 2, code := jdk_38_method_20_code, exceptionTable := #[], attributes := #[] }
def k11m5 : Method := { name := "get", desc := "(I)Ljava/lang/Object;", sig := { parameters := [.int], returnType := some (.object "java/lang/Object") }, accessFlags := 1, code := some k11c5 }
def k11c6 : Code := { maxStack := 3, maxLocals := 4, code := jdk_38_method_24_code, exceptionTable := #[], attributes := #[] }
def k11m6 : Method := { name := "add", desc := "(Ljava/lang/Object;[Ljava/lang/Object;I)V", sig := { parameters := [(.object "java/lang/Object"), (.array (.object "java/lang/Object")), .int], returnType := none }, accessFlags := 2, code := some k11c6 }
def k11c7 : Code := { maxStack := 4, maxLocals := 2, code := jdk_38_method_25_code, exceptionTable := #[], attributes := #[] }
def k11m7 : Method := { name := "add", desc := "(Ljava/lang/Object;)Z", sig := { parameters := [(.object "java/lang/Object")], returnType := some .boolean }, accessFlags := 1, code := some k11c7 }
/-- java/util/ArrayList -/
def k11 : Class := { plain "java/util/ArrayList" (some 7) with
  accessFlags := 33
  interfaces := #[6, 8, 9, 10]
  cf := some (fileOf pool11 10 #[.nestMembers #[290, 276, 500, 502, 262, 267]] #[{ accessFlags := 1, nameIndex := 5, descriptorIndex := 6, attributes := #[] }, { accessFlags := 2, nameIndex := 71, descriptorIndex := 72, attributes := #[] }, { accessFlags := 2, nameIndex := 71, descriptorIndex := 47, attributes := #[] }, { accessFlags := 1, nameIndex := 50, descriptorIndex := 186, attributes := #[] }, { accessFlags := 0, nameIndex := 13, descriptorIndex := 125, attributes := #[] }, { accessFlags := 1, nameIndex := 381, descriptorIndex := 125, attributes := #[] }, { accessFlags := 2, nameIndex := 133, descriptorIndex := 134, attributes := #[] }, { accessFlags := 1, nameIndex := 133, descriptorIndex := 96, attributes := #[] }] 33 2 #[148, 329, 331, 333] #[{ accessFlags := 26, nameIndex := 335, descriptorIndex := 336, attributes := #[] }, { accessFlags := 26, nameIndex := 340, descriptorIndex := 51, attributes := #[] }, { accessFlags := 26, nameIndex := 17, descriptorIndex := 14, attributes := #[] }, { accessFlags := 26, nameIndex := 41, descriptorIndex := 14, attributes := #[] }, { accessFlags := 128, nameIndex := 13, descriptorIndex := 14, attributes := #[] }, { accessFlags := 2, nameIndex := 50, descriptorIndex := 51, attributes := #[] }])
  fields := #[{ name := "serialVersionUID", type := .long, accessFlags := 26, slot := 0, constantValue := 0 }, { name := "DEFAULT_CAPACITY", type := .int, accessFlags := 26, slot := 1, constantValue := 0 }, { name := "EMPTY_ELEMENTDATA", type := (.array (.object "java/lang/Object")), accessFlags := 26, slot := 2, constantValue := 0 }, { name := "DEFAULTCAPACITY_EMPTY_ELEMENTDATA", type := (.array (.object "java/lang/Object")), accessFlags := 26, slot := 3, constantValue := 0 }, { name := "elementData", type := (.array (.object "java/lang/Object")), accessFlags := 128, slot := 1, constantValue := 0 }, { name := "size", type := .int, accessFlags := 2, slot := 2, constantValue := 0 }]
  methods := #[k11m0, k11m1, k11m2, k11m3, k11m4, k11m5, k11m6, k11m7]
  instanceTypes := #[.int, (.array (.object "java/lang/Object")), .int]
  staticTypes := #[.long, .int, (.array (.object "java/lang/Object")), (.array (.object "java/lang/Object"))]
  resolved := Array.replicate 509 none
  statics := some 0 }

def pool12 : Array CpInfo := pool [(1, .methodref 2 3), (0, .class_ 4), (0, .nameAndType 5 6), (0, u "java/lang/Object"), (0, u "<init>"), (0, u "()V"), (0, .interfaceMethodref 8 9), (0, .class_ 10), (0, .nameAndType 11 12), (0, u "java/util/List"), (0, u "size"), (0, u "()I"), (0, .class_ 14), (0, u "[B"), (0, .fieldref 16 17), (0, .class_ 18), (0, .nameAndType 19 20), (0, u "com/example/gridtally/gridtally/casefile/IdSequence"), (0, u "ids"), (0, u "[[B"), (0, .interfaceMethodref 8 22), (0, .nameAndType 23 24), (0, u "get"), (0, u "(I)Ljava/lang/Object;"), (0, .class_ 26), (0, u "java/lang/String"), (0, .fieldref 28 29), (0, .class_ 30), (0, .nameAndType 31 32), (0, u "java/nio/charset/StandardCharsets"), (0, u "UTF_8"), (0, u "Ljava/nio/charset/Charset;"), (0, .methodref 25 34), (0, .nameAndType 35 36), (0, u "getBytes"), (0, u "(Ljava/nio/charset/Charset;)[B"), (0, .fieldref 16 38), (0, .nameAndType 39 40), (0, u "none"), (0, u "I"), (0, .fieldref 16 42), (0, .nameAndType 43 44), (0, u "following"), (0, u "[I"), (0, .methodref 46 47), (0, .class_ 48), (0, .nameAndType 49 50), (0, u "java/util/Arrays"), (0, u "fill"), (0, u "([II)V"), (0, .fieldref 16 52), (0, .nameAndType 53 40), (0, u "last"), (2, u "nextExpected"), (6, u "(Ljava/util/List;)V"), (7, u "named"), (0, u "(I)V")] 2

def k12c0 : Code := { maxStack := 4, maxLocals := 3, code := prog_15_method_1_code, exceptionTable := #[], attributes := #[] }
def k12m0 : Method := { name := "<init>", desc := "(Ljava/util/List;)V", sig := { parameters := [(.object "java/util/List")], returnType := none }, accessFlags := 0, code := some k12c0 }
def k12c1 : Code := { maxStack := 2, maxLocals := 2, code := prog_15_method_3_code, exceptionTable := #[], attributes := #[] }
def k12m1 : Method := { name := "nextExpected", desc := "()I", sig := { parameters := [], returnType := some .int }, accessFlags := 0, code := some k12c1 }
def k12c2 : Code := { maxStack := 3, maxLocals := 2, code := prog_15_method_4_code, exceptionTable := #[], attributes := #[] }
def k12m2 : Method := { name := "named", desc := "(I)V", sig := { parameters := [.int], returnType := none }, accessFlags := 0, code := some k12c2 }
/-- com/example/gridtally/gridtally/casefile/IdSequence -/
def k12 : Class := { plain "com/example/gridtally/gridtally/casefile/IdSequence" (some 0) with
  accessFlags := 48
  interfaces := #[]
  cf := some (fileOf pool12 16 #[] #[{ accessFlags := 0, nameIndex := 5, descriptorIndex := 63, attributes := #[] }, { accessFlags := 0, nameIndex := 56, descriptorIndex := 12, attributes := #[] }, { accessFlags := 0, nameIndex := 71, descriptorIndex := 72, attributes := #[] }] 48 2 #[] #[{ accessFlags := 18, nameIndex := 19, descriptorIndex := 20, attributes := #[] }, { accessFlags := 18, nameIndex := 43, descriptorIndex := 44, attributes := #[] }, { accessFlags := 18, nameIndex := 39, descriptorIndex := 40, attributes := #[] }, { accessFlags := 2, nameIndex := 53, descriptorIndex := 40, attributes := #[] }])
  fields := #[{ name := "ids", type := (.array (.array .byte)), accessFlags := 18, slot := 0, constantValue := 0 }, { name := "following", type := (.array .int), accessFlags := 18, slot := 1, constantValue := 0 }, { name := "none", type := .int, accessFlags := 18, slot := 2, constantValue := 0 }, { name := "last", type := .int, accessFlags := 2, slot := 3, constantValue := 0 }]
  methods := #[k12m0, k12m1, k12m2]
  instanceTypes := #[(.array (.array .byte)), (.array .int), .int, .int]
  staticTypes := #[]
  resolved := Array.replicate 75 none
  statics := none }

def pool13 : Array CpInfo := pool [(2, .class_ 4), (1, u "java/lang/Object"), (0, u "<init>"), (0, u "()V"), (7, .class_ 16), (1, u "java/util/Arrays"), (57, .class_ 76), (1, u "java/util/Arrays$NaturalOrder"), (36, .class_ 115), (1, u "java/util/Arrays$LegacyMergeSort"), (1, u "Z"), (257, .class_ 376), (0, u "java/util/Arrays$ArrayList"), (68, u "$assertionsDisabled"), (269, u "MIN_ARRAY_SORT_GRAN"), (0, u "I"), (2, u "INSERTIONSORT_THRESHOLD"), (120, u "fill"), (4, u "([II)V"), (129, .class_ 976), (0, u "java/util/Arrays$ArrayItr")] 52

def k13m0 : Method := { name := "<init>", desc := "()V", sig := { parameters := [], returnType := none }, accessFlags := 2, code := none }
def k13c1 : Code := { maxStack := 3, maxLocals := 4, code := jdk_65_method_103_code, exceptionTable := #[], attributes := #[] }
def k13m1 : Method := { name := "fill", desc := "([II)V", sig := { parameters := [(.array .int), .int], returnType := none }, accessFlags := 9, code := some k13c1 }
/-- java/util/Arrays -/
def k13 : Class := { plain "java/util/Arrays" (some 0) with
  accessFlags := 49
  interfaces := #[]
  cf := some (fileOf pool13 14 #[.nestMembers #[975, 375, 113, 74]] #[{ accessFlags := 2, nameIndex := 5, descriptorIndex := 6, attributes := #[] }, { accessFlags := 9, nameIndex := 840, descriptorIndex := 845, attributes := #[] }] 49 2 #[] #[{ accessFlags := 26, nameIndex := 715, descriptorIndex := 716, attributes := #[] }, { accessFlags := 26, nameIndex := 719, descriptorIndex := 716, attributes := #[] }, { accessFlags := 4120, nameIndex := 445, descriptorIndex := 117, attributes := #[] }])
  fields := #[{ name := "MIN_ARRAY_SORT_GRAN", type := .int, accessFlags := 26, slot := 0, constantValue := 0 }, { name := "INSERTIONSORT_THRESHOLD", type := .int, accessFlags := 26, slot := 1, constantValue := 0 }, { name := "$assertionsDisabled", type := .boolean, accessFlags := 4120, slot := 2, constantValue := 0 }]
  methods := #[k13m0, k13m1]
  instanceTypes := #[]
  staticTypes := #[.int, .int, .boolean]
  resolved := Array.replicate 1029 none
  statics := none }

def pool14 : Array CpInfo := pool [(1, .class_ 2), (0, u "java/lang/Comparable"), (0, .class_ 4), (0, u "java/lang/Object")] 7

/-- java/lang/Comparable -/
def k14 : Class := { plain "java/lang/Comparable" (some 0) with
  accessFlags := 1537
  interfaces := #[]
  cf := some (fileOf pool14 1 #[] #[] 1537 3 #[] #[])
  fields := #[]
  methods := #[]
  instanceTypes := #[]
  staticTypes := #[]
  resolved := Array.replicate 12 none
  statics := none }

def pool15 : Array CpInfo := pool [(2, .class_ 4), (1, u "java/lang/CharSequence"), (42, .class_ 48), (0, u "java/lang/CharSequence$1CodePointIterator"), (10, .class_ 60), (0, u "java/lang/CharSequence$1CharIterator"), (5, .class_ 67), (0, u "java/lang/Object")] 63

/-- java/lang/CharSequence -/
def k15 : Class := { plain "java/lang/CharSequence" (some 0) with
  accessFlags := 1537
  interfaces := #[]
  cf := some (fileOf pool15 2 #[.nestMembers #[47, 59]] #[] 1537 66 #[] #[])
  fields := #[]
  methods := #[]
  instanceTypes := #[]
  staticTypes := #[]
  resolved := Array.replicate 131 none
  statics := none }

def pool16 : Array CpInfo := pool [(1, .class_ 2), (0, u "java/lang/constant/Constable"), (0, .class_ 4), (0, u "java/lang/Object")] 6

/-- java/lang/constant/Constable -/
def k16 : Class := { plain "java/lang/constant/Constable" (some 0) with
  accessFlags := 1537
  interfaces := #[]
  cf := some (fileOf pool16 1 #[] #[] 1537 3 #[] #[])
  fields := #[]
  methods := #[]
  instanceTypes := #[]
  staticTypes := #[]
  resolved := Array.replicate 11 none
  statics := none }

def pool17 : Array CpInfo := pool [(1, .class_ 2), (0, u "java/lang/constant/ConstantDesc"), (0, .class_ 4), (0, u "java/lang/Object")] 32

/-- java/lang/constant/ConstantDesc -/
def k17 : Class := { plain "java/lang/constant/ConstantDesc" (some 0) with
  accessFlags := 1537
  interfaces := #[]
  cf := some (fileOf pool17 1 #[] #[] 1537 3 #[] #[])
  fields := #[]
  methods := #[]
  instanceTypes := #[]
  staticTypes := #[]
  resolved := Array.replicate 37 none
  statics := none }

def pool18 : Array CpInfo := pool [(2, .class_ 4), (1, u "java/lang/Object"), (0, u "<init>"), (0, u "()V"), (2, .fieldref 10 11), (0, .class_ 12), (0, .nameAndType 13 14), (0, u "java/lang/String"), (0, u "value"), (0, u "[B"), (0, .fieldref 10 16), (0, .nameAndType 17 18), (0, u "coder"), (0, u "B"), (2, u "hash"), (0, u "I"), (2, u "hashIsZero"), (0, u "Z"), (11, .fieldref 10 39), (0, .nameAndType 40 26), (0, u "COMPACT_STRINGS"), (45, .fieldref 87 88), (0, .class_ 89), (0, .nameAndType 90 91), (0, u "sun/nio/cs/UTF_8"), (0, u "INSTANCE"), (0, u "Lsun/nio/cs/UTF_8;"), (1, .class_ 95), (1, u "java/lang/StringCoding"), (32, .methodref 93 129), (0, .nameAndType 130 131), (0, u "hasNegatives"), (0, u "([BII)Z"), (120, .methodref 10 253), (0, .nameAndType 254 255), (0, u "encodeUTF8"), (0, u "(B[BZ)[B"), (23, .methodref 280 281), (0, .class_ 14), (0, .nameAndType 282 283), (0, u "clone"), (0, u "()Ljava/lang/Object;"), (33, u "encode"), (17, .methodref 10 336), (0, .nameAndType 17 337), (0, u "()B"), (194, u "getBytes"), (2, .methodref 10 536), (0, .nameAndType 317 537), (0, u "(Ljava/nio/charset/Charset;B[B)[B"), (37, .class_ 576), (0, u "java/lang/CharSequence"), (22, u "CASE_INSENSITIVE_ORDER"), (0, u "Ljava/util/Comparator;"), (500, u "serialPersistentFields"), (0, u "[Ljava/io/ObjectStreamField;"), (0, .class_ 1104), (0, u "java/lang/String$CaseInsensitiveComparator"), (1, .class_ 1107), (0, u "java/io/Serializable"), (0, .class_ 1109), (0, u "java/lang/Comparable"), (0, .class_ 1111), (0, u "java/lang/constant/Constable"), (0, .class_ 1113), (0, u "java/lang/constant/ConstantDesc"), (2, u "serialVersionUID"), (0, u "J"), (3, u "REPL"), (0, u "C"), (2, u "LATIN1"), (1, u "UTF16"), (117, u "(Ljava/nio/charset/Charset;)[B")] 205

def k18m0 : Method := { name := "<init>", desc := "()V", sig := { parameters := [], returnType := none }, accessFlags := 1, code := none }
def k18c1 : Code := { maxStack := 4, maxLocals := 3, code := jdk_42_method_18_code, exceptionTable := #[], attributes := #[] }
def k18m1 : Method := { name := "encode", desc := "(Ljava/nio/charset/Charset;B[B)[B", sig := { parameters := [(.object "java/nio/charset/Charset"), .byte, (.array .byte)], returnType := some (.array .byte) }, accessFlags := 10, code := some k18c1 }
def k18c2 : Code := { maxStack := 5, maxLocals := 9, code := jdk_42_method_46_code, exceptionTable := #[], attributes := #[] }
def k18m2 : Method := { name := "encodeUTF8", desc := "(B[BZ)[B", sig := { parameters := [.byte, (.array .byte), .boolean], returnType := some (.array .byte) }, accessFlags := 10, code := some k18c2 }
def k18c3 : Code := { maxStack := 3, maxLocals := 2, code := jdk_42_method_64_code, exceptionTable := #[], attributes := #[] }
def k18m3 : Method := { name := "getBytes", desc := "(Ljava/nio/charset/Charset;)[B", sig := { parameters := [(.object "java/nio/charset/Charset")], returnType := some (.array .byte) }, accessFlags := 1, code := some k18c3 }
def k18c4 : Code := { maxStack := 1, maxLocals := 1, code := jdk_42_method_152_code, exceptionTable := #[], attributes := #[] }
def k18m4 : Method := { name := "coder", desc := "()B", sig := { parameters := [], returnType := some .byte }, accessFlags := 0, code := some k18c4 }
/-- java/lang/String -/
def k18 : Class := { plain "java/lang/String" (some 0) with
  accessFlags := 49
  interfaces := #[10, 14, 15, 16, 17]
  cf := some (fileOf pool18 10 #[.nestMembers #[1103]] #[{ accessFlags := 1, nameIndex := 5, descriptorIndex := 6, attributes := #[] }, { accessFlags := 10, nameIndex := 317, descriptorIndex := 537, attributes := #[] }, { accessFlags := 10, nameIndex := 254, descriptorIndex := 255, attributes := #[] }, { accessFlags := 1, nameIndex := 532, descriptorIndex := 1245, attributes := #[] }, { accessFlags := 0, nameIndex := 17, descriptorIndex := 337, attributes := #[] }] 49 2 #[1106, 1108, 575, 1110, 1112] #[{ accessFlags := 18, nameIndex := 13, descriptorIndex := 14, attributes := #[] }, { accessFlags := 18, nameIndex := 17, descriptorIndex := 18, attributes := #[] }, { accessFlags := 2, nameIndex := 21, descriptorIndex := 22, attributes := #[] }, { accessFlags := 2, nameIndex := 25, descriptorIndex := 26, attributes := #[] }, { accessFlags := 26, nameIndex := 1116, descriptorIndex := 1117, attributes := #[] }, { accessFlags := 24, nameIndex := 40, descriptorIndex := 26, attributes := #[] }, { accessFlags := 26, nameIndex := 1101, descriptorIndex := 1102, attributes := #[] }, { accessFlags := 26, nameIndex := 1121, descriptorIndex := 1122, attributes := #[] }, { accessFlags := 25, nameIndex := 599, descriptorIndex := 600, attributes := #[] }, { accessFlags := 24, nameIndex := 1125, descriptorIndex := 18, attributes := #[] }, { accessFlags := 24, nameIndex := 1127, descriptorIndex := 18, attributes := #[] }])
  fields := #[{ name := "value", type := (.array .byte), accessFlags := 18, slot := 0, constantValue := 0 }, { name := "coder", type := .byte, accessFlags := 18, slot := 1, constantValue := 0 }, { name := "hash", type := .int, accessFlags := 2, slot := 2, constantValue := 0 }, { name := "hashIsZero", type := .boolean, accessFlags := 2, slot := 3, constantValue := 0 }, { name := "serialVersionUID", type := .long, accessFlags := 26, slot := 0, constantValue := 0 }, { name := "COMPACT_STRINGS", type := .boolean, accessFlags := 24, slot := 1, constantValue := 0 }, { name := "serialPersistentFields", type := (.array (.object "java/io/ObjectStreamField")), accessFlags := 26, slot := 2, constantValue := 0 }, { name := "REPL", type := .char, accessFlags := 26, slot := 3, constantValue := 0 }, { name := "CASE_INSENSITIVE_ORDER", type := (.object "java/util/Comparator"), accessFlags := 25, slot := 4, constantValue := 0 }, { name := "LATIN1", type := .byte, accessFlags := 24, slot := 5, constantValue := 0 }, { name := "UTF16", type := .byte, accessFlags := 24, slot := 6, constantValue := 0 }]
  methods := #[k18m0, k18m1, k18m2, k18m3, k18m4]
  instanceTypes := #[(.array .byte), .byte, .int, .boolean]
  staticTypes := #[.long, .boolean, (.array (.object "java/io/ObjectStreamField")), .char, (.object "java/util/Comparator"), .byte, .byte]
  resolved := Array.replicate 1451 none
  statics := some 1 }

def pool19 : Array CpInfo := pool [(1, .class_ 2), (0, u "java/lang/Math"), (1, .class_ 6), (1, u "java/lang/Object"), (0, u "<init>"), (0, u "()V"), (89, .class_ 100), (1, u "java/lang/Math$RandomNumberGeneratorHolder"), (71, u "negativeZeroFloatBits"), (0, u "J"), (2, u "negativeZeroDoubleBits"), (21, u "max"), (46, u "$assertionsDisabled"), (0, u "Z"), (88, u "(II)I"), (2, u "twoToTheDoubleScaleDown"), (0, u "D"), (4, u "twoToTheDoubleScaleUp"), (9, u "E"), (3, u "PI"), (2, u "TAU"), (2, u "DEGREES_TO_RADIANS"), (0, u "RADIANS_TO_DEGREES")] 94

def k19m0 : Method := { name := "<init>", desc := "()V", sig := { parameters := [], returnType := none }, accessFlags := 2, code := none }
def k19c1 : Code := { maxStack := 2, maxLocals := 2, code := jdk_29_method_65_code, exceptionTable := #[], attributes := #[] }
def k19m1 : Method := { name := "max", desc := "(II)I", sig := { parameters := [.int, .int], returnType := some .int }, accessFlags := 9, code := some k19c1 }
/-- java/lang/Math -/
def k19 : Class := { plain "java/lang/Math" (some 0) with
  accessFlags := 49
  interfaces := #[]
  cf := some (fileOf pool19 1 #[.nestMembers #[98]] #[{ accessFlags := 2, nameIndex := 7, descriptorIndex := 8, attributes := #[] }, { accessFlags := 9, nameIndex := 198, descriptorIndex := 335, attributes := #[] }] 49 4 #[] #[{ accessFlags := 25, nameIndex := 354, descriptorIndex := 339, attributes := #[] }, { accessFlags := 25, nameIndex := 358, descriptorIndex := 339, attributes := #[] }, { accessFlags := 25, nameIndex := 361, descriptorIndex := 339, attributes := #[] }, { accessFlags := 26, nameIndex := 364, descriptorIndex := 339, attributes := #[] }, { accessFlags := 26, nameIndex := 365, descriptorIndex := 339, attributes := #[] }, { accessFlags := 26, nameIndex := 172, descriptorIndex := 173, attributes := #[] }, { accessFlags := 26, nameIndex := 176, descriptorIndex := 173, attributes := #[] }, { accessFlags := 8, nameIndex := 344, descriptorIndex := 339, attributes := #[] }, { accessFlags := 8, nameIndex := 338, descriptorIndex := 339, attributes := #[] }, { accessFlags := 4120, nameIndex := 245, descriptorIndex := 246, attributes := #[] }])
  fields := #[{ name := "E", type := .double, accessFlags := 25, slot := 0, constantValue := 0 }, { name := "PI", type := .double, accessFlags := 25, slot := 1, constantValue := 0 }, { name := "TAU", type := .double, accessFlags := 25, slot := 2, constantValue := 0 }, { name := "DEGREES_TO_RADIANS", type := .double, accessFlags := 26, slot := 3, constantValue := 0 }, { name := "RADIANS_TO_DEGREES", type := .double, accessFlags := 26, slot := 4, constantValue := 0 }, { name := "negativeZeroFloatBits", type := .long, accessFlags := 26, slot := 5, constantValue := 0 }, { name := "negativeZeroDoubleBits", type := .long, accessFlags := 26, slot := 6, constantValue := 0 }, { name := "twoToTheDoubleScaleUp", type := .double, accessFlags := 8, slot := 7, constantValue := 0 }, { name := "twoToTheDoubleScaleDown", type := .double, accessFlags := 8, slot := 8, constantValue := 0 }, { name := "$assertionsDisabled", type := .boolean, accessFlags := 4120, slot := 9, constantValue := 0 }]
  methods := #[k19m0, k19m1]
  instanceTypes := #[]
  staticTypes := #[.double, .double, .double, .double, .double, .long, .long, .double, .double, .boolean]
  resolved := Array.replicate 460 none
  statics := none }

def pool20 : Array CpInfo := pool [(2, .class_ 4), (1, u "java/lang/Object"), (0, u "<init>"), (0, u "()V"), (35, .class_ 44), (1, u "java/util/Objects"), (60, .methodref 106 107), (0, .class_ 108), (0, .nameAndType 109 110), (0, u "jdk/internal/util/Preconditions"), (0, u "checkIndex"), (0, u "(IILjava/util/function/BiFunction;)I"), (60, u "(II)I")] 12

def k20m0 : Method := { name := "<init>", desc := "()V", sig := { parameters := [], returnType := none }, accessFlags := 2, code := none }
def k20c1 : Code := { maxStack := 3, maxLocals := 2, code := jdk_31_method_17_code, exceptionTable := #[], attributes := #[] }
def k20m1 : Method := { name := "checkIndex", desc := "(II)I", sig := { parameters := [.int, .int], returnType := some .int }, accessFlags := 9, code := some k20c1 }
/-- java/util/Objects -/
def k20 : Class := { plain "java/util/Objects" (some 0) with
  accessFlags := 49
  interfaces := #[]
  cf := some (fileOf pool20 42 #[] #[{ accessFlags := 2, nameIndex := 5, descriptorIndex := 6, attributes := #[] }, { accessFlags := 9, nameIndex := 109, descriptorIndex := 171, attributes := #[] }] 49 2 #[] #[])
  fields := #[]
  methods := #[k20m0, k20m1]
  instanceTypes := #[]
  staticTypes := #[]
  resolved := Array.replicate 184 none
  statics := none }

def pool21 : Array CpInfo := pool [(2, .class_ 4), (1, u "java/lang/Object"), (0, u "<init>"), (0, u "()V"), (17, .class_ 26), (1, u "jdk/internal/util/Preconditions"), (6, u "checkIndex"), (21, .class_ 56), (0, u "jdk/internal/util/Preconditions$4"), (57, .class_ 115), (0, u "jdk/internal/util/Preconditions$1"), (7, u "SIOOBE_FORMATTER"), (0, u "Ljava/util/function/BiFunction;"), (0, .class_ 126), (0, u "jdk/internal/util/Preconditions$2"), (3, u "AIOOBE_FORMATTER"), (0, .class_ 132), (0, u "jdk/internal/util/Preconditions$3"), (3, u "IOOBE_FORMATTER"), (41, u "(IILjava/util/function/BiFunction;)I")] 15

def k21m0 : Method := { name := "<init>", desc := "()V", sig := { parameters := [], returnType := none }, accessFlags := 1, code := none }
def k21c1 : Code := { maxStack := 3, maxLocals := 3, code := jdk_41_method_11_code, exceptionTable := #[], attributes := #[] }
def k21m1 : Method := { name := "checkIndex", desc := "(IILjava/util/function/BiFunction;)I", sig := { parameters := [.int, .int, (.object "java/util/function/BiFunction")], returnType := some .int }, accessFlags := 9, code := some k21c1 }
/-- jdk/internal/util/Preconditions -/
def k21 : Class := { plain "jdk/internal/util/Preconditions" (some 0) with
  accessFlags := 33
  interfaces := #[]
  cf := some (fileOf pool21 24 #[.nestMembers #[55, 131, 125, 114]] #[{ accessFlags := 1, nameIndex := 5, descriptorIndex := 6, attributes := #[] }, { accessFlags := 9, nameIndex := 33, descriptorIndex := 178, attributes := #[] }] 33 2 #[] #[{ accessFlags := 25, nameIndex := 123, descriptorIndex := 124, attributes := #[] }, { accessFlags := 25, nameIndex := 130, descriptorIndex := 124, attributes := #[] }, { accessFlags := 25, nameIndex := 136, descriptorIndex := 124, attributes := #[] }])
  fields := #[{ name := "SIOOBE_FORMATTER", type := (.object "java/util/function/BiFunction"), accessFlags := 25, slot := 0, constantValue := 0 }, { name := "AIOOBE_FORMATTER", type := (.object "java/util/function/BiFunction"), accessFlags := 25, slot := 1, constantValue := 0 }, { name := "IOOBE_FORMATTER", type := (.object "java/util/function/BiFunction"), accessFlags := 25, slot := 2, constantValue := 0 }]
  methods := #[k21m0, k21m1]
  instanceTypes := #[]
  staticTypes := #[(.object "java/util/function/BiFunction"), (.object "java/util/function/BiFunction"), (.object "java/util/function/BiFunction")]
  resolved := Array.replicate 194 none
  statics := some 2 }

def pool22 : Array CpInfo := pool [(2, .class_ 4), (1, u "java/lang/Object"), (0, u "<init>"), (0, u "()V"), (14, .class_ 23), (1, u "java/nio/charset/StandardCharsets"), (0, u "US_ASCII"), (0, u "Ljava/nio/charset/Charset;"), (7, u "ISO_8859_1"), (7, u "UTF_8"), (5, u "UTF_16BE"), (5, u "UTF_16LE"), (5, u "UTF_16")] 8

def k22m0 : Method := { name := "<init>", desc := "()V", sig := { parameters := [], returnType := none }, accessFlags := 2, code := none }
/-- java/nio/charset/StandardCharsets -/
def k22 : Class := { plain "java/nio/charset/StandardCharsets" (some 0) with
  accessFlags := 49
  interfaces := #[]
  cf := some (fileOf pool22 21 #[] #[{ accessFlags := 2, nameIndex := 5, descriptorIndex := 6, attributes := #[] }] 49 2 #[] #[{ accessFlags := 25, nameIndex := 24, descriptorIndex := 25, attributes := #[] }, { accessFlags := 25, nameIndex := 33, descriptorIndex := 25, attributes := #[] }, { accessFlags := 25, nameIndex := 41, descriptorIndex := 25, attributes := #[] }, { accessFlags := 25, nameIndex := 47, descriptorIndex := 25, attributes := #[] }, { accessFlags := 25, nameIndex := 53, descriptorIndex := 25, attributes := #[] }, { accessFlags := 25, nameIndex := 59, descriptorIndex := 25, attributes := #[] }])
  fields := #[{ name := "US_ASCII", type := (.object "java/nio/charset/Charset"), accessFlags := 25, slot := 0, constantValue := 0 }, { name := "ISO_8859_1", type := (.object "java/nio/charset/Charset"), accessFlags := 25, slot := 1, constantValue := 0 }, { name := "UTF_8", type := (.object "java/nio/charset/Charset"), accessFlags := 25, slot := 2, constantValue := 0 }, { name := "UTF_16BE", type := (.object "java/nio/charset/Charset"), accessFlags := 25, slot := 3, constantValue := 0 }, { name := "UTF_16LE", type := (.object "java/nio/charset/Charset"), accessFlags := 25, slot := 4, constantValue := 0 }, { name := "UTF_16", type := (.object "java/nio/charset/Charset"), accessFlags := 25, slot := 5, constantValue := 0 }]
  methods := #[k22m0]
  instanceTypes := #[]
  staticTypes := #[(.object "java/nio/charset/Charset"), (.object "java/nio/charset/Charset"), (.object "java/nio/charset/Charset"), (.object "java/nio/charset/Charset"), (.object "java/nio/charset/Charset"), (.object "java/nio/charset/Charset")]
  resolved := Array.replicate 68 none
  statics := some 3 }

def pool23 : Array CpInfo := pool [(18, .class_ 20), (1, u "java/nio/charset/Charset"), (0, u "cache1"), (0, u "[Ljava/lang/Object;"), (2, u "cache2"), (0, .class_ 27), (0, u "java/lang/Object"), (0, .class_ 29), (0, u "java/nio/charset/Charset$1"), (4, .class_ 36), (1, u "java/nio/charset/Charset$ThreadTrackHolder"), (21, .class_ 59), (0, u "java/nio/charset/Charset$2"), (11, .class_ 73), (1, u "java/nio/charset/Charset$ExtendedProviderHolder"), (22, u "standardProvider"), (0, u "Ljava/nio/charset/spi/CharsetProvider;"), (29, u "name"), (7, .class_ 136), (0, u "java/nio/charset/Charset$3"), (5, u "defaultCharset"), (0, u "Ljava/nio/charset/Charset;"), (14, u "zeroAliases"), (0, u "[Ljava/lang/String;"), (29, u "Ljava/lang/String;"), (2, u "aliases"), (2, u "aliasSet"), (0, u "Ljava/util/Set;"), (82, .class_ 280), (0, u "java/lang/Comparable"), (84, .class_ 366), (0, u "java/nio/charset/Charset$ExtendedProviderHolder$1")] 3

/-- java/nio/charset/Charset -/
def k23 : Class := { plain "java/nio/charset/Charset" (some 0) with
  accessFlags := 1057
  interfaces := #[14]
  cf := some (fileOf pool23 18 #[.nestMembers #[71, 365, 34, 135, 58, 28]] #[] 1057 26 #[279] #[{ accessFlags := 26, nameIndex := 96, descriptorIndex := 97, attributes := #[] }, { accessFlags := 26, nameIndex := 158, descriptorIndex := 159, attributes := #[] }, { accessFlags := 74, nameIndex := 21, descriptorIndex := 22, attributes := #[] }, { accessFlags := 74, nameIndex := 25, descriptorIndex := 22, attributes := #[] }, { accessFlags := 10, nameIndex := 142, descriptorIndex := 143, attributes := #[] }, { accessFlags := 18, nameIndex := 127, descriptorIndex := 189, attributes := #[] }, { accessFlags := 18, nameIndex := 192, descriptorIndex := 159, attributes := #[] }, { accessFlags := 2, nameIndex := 195, descriptorIndex := 196, attributes := #[] }])
  fields := #[{ name := "standardProvider", type := (.object "java/nio/charset/spi/CharsetProvider"), accessFlags := 26, slot := 0, constantValue := 0 }, { name := "zeroAliases", type := (.array (.object "java/lang/String")), accessFlags := 26, slot := 1, constantValue := 0 }, { name := "cache1", type := (.array (.object "java/lang/Object")), accessFlags := 74, slot := 2, constantValue := 0 }, { name := "cache2", type := (.array (.object "java/lang/Object")), accessFlags := 74, slot := 3, constantValue := 0 }, { name := "defaultCharset", type := (.object "java/nio/charset/Charset"), accessFlags := 10, slot := 4, constantValue := 0 }, { name := "name", type := (.object "java/lang/String"), accessFlags := 18, slot := 0, constantValue := 0 }, { name := "aliases", type := (.array (.object "java/lang/String")), accessFlags := 18, slot := 1, constantValue := 0 }, { name := "aliasSet", type := (.object "java/util/Set"), accessFlags := 2, slot := 2, constantValue := 0 }]
  methods := #[]
  instanceTypes := #[(.object "java/lang/String"), (.array (.object "java/lang/String")), (.object "java/util/Set")]
  staticTypes := #[(.object "java/nio/charset/spi/CharsetProvider"), (.array (.object "java/lang/String")), (.array (.object "java/lang/Object")), (.array (.object "java/lang/Object")), (.object "java/nio/charset/Charset")]
  resolved := Array.replicate 370 none
  statics := none }

def pool24 : Array CpInfo := pool [(1, .class_ 2), (0, u "sun/nio/cs/HistoricallyNamedCharset"), (0, .class_ 4), (0, u "java/lang/Object")] 4

/-- sun/nio/cs/HistoricallyNamedCharset -/
def k24 : Class := { plain "sun/nio/cs/HistoricallyNamedCharset" (some 0) with
  accessFlags := 1537
  interfaces := #[]
  cf := some (fileOf pool24 1 #[] #[] 1537 3 #[] #[])
  fields := #[]
  methods := #[]
  instanceTypes := #[]
  staticTypes := #[]
  resolved := Array.replicate 9 none
  statics := none }

def pool25 : Array CpInfo := pool [(2, .class_ 4), (1, u "java/nio/charset/Charset"), (130, .class_ 136), (0, u "sun/nio/cs/Unicode"), (0, .class_ 138), (0, u "sun/nio/cs/HistoricallyNamedCharset")] 15

/-- sun/nio/cs/Unicode -/
def k25 : Class := { plain "sun/nio/cs/Unicode" (some 23) with
  accessFlags := 1056
  interfaces := #[24]
  cf := some (fileOf pool25 135 #[] #[] 1056 2 #[137] #[])
  fields := #[]
  methods := #[]
  instanceTypes := #[(.object "java/lang/String"), (.array (.object "java/lang/String")), (.object "java/util/Set")]
  staticTypes := #[]
  resolved := Array.replicate 154 none
  statics := none }

def pool26 : Array CpInfo := pool [(10, .class_ 12), (1, u "sun/nio/cs/Unicode"), (0, u "<init>"), (3, .class_ 18), (0, u "sun/nio/cs/UTF_8$Decoder"), (3, .class_ 23), (0, u "sun/nio/cs/UTF_8$Encoder"), (15, .class_ 40), (0, u "sun/nio/cs/UTF_8"), (2, u "()V"), (2, u "INSTANCE"), (0, u "Lsun/nio/cs/UTF_8;"), (8, u "JLA"), (0, u "Ljdk/internal/access/JavaLangAccess;")] 26

def k26m0 : Method := { name := "<init>", desc := "()V", sig := { parameters := [], returnType := none }, accessFlags := 1, code := none }
/-- sun/nio/cs/UTF_8 -/
def k26 : Class := { plain "sun/nio/cs/UTF_8" (some 25) with
  accessFlags := 49
  interfaces := #[]
  cf := some (fileOf pool26 39 #[.nestMembers #[22, 17]] #[{ accessFlags := 1, nameIndex := 13, descriptorIndex := 43, attributes := #[] }] 49 10 #[] #[{ accessFlags := 25, nameIndex := 46, descriptorIndex := 47, attributes := #[] }, { accessFlags := 26, nameIndex := 56, descriptorIndex := 57, attributes := #[] }])
  fields := #[{ name := "INSTANCE", type := (.object "sun/nio/cs/UTF_8"), accessFlags := 25, slot := 0, constantValue := 0 }, { name := "JLA", type := (.object "jdk/internal/access/JavaLangAccess"), accessFlags := 26, slot := 1, constantValue := 0 }]
  methods := #[k26m0]
  instanceTypes := #[(.object "java/lang/String"), (.array (.object "java/lang/String")), (.object "java/util/Set")]
  staticTypes := #[(.object "sun/nio/cs/UTF_8"), (.object "jdk/internal/access/JavaLangAccess")]
  resolved := Array.replicate 84 none
  statics := some 4 }

def pool27 : Array CpInfo := pool [(2, .class_ 4), (1, u "java/lang/Object"), (0, u "<init>"), (0, u "()V"), (0, .methodref 8 9), (0, .class_ 10), (0, .nameAndType 11 12), (0, u "java/lang/StringCoding"), (0, u "countPositives"), (0, u "([BII)I"), (11, u "hasNegatives"), (0, u "([BII)Z")] 23

def k27m0 : Method := { name := "<init>", desc := "()V", sig := { parameters := [], returnType := none }, accessFlags := 2, code := none }
def k27c1 : Code := { maxStack := 3, maxLocals := 3, code := jdk_123_method_2_code, exceptionTable := #[], attributes := #[] }
def k27m1 : Method := { name := "hasNegatives", desc := "([BII)Z", sig := { parameters := [(.array .byte), .int, .int], returnType := some .boolean }, accessFlags := 9, code := some k27c1 }
def k27c2 : Code := { maxStack := 2, maxLocals := 5, code := jdk_123_method_3_code, exceptionTable := #[], attributes := #[] }
def k27m2 : Method := { name := "countPositives", desc := "([BII)I", sig := { parameters := [(.array .byte), .int, .int], returnType := some .int }, accessFlags := 9, code := some k27c2 }
/-- java/lang/StringCoding -/
def k27 : Class := { plain "java/lang/StringCoding" (some 0) with
  accessFlags := 32
  interfaces := #[]
  cf := some (fileOf pool27 8 #[] #[{ accessFlags := 2, nameIndex := 5, descriptorIndex := 6, attributes := #[] }, { accessFlags := 9, nameIndex := 24, descriptorIndex := 25, attributes := #[] }, { accessFlags := 9, nameIndex := 11, descriptorIndex := 12, attributes := #[] }] 32 2 #[] #[])
  fields := #[]
  methods := #[k27m0, k27m1, k27m2]
  instanceTypes := #[]
  staticTypes := #[]
  resolved := Array.replicate 49 none
  statics := none }

def pool28 : Array CpInfo := pool [(4, .class_ 6), (1, u "java/lang/Object"), (0, u "<init>"), (0, u "()V"), (5, .class_ 16), (1, u "java/lang/StringLatin1"), (104, u "$assertionsDisabled"), (0, u "Z"), (98, .class_ 223), (1, u "java/lang/StringLatin1$LinesSpliterator"), (166, .class_ 391), (0, u "java/lang/StringLatin1$CharsSpliterator")] 3

def k28m0 : Method := { name := "<init>", desc := "()V", sig := { parameters := [], returnType := none }, accessFlags := 0, code := none }
/-- java/lang/StringLatin1 -/
def k28 : Class := { plain "java/lang/StringLatin1" (some 0) with
  accessFlags := 48
  interfaces := #[]
  cf := some (fileOf pool28 14 #[.nestMembers #[390, 221]] #[{ accessFlags := 0, nameIndex := 7, descriptorIndex := 8, attributes := #[] }] 48 4 #[] #[{ accessFlags := 4120, nameIndex := 121, descriptorIndex := 122, attributes := #[] }])
  fields := #[{ name := "$assertionsDisabled", type := .boolean, accessFlags := 4120, slot := 0, constantValue := 0 }]
  methods := #[k28m0]
  instanceTypes := #[]
  staticTypes := #[.boolean]
  resolved := Array.replicate 395 none
  statics := none }

def pool29 : Array CpInfo := pool [(9, u "<init>"), (6, .class_ 18), (1, u "java/lang/Object"), (0, u "()V"), (1, .class_ 23), (1, u "jdk/internal/util/ArraysSupport"), (0, u "LOG2_ARRAY_LONG_INDEX_SCALE"), (0, u "I"), (2, u "U"), (0, u "Ljdk/internal/misc/Unsafe;"), (8, u "BIG_ENDIAN"), (0, u "Z"), (8, u "LOG2_BYTE_BIT_SIZE"), (4, u "LOG2_ARRAY_INT_INDEX_SCALE"), (54, u "JLA"), (0, u "Ljdk/internal/access/JavaLangAccess;"), (11, u "LOG2_ARRAY_BOOLEAN_INDEX_SCALE"), (9, u "LOG2_ARRAY_BYTE_INDEX_SCALE"), (5, u "LOG2_ARRAY_CHAR_INDEX_SCALE"), (5, u "LOG2_ARRAY_SHORT_INDEX_SCALE"), (18, u "LOG2_ARRAY_FLOAT_INDEX_SCALE"), (24, u "LOG2_ARRAY_DOUBLE_INDEX_SCALE"), (89, u "T_BOOLEAN"), (2, u "T_CHAR"), (1, u "T_FLOAT"), (1, u "T_DOUBLE"), (1, u "T_BYTE"), (1, u "T_SHORT"), (1, u "T_INT"), (1, u "T_LONG"), (1, u "SOFT_MAX_ARRAY_LENGTH")] 83

def k29m0 : Method := { name := "<init>", desc := "()V", sig := { parameters := [], returnType := none }, accessFlags := 2, code := none }
/-- jdk/internal/util/ArraysSupport -/
def k29 : Class := { plain "jdk/internal/util/ArraysSupport" (some 0) with
  accessFlags := 33
  interfaces := #[]
  cf := some (fileOf pool29 21 #[] #[{ accessFlags := 2, nameIndex := 9, descriptorIndex := 19, attributes := #[] }] 33 16 #[] #[{ accessFlags := 24, nameIndex := 28, descriptorIndex := 29, attributes := #[] }, { accessFlags := 26, nameIndex := 38, descriptorIndex := 39, attributes := #[] }, { accessFlags := 25, nameIndex := 121, descriptorIndex := 25, attributes := #[] }, { accessFlags := 25, nameIndex := 131, descriptorIndex := 25, attributes := #[] }, { accessFlags := 25, nameIndex := 137, descriptorIndex := 25, attributes := #[] }, { accessFlags := 25, nameIndex := 143, descriptorIndex := 25, attributes := #[] }, { accessFlags := 25, nameIndex := 53, descriptorIndex := 25, attributes := #[] }, { accessFlags := 25, nameIndex := 24, descriptorIndex := 25, attributes := #[] }, { accessFlags := 25, nameIndex := 162, descriptorIndex := 25, attributes := #[] }, { accessFlags := 25, nameIndex := 187, descriptorIndex := 25, attributes := #[] }, { accessFlags := 26, nameIndex := 48, descriptorIndex := 25, attributes := #[] }, { accessFlags := 25, nameIndex := 277, descriptorIndex := 25, attributes := #[] }, { accessFlags := 25, nameIndex := 280, descriptorIndex := 25, attributes := #[] }, { accessFlags := 25, nameIndex := 282, descriptorIndex := 25, attributes := #[] }, { accessFlags := 25, nameIndex := 284, descriptorIndex := 25, attributes := #[] }, { accessFlags := 25, nameIndex := 286, descriptorIndex := 25, attributes := #[] }, { accessFlags := 25, nameIndex := 288, descriptorIndex := 25, attributes := #[] }, { accessFlags := 25, nameIndex := 290, descriptorIndex := 25, attributes := #[] }, { accessFlags := 25, nameIndex := 292, descriptorIndex := 25, attributes := #[] }, { accessFlags := 26, nameIndex := 108, descriptorIndex := 109, attributes := #[] }, { accessFlags := 25, nameIndex := 294, descriptorIndex := 25, attributes := #[] }])
  fields := #[{ name := "U", type := (.object "jdk/internal/misc/Unsafe"), accessFlags := 24, slot := 0, constantValue := 0 }, { name := "BIG_ENDIAN", type := .boolean, accessFlags := 26, slot := 1, constantValue := 0 }, { name := "LOG2_ARRAY_BOOLEAN_INDEX_SCALE", type := .int, accessFlags := 25, slot := 2, constantValue := 0 }, { name := "LOG2_ARRAY_BYTE_INDEX_SCALE", type := .int, accessFlags := 25, slot := 3, constantValue := 0 }, { name := "LOG2_ARRAY_CHAR_INDEX_SCALE", type := .int, accessFlags := 25, slot := 4, constantValue := 0 }, { name := "LOG2_ARRAY_SHORT_INDEX_SCALE", type := .int, accessFlags := 25, slot := 5, constantValue := 0 }, { name := "LOG2_ARRAY_INT_INDEX_SCALE", type := .int, accessFlags := 25, slot := 6, constantValue := 0 }, { name := "LOG2_ARRAY_LONG_INDEX_SCALE", type := .int, accessFlags := 25, slot := 7, constantValue := 0 }, { name := "LOG2_ARRAY_FLOAT_INDEX_SCALE", type := .int, accessFlags := 25, slot := 8, constantValue := 0 }, { name := "LOG2_ARRAY_DOUBLE_INDEX_SCALE", type := .int, accessFlags := 25, slot := 9, constantValue := 0 }, { name := "LOG2_BYTE_BIT_SIZE", type := .int, accessFlags := 26, slot := 10, constantValue := 0 }, { name := "T_BOOLEAN", type := .int, accessFlags := 25, slot := 11, constantValue := 0 }, { name := "T_CHAR", type := .int, accessFlags := 25, slot := 12, constantValue := 0 }, { name := "T_FLOAT", type := .int, accessFlags := 25, slot := 13, constantValue := 0 }, { name := "T_DOUBLE", type := .int, accessFlags := 25, slot := 14, constantValue := 0 }, { name := "T_BYTE", type := .int, accessFlags := 25, slot := 15, constantValue := 0 }, { name := "T_SHORT", type := .int, accessFlags := 25, slot := 16, constantValue := 0 }, { name := "T_INT", type := .int, accessFlags := 25, slot := 17, constantValue := 0 }, { name := "T_LONG", type := .int, accessFlags := 25, slot := 18, constantValue := 0 }, { name := "JLA", type := (.object "jdk/internal/access/JavaLangAccess"), accessFlags := 26, slot := 19, constantValue := 0 }, { name := "SOFT_MAX_ARRAY_LENGTH", type := .int, accessFlags := 25, slot := 20, constantValue := 0 }]
  methods := #[k29m0]
  instanceTypes := #[]
  staticTypes := #[(.object "jdk/internal/misc/Unsafe"), .boolean, .int, .int, .int, .int, .int, .int, .int, .int, .int, .int, .int, .int, .int, .int, .int, .int, .int, (.object "jdk/internal/access/JavaLangAccess"), .int]
  resolved := Array.replicate 378 none
  statics := none }

/-- the primitive byte -/
def k30 : Class := { plain "byte" none with kind := .primitive 'B', accessFlags := 0x411 }
/-- [B -/
def k31 : Class := { plain "[B" (some 0) with kind := .array 30 .byte, interfaces := #[9, 10], accessFlags := 1041 }

/-- the primitive int -/
def k32 : Class := { plain "int" none with kind := .primitive 'I', accessFlags := 0x411 }
/-- [I -/
def k33 : Class := { plain "[I" (some 0) with kind := .array 32 .int, interfaces := #[9, 10], accessFlags := 1041 }

/-- [Ljava/lang/Object; -/
def k34 : Class := { plain "[Ljava/lang/Object;" (some 0) with kind := .array 0 (.object "java/lang/Object"), interfaces := #[9, 10], accessFlags := 1041 }

/-- [[B -/
def k35 : Class := { plain "[[B" (some 0) with kind := .array 31 (.array .byte), interfaces := #[9, 10], accessFlags := 1041 }

def heap : Heap := #[{ cls := 11, slots := #[.long 0, .int 0, .ref 5, .ref 6], vm := .statics 11 },
  { cls := 18, slots := #[.long 0, .int 1, .null, .int 0, .null, .int 0, .int 0], vm := .statics 18 },
  { cls := 21, slots := #[.null, .null, .null], vm := .statics 21 },
  { cls := 22, slots := #[.null, .null, .ref 7, .null, .null, .null], vm := .statics 22 },
  { cls := 26, slots := #[.ref 7, .null], vm := .statics 26 },
  { cls := 34, slots := #[], vm := .none },
  { cls := 34, slots := #[], vm := .none },
  { cls := 26, slots := #[.null, .null, .null], vm := .none }]
def classes : Array Class := #[k0, k1, k2, k3, k4, k5, k6, k7, k8, k9, k10, k11, k12, k13, k14, k15, k16, k17, k18, k19, k20, k21, k22, k23, k24, k25, k26, k27, k28, k29, k30, k31, k32, k33, k34, k35]
def interned : List (Array UInt16 × Addr) := []
def slotsUsed : Nat := 25
def theMethod : MethodId := ⟨1, 3⟩
def args0 : Array Value := #[.int 2, .int 1, .int 5, .int 3, .int 4]
def aboutOver (below : List Frame) : State where
  vm := { classes := classes, interned := interned.toArray }
  heap := heap
  slotsUsed := slotsUsed
  threads := #[{ frames := .invoking theMethod args0 :: below }]
def below0 : List Frame := [.native { method := ⟨0, 0⟩, args := #[] }]
def about1 : State := aboutOver below0
def p0 : Program := .bare "" "" ""
def e0 : Env := launch0.env 0 0 0
theorem w_frames : about1.frames = Frame.invoking theMethod args0 :: below0 := rfl
set_option maxRecDepth 65536 in
theorem w_args : argsFit about1.vm theMethod args0 = true := by decide +kernel
set_option maxRecDepth 65536 in
theorem w_heap : heapFits about1 = true := by decide +kernel
set_option maxRecDepth 65536 in
theorem w_runnable : about1.curStatus? = some .runnable := by decide +kernel
set_option maxRecDepth 65536 in
theorem w_alone : about1.alone = true := by decide +kernel
set_option maxRecDepth 65536 in
theorem w_named : about1.methodNamed? x = some theMethod := by decide +kernel
set_option maxRecDepth 65536 in
theorem w_hears : about1.hears theMethod below0 = true := by decide +kernel
set_option maxRecDepth 65536 in
theorem w_ripe : about1.ripe theMethod args0 below0 = true := by decide +kernel
theorem w_running : about1.status = .running := rfl
set_option maxRecDepth 65536 in
theorem w_room : about1.hasRoom e0.platform room_1 = true :=
  launch0.hasRoom_least _ room_1 (by decide +kernel) (by decide +kernel) (by decide +kernel) (by decide +kernel) (by decide +kernel) (by decide +kernel)
theorem allAtoms_all (ts : List Jvm.Cond) (a : Array Jvm.Value) (st : Jvm.State) : (allAtoms ts).before a st = ts.all (fun c => c.before a st) := by
  induction ts with
  | nil => rfl
  | cons c t ih =>
    show (Jvm.Cond.and c (allAtoms t)).before a st = _
    rw [Jvm.Cond.before_and, ih, List.all_cons]
def words1 : List Jvm.Cond := Jvm.Cond.code x code maxLocals ret :: tables_1
/-- a 'code' word, met by the world's own term for the bytes: nothing is compared byte by byte -/
theorem code_word {y : MethodName} {bytes : ByteArray} {mx : Nat} {rt : Option FieldType} {a : Array Value} {s : State} {m : MethodId} {meth : Method} {c : Code} (h1 : s.methodNamed? y = some m) (h2 : s.vm.method? m = some meth) (h3 : meth.code = some c) (h4 : c.code = bytes)
    (h5 : (c.maxLocals == mx && c.exceptionTable.isEmpty && decide (c.maxStack ≤ mostOperands) && decide (meth.sig.returnType = rt) && !meth.locks && decide (parseMethodDescriptor y.desc = some meth.sig)) = true) : (Jvm.Cond.code y bytes mx rt).before a s = true := by
  simp only [Bool.and_eq_true, beq_iff_eq, Bool.not_eq_true', decide_eq_true_eq] at h5
  obtain ⟨⟨⟨⟨⟨g1, g2⟩, g3⟩, g4⟩, g5⟩, g6⟩ := h5
  simp [Cond.before, Cond.holds, Cond.value, h1, h2, h3, h4, g1, g2, g3, g4, g5, g6]
def isCode : Jvm.Cond → Bool
  | .code _ _ _ _ => true
  | _ => false
theorem all_split {L : List Jvm.Cond} {P : Jvm.Cond → Bool} (h1 : L.all (fun c => isCode c || P c) = true) (h2 : ∀ c ∈ L.filter isCode, P c = true) : L.all P = true := by
  refine List.all_eq_true.mpr fun c hc => ?_
  have h := List.all_eq_true.mp h1 c hc
  rcases Bool.eq_false_or_eq_true (isCode c) with hi | hi
  · exact h2 c (List.mem_filter.mpr ⟨hc, hi⟩)
  · simpa [hi] using h
set_option maxRecDepth 65536 in
theorem w_c0 : (Jvm.Cond.code x code maxLocals ret).before args0 about1 = true := code_word (m := ⟨1, 3⟩) (meth := k1m3) (c := k1c3) (by decide +kernel) rfl rfl rfl (by decide +kernel)
set_option maxRecDepth 65536 in
theorem w_c1 : (Jvm.Cond.code ({ cls := "java/util/ArrayList", name := "<init>", desc := "()V" } : Jvm.MethodName) jdk_38_method_2_code (1 : Nat) (Option.none : Option Jvm.ClassFile.FieldType)).before args0 about1 = true := code_word (m := ⟨11, 0⟩) (meth := k11m0) (c := k11c0) (by decide +kernel) rfl rfl rfl (by decide +kernel)
set_option maxRecDepth 65536 in
theorem w_c2 : (Jvm.Cond.code ({ cls := "java/util/AbstractList", name := "<init>", desc := "()V" } : Jvm.MethodName) jdk_39_method_1_code (1 : Nat) (Option.none : Option Jvm.ClassFile.FieldType)).before args0 about1 = true := code_word (m := ⟨7, 0⟩) (meth := k7m0) (c := k7c0) (by decide +kernel) rfl rfl rfl (by decide +kernel)
set_option maxRecDepth 65536 in
theorem w_c3 : (Jvm.Cond.code ({ cls := "java/util/AbstractCollection", name := "<init>", desc := "()V" } : Jvm.MethodName) jdk_22_method_1_code (1 : Nat) (Option.none : Option Jvm.ClassFile.FieldType)).before args0 about1 = true := code_word (m := ⟨4, 0⟩) (meth := k4m0) (c := k4c0) (by decide +kernel) rfl rfl rfl (by decide +kernel)
set_option maxRecDepth 65536 in
theorem w_c4 : (Jvm.Cond.code ({ cls := "java/lang/Object", name := "<init>", desc := "()V" } : Jvm.MethodName) object_method_1_code (1 : Nat) (Option.none : Option Jvm.ClassFile.FieldType)).before args0 about1 = true := code_word (m := ⟨0, 0⟩) (meth := k0m0) (c := k0c0) (by decide +kernel) rfl rfl rfl (by decide +kernel)
set_option maxRecDepth 65536 in
theorem w_c5 : (Jvm.Cond.code ({ cls := "com/example/gridtally/gridtally/casefile/IdSequence", name := "<init>", desc := "(Ljava/util/List;)V" } : Jvm.MethodName) prog_15_method_1_code (3 : Nat) (Option.none : Option Jvm.ClassFile.FieldType)).before args0 about1 = true := code_word (m := ⟨12, 0⟩) (meth := k12m0) (c := k12c0) (by decide +kernel) rfl rfl rfl (by decide +kernel)
set_option maxRecDepth 65536 in
theorem w_c6 : (Jvm.Cond.code ({ cls := "java/util/ArrayList", name := "size", desc := "()I" } : Jvm.MethodName) jdk_38_method_8_code (1 : Nat) (Option.some Jvm.ClassFile.FieldType.int)).before args0 about1 = true := code_word (m := ⟨11, 3⟩) (meth := k11m3) (c := k11c3) (by decide +kernel) rfl rfl rfl (by decide +kernel)
set_option maxRecDepth 65536 in
theorem w_c7 : (Jvm.Cond.code ({ cls := "java/util/Arrays", name := "fill", desc := "([II)V" } : Jvm.MethodName) jdk_65_method_103_code (4 : Nat) (Option.none : Option Jvm.ClassFile.FieldType)).before args0 about1 = true := code_word (m := ⟨13, 1⟩) (meth := k13m1) (c := k13c1) (by decide +kernel) rfl rfl rfl (by decide +kernel)
set_option maxRecDepth 65536 in
theorem w_c8 : (Jvm.Cond.code ({ cls := "com/example/gridtally/gridtally/casefile/IdSequenceNamedPinLaw", name := "pos", desc := "(II)I" } : Jvm.MethodName) method_2_code (2 : Nat) (Option.some Jvm.ClassFile.FieldType.int)).before args0 about1 = true := code_word (m := ⟨1, 1⟩) (meth := k1m1) (c := k1c1) (by decide +kernel) rfl rfl rfl (by decide +kernel)
set_option maxRecDepth 65536 in
theorem w_c9 : (Jvm.Cond.code ({ cls := "com/example/gridtally/gridtally/casefile/IdSequence", name := "nextExpected", desc := "()I" } : Jvm.MethodName) prog_15_method_3_code (2 : Nat) (Option.some Jvm.ClassFile.FieldType.int)).before args0 about1 = true := code_word (m := ⟨12, 1⟩) (meth := k12m1) (c := k12c1) (by decide +kernel) rfl rfl rfl (by decide +kernel)
set_option maxRecDepth 65536 in
theorem w_c10 : (Jvm.Cond.code ({ cls := "com/example/gridtally/gridtally/casefile/IdSequence", name := "named", desc := "(I)V" } : Jvm.MethodName) prog_15_method_4_code (2 : Nat) (Option.none : Option Jvm.ClassFile.FieldType)).before args0 about1 = true := code_word (m := ⟨12, 2⟩) (meth := k12m2) (c := k12c2) (by decide +kernel) rfl rfl rfl (by decide +kernel)
set_option maxRecDepth 65536 in
theorem w_c11 : (Jvm.Cond.code ({ cls := "com/example/gridtally/gridtally/casefile/IdSequenceNamedPinLaw", name := "ref", desc := "([III)I" } : Jvm.MethodName) method_3_code (4 : Nat) (Option.some Jvm.ClassFile.FieldType.int)).before args0 about1 = true := code_word (m := ⟨1, 2⟩) (meth := k1m2) (c := k1c2) (by decide +kernel) rfl rfl rfl (by decide +kernel)
set_option maxRecDepth 65536 in
theorem w_c12 : (Jvm.Cond.code ({ cls := "java/util/ArrayList", name := "add", desc := "(Ljava/lang/Object;)Z" } : Jvm.MethodName) jdk_38_method_25_code (2 : Nat) (Option.some Jvm.ClassFile.FieldType.boolean)).before args0 about1 = true := code_word (m := ⟨11, 7⟩) (meth := k11m7) (c := k11c7) (by decide +kernel) rfl rfl rfl (by decide +kernel)
set_option maxRecDepth 65536 in
theorem w_c13 : (Jvm.Cond.code ({ cls := "java/util/ArrayList", name := "add", desc := "(Ljava/lang/Object;[Ljava/lang/Object;I)V" } : Jvm.MethodName) jdk_38_method_24_code (4 : Nat) (Option.none : Option Jvm.ClassFile.FieldType)).before args0 about1 = true := code_word (m := ⟨11, 6⟩) (meth := k11m6) (c := k11c6) (by decide +kernel) rfl rfl rfl (by decide +kernel)
set_option maxRecDepth 65536 in
theorem w_c14 : (Jvm.Cond.code ({ cls := "java/util/ArrayList", name := "grow", desc := "()[Ljava/lang/Object;" } : Jvm.MethodName) jdk_38_method_7_code (1 : Nat) (Option.some (Jvm.ClassFile.FieldType.array (Jvm.ClassFile.FieldType.object "java/lang/Object")))).before args0 about1 = true := code_word (m := ⟨11, 2⟩) (meth := k11m2) (c := k11c2) (by decide +kernel) rfl rfl rfl (by decide +kernel)
set_option maxRecDepth 65536 in
theorem w_c15 : (Jvm.Cond.code ({ cls := "java/util/ArrayList", name := "grow", desc := "(I)[Ljava/lang/Object;" } : Jvm.MethodName) jdk_38_method_6_code (4 : Nat) (Option.some (Jvm.ClassFile.FieldType.array (Jvm.ClassFile.FieldType.object "java/lang/Object")))).before args0 about1 = true := code_word (m := ⟨11, 1⟩) (meth := k11m1) (c := k11c1) (by decide +kernel) rfl rfl rfl (by decide +kernel)
set_option maxRecDepth 65536 in
theorem w_c16 : (Jvm.Cond.code ({ cls := "java/lang/Math", name := "max", desc := "(II)I" } : Jvm.MethodName) jdk_29_method_65_code (2 : Nat) (Option.some Jvm.ClassFile.FieldType.int)).before args0 about1 = true := code_word (m := ⟨19, 1⟩) (meth := k19m1) (c := k19c1) (by decide +kernel) rfl rfl rfl (by decide +kernel)
set_option maxRecDepth 65536 in
theorem w_c17 : (Jvm.Cond.code ({ cls := "java/util/ArrayList", name := "get", desc := "(I)Ljava/lang/Object;" } : Jvm.MethodName) jdk_38_method_20_code (2 : Nat) (Option.some (Jvm.ClassFile.FieldType.object "java/lang/Object"))).before args0 about1 = true := code_word (m := ⟨11, 5⟩) (meth := k11m5) (c := k11c5) (by decide +kernel) rfl rfl rfl (by decide +kernel)
set_option maxRecDepth 65536 in
theorem w_c18 : (Jvm.Cond.code ({ cls := "java/util/Objects", name := "checkIndex", desc := "(II)I" } : Jvm.MethodName) jdk_31_method_17_code (2 : Nat) (Option.some Jvm.ClassFile.FieldType.int)).before args0 about1 = true := code_word (m := ⟨20, 1⟩) (meth := k20m1) (c := k20c1) (by decide +kernel) rfl rfl rfl (by decide +kernel)
set_option maxRecDepth 65536 in
theorem w_c19 : (Jvm.Cond.code ({ cls := "jdk/internal/util/Preconditions", name := "checkIndex", desc := "(IILjava/util/function/BiFunction;)I" } : Jvm.MethodName) jdk_41_method_11_code (3 : Nat) (Option.some Jvm.ClassFile.FieldType.int)).before args0 about1 = true := code_word (m := ⟨21, 1⟩) (meth := k21m1) (c := k21c1) (by decide +kernel) rfl rfl rfl (by decide +kernel)
set_option maxRecDepth 65536 in
theorem w_c20 : (Jvm.Cond.code ({ cls := "java/util/ArrayList", name := "elementData", desc := "(I)Ljava/lang/Object;" } : Jvm.MethodName) jdk_38_method_18_code (2 : Nat) (Option.some (Jvm.ClassFile.FieldType.object "java/lang/Object"))).before args0 about1 = true := code_word (m := ⟨11, 4⟩) (meth := k11m4) (c := k11c4) (by decide +kernel) rfl rfl rfl (by decide +kernel)
set_option maxRecDepth 65536 in
theorem w_c21 : (Jvm.Cond.code ({ cls := "java/lang/String", name := "getBytes", desc := "(Ljava/nio/charset/Charset;)[B" } : Jvm.MethodName) jdk_42_method_64_code (2 : Nat) (Option.some (Jvm.ClassFile.FieldType.array Jvm.ClassFile.FieldType.byte))).before args0 about1 = true := code_word (m := ⟨18, 3⟩) (meth := k18m3) (c := k18c3) (by decide +kernel) rfl rfl rfl (by decide +kernel)
set_option maxRecDepth 65536 in
theorem w_c22 : (Jvm.Cond.code ({ cls := "java/lang/String", name := "coder", desc := "()B" } : Jvm.MethodName) jdk_42_method_152_code (1 : Nat) (Option.some Jvm.ClassFile.FieldType.byte)).before args0 about1 = true := code_word (m := ⟨18, 4⟩) (meth := k18m4) (c := k18c4) (by decide +kernel) rfl rfl rfl (by decide +kernel)
set_option maxRecDepth 65536 in
theorem w_c23 : (Jvm.Cond.code ({ cls := "java/lang/String", name := "encode", desc := "(Ljava/nio/charset/Charset;B[B)[B" } : Jvm.MethodName) jdk_42_method_18_code (3 : Nat) (Option.some (Jvm.ClassFile.FieldType.array Jvm.ClassFile.FieldType.byte))).before args0 about1 = true := code_word (m := ⟨18, 1⟩) (meth := k18m1) (c := k18c1) (by decide +kernel) rfl rfl rfl (by decide +kernel)
set_option maxRecDepth 65536 in
theorem w_c24 : (Jvm.Cond.code ({ cls := "java/lang/String", name := "encodeUTF8", desc := "(B[BZ)[B" } : Jvm.MethodName) jdk_42_method_46_code (9 : Nat) (Option.some (Jvm.ClassFile.FieldType.array Jvm.ClassFile.FieldType.byte))).before args0 about1 = true := code_word (m := ⟨18, 2⟩) (meth := k18m2) (c := k18c2) (by decide +kernel) rfl rfl rfl (by decide +kernel)
set_option maxRecDepth 65536 in
theorem w_c25 : (Jvm.Cond.code ({ cls := "java/lang/StringCoding", name := "hasNegatives", desc := "([BII)Z" } : Jvm.MethodName) jdk_123_method_2_code (3 : Nat) (Option.some Jvm.ClassFile.FieldType.boolean)).before args0 about1 = true := code_word (m := ⟨27, 1⟩) (meth := k27m1) (c := k27c1) (by decide +kernel) rfl rfl rfl (by decide +kernel)
set_option maxRecDepth 65536 in
theorem w_c26 : (Jvm.Cond.code ({ cls := "java/lang/StringCoding", name := "countPositives", desc := "([BII)I" } : Jvm.MethodName) jdk_123_method_3_code (5 : Nat) (Option.some Jvm.ClassFile.FieldType.int)).before args0 about1 = true := code_word (m := ⟨27, 2⟩) (meth := k27m2) (c := k27c2) (by decide +kernel) rfl rfl rfl (by decide +kernel)
def codes1 : List Jvm.Cond := [Jvm.Cond.code x code maxLocals ret, Jvm.Cond.code ({ cls := "java/util/ArrayList", name := "<init>", desc := "()V" } : Jvm.MethodName) jdk_38_method_2_code (1 : Nat) (Option.none : Option Jvm.ClassFile.FieldType), Jvm.Cond.code ({ cls := "java/util/AbstractList", name := "<init>", desc := "()V" } : Jvm.MethodName) jdk_39_method_1_code (1 : Nat) (Option.none : Option Jvm.ClassFile.FieldType), Jvm.Cond.code ({ cls := "java/util/AbstractCollection", name := "<init>", desc := "()V" } : Jvm.MethodName) jdk_22_method_1_code (1 : Nat) (Option.none : Option Jvm.ClassFile.FieldType), Jvm.Cond.code ({ cls := "java/lang/Object", name := "<init>", desc := "()V" } : Jvm.MethodName) object_method_1_code (1 : Nat) (Option.none : Option Jvm.ClassFile.FieldType), Jvm.Cond.code ({ cls := "com/example/gridtally/gridtally/casefile/IdSequence", name := "<init>", desc := "(Ljava/util/List;)V" } : Jvm.MethodName) prog_15_method_1_code (3 : Nat) (Option.none : Option Jvm.ClassFile.FieldType), Jvm.Cond.code ({ cls := "java/util/ArrayList", name := "size", desc := "()I" } : Jvm.MethodName) jdk_38_method_8_code (1 : Nat) (Option.some Jvm.ClassFile.FieldType.int), Jvm.Cond.code ({ cls := "java/util/Arrays", name := "fill", desc := "([II)V" } : Jvm.MethodName) jdk_65_method_103_code (4 : Nat) (Option.none : Option Jvm.ClassFile.FieldType), Jvm.Cond.code ({ cls := "com/example/gridtally/gridtally/casefile/IdSequenceNamedPinLaw", name := "pos", desc := "(II)I" } : Jvm.MethodName) method_2_code (2 : Nat) (Option.some Jvm.ClassFile.FieldType.int), Jvm.Cond.code ({ cls := "com/example/gridtally/gridtally/casefile/IdSequence", name := "nextExpected", desc := "()I" } : Jvm.MethodName) prog_15_method_3_code (2 : Nat) (Option.some Jvm.ClassFile.FieldType.int), Jvm.Cond.code ({ cls := "com/example/gridtally/gridtally/casefile/IdSequence", name := "named", desc := "(I)V" } : Jvm.MethodName) prog_15_method_4_code (2 : Nat) (Option.none : Option Jvm.ClassFile.FieldType), Jvm.Cond.code ({ cls := "com/example/gridtally/gridtally/casefile/IdSequenceNamedPinLaw", name := "ref", desc := "([III)I" } : Jvm.MethodName) method_3_code (4 : Nat) (Option.some Jvm.ClassFile.FieldType.int), Jvm.Cond.code ({ cls := "java/util/ArrayList", name := "add", desc := "(Ljava/lang/Object;)Z" } : Jvm.MethodName) jdk_38_method_25_code (2 : Nat) (Option.some Jvm.ClassFile.FieldType.boolean), Jvm.Cond.code ({ cls := "java/util/ArrayList", name := "add", desc := "(Ljava/lang/Object;[Ljava/lang/Object;I)V" } : Jvm.MethodName) jdk_38_method_24_code (4 : Nat) (Option.none : Option Jvm.ClassFile.FieldType), Jvm.Cond.code ({ cls := "java/util/ArrayList", name := "grow", desc := "()[Ljava/lang/Object;" } : Jvm.MethodName) jdk_38_method_7_code (1 : Nat) (Option.some (Jvm.ClassFile.FieldType.array (Jvm.ClassFile.FieldType.object "java/lang/Object"))), Jvm.Cond.code ({ cls := "java/util/ArrayList", name := "grow", desc := "(I)[Ljava/lang/Object;" } : Jvm.MethodName) jdk_38_method_6_code (4 : Nat) (Option.some (Jvm.ClassFile.FieldType.array (Jvm.ClassFile.FieldType.object "java/lang/Object"))), Jvm.Cond.code ({ cls := "java/lang/Math", name := "max", desc := "(II)I" } : Jvm.MethodName) jdk_29_method_65_code (2 : Nat) (Option.some Jvm.ClassFile.FieldType.int), Jvm.Cond.code ({ cls := "java/util/ArrayList", name := "get", desc := "(I)Ljava/lang/Object;" } : Jvm.MethodName) jdk_38_method_20_code (2 : Nat) (Option.some (Jvm.ClassFile.FieldType.object "java/lang/Object")), Jvm.Cond.code ({ cls := "java/util/Objects", name := "checkIndex", desc := "(II)I" } : Jvm.MethodName) jdk_31_method_17_code (2 : Nat) (Option.some Jvm.ClassFile.FieldType.int), Jvm.Cond.code ({ cls := "jdk/internal/util/Preconditions", name := "checkIndex", desc := "(IILjava/util/function/BiFunction;)I" } : Jvm.MethodName) jdk_41_method_11_code (3 : Nat) (Option.some Jvm.ClassFile.FieldType.int), Jvm.Cond.code ({ cls := "java/util/ArrayList", name := "elementData", desc := "(I)Ljava/lang/Object;" } : Jvm.MethodName) jdk_38_method_18_code (2 : Nat) (Option.some (Jvm.ClassFile.FieldType.object "java/lang/Object")), Jvm.Cond.code ({ cls := "java/lang/String", name := "getBytes", desc := "(Ljava/nio/charset/Charset;)[B" } : Jvm.MethodName) jdk_42_method_64_code (2 : Nat) (Option.some (Jvm.ClassFile.FieldType.array Jvm.ClassFile.FieldType.byte)), Jvm.Cond.code ({ cls := "java/lang/String", name := "coder", desc := "()B" } : Jvm.MethodName) jdk_42_method_152_code (1 : Nat) (Option.some Jvm.ClassFile.FieldType.byte), Jvm.Cond.code ({ cls := "java/lang/String", name := "encode", desc := "(Ljava/nio/charset/Charset;B[B)[B" } : Jvm.MethodName) jdk_42_method_18_code (3 : Nat) (Option.some (Jvm.ClassFile.FieldType.array Jvm.ClassFile.FieldType.byte)), Jvm.Cond.code ({ cls := "java/lang/String", name := "encodeUTF8", desc := "(B[BZ)[B" } : Jvm.MethodName) jdk_42_method_46_code (9 : Nat) (Option.some (Jvm.ClassFile.FieldType.array Jvm.ClassFile.FieldType.byte)), Jvm.Cond.code ({ cls := "java/lang/StringCoding", name := "hasNegatives", desc := "([BII)Z" } : Jvm.MethodName) jdk_123_method_2_code (3 : Nat) (Option.some Jvm.ClassFile.FieldType.boolean), Jvm.Cond.code ({ cls := "java/lang/StringCoding", name := "countPositives", desc := "([BII)I" } : Jvm.MethodName) jdk_123_method_3_code (5 : Nat) (Option.some Jvm.ClassFile.FieldType.int)]
set_option maxRecDepth 65536 in
theorem codes_eq : words1.filter isCode = codes1 := rfl
theorem w_codes : ∀ c ∈ words1.filter isCode, c.before args0 about1 = true := by
  rw [codes_eq]
  intro c hc
  simp only [codes1, List.mem_cons, List.not_mem_nil, or_false] at hc
  rcases hc with rfl | rfl | rfl | rfl | rfl | rfl | rfl | rfl | rfl | rfl | rfl | rfl | rfl | rfl | rfl | rfl | rfl | rfl | rfl | rfl | rfl | rfl | rfl | rfl | rfl | rfl | rfl
  · exact w_c0
  · exact w_c1
  · exact w_c2
  · exact w_c3
  · exact w_c4
  · exact w_c5
  · exact w_c6
  · exact w_c7
  · exact w_c8
  · exact w_c9
  · exact w_c10
  · exact w_c11
  · exact w_c12
  · exact w_c13
  · exact w_c14
  · exact w_c15
  · exact w_c16
  · exact w_c17
  · exact w_c18
  · exact w_c19
  · exact w_c20
  · exact w_c21
  · exact w_c22
  · exact w_c23
  · exact w_c24
  · exact w_c25
  · exact w_c26
set_option maxRecDepth 65536 in
theorem w_t1 : (words1.take 24).all (fun c => isCode c || c.before args0 about1) = true := by decide +kernel
set_option maxRecDepth 65536 in
theorem w_t2 : ((words1.drop 24).take 24).all (fun c => isCode c || c.before args0 about1) = true := by decide +kernel
set_option maxRecDepth 65536 in
theorem w_t3 : (((words1.drop 24).drop 24).take 24).all (fun c => isCode c || c.before args0 about1) = true := by decide +kernel
set_option maxRecDepth 65536 in
theorem w_t4 : ((((words1.drop 24).drop 24).drop 24).take 24).all (fun c => isCode c || c.before args0 about1) = true := by decide +kernel
set_option maxRecDepth 65536 in
theorem w_t5 : (((((words1.drop 24).drop 24).drop 24).drop 24).take 24).all (fun c => isCode c || c.before args0 about1) = true := by decide +kernel
set_option maxRecDepth 65536 in
theorem w_t6 : ((((((words1.drop 24).drop 24).drop 24).drop 24).drop 24).take 24).all (fun c => isCode c || c.before args0 about1) = true := by decide +kernel
set_option maxRecDepth 65536 in
theorem w_t7 : (((((((words1.drop 24).drop 24).drop 24).drop 24).drop 24).drop 24).take 24).all (fun c => isCode c || c.before args0 about1) = true := by decide +kernel
set_option maxRecDepth 65536 in
theorem w_t8 : (((((((words1.drop 24).drop 24).drop 24).drop 24).drop 24).drop 24).drop 24).all (fun c => isCode c || c.before args0 about1) = true := by decide +kernel
theorem w_tables : (allAtoms (Jvm.Cond.code x code maxLocals ret :: tables_1)).before args0 about1 = true := by
  rw [allAtoms_all]
  show words1.all (fun c => c.before args0 about1) = true
  refine all_split ?_ w_codes
  rw [← List.take_append_drop 24 words1, List.all_append, w_t1, ← List.take_append_drop 24 (words1.drop 24), List.all_append, w_t2, ← List.take_append_drop 24 ((words1.drop 24).drop 24), List.all_append, w_t3, ← List.take_append_drop 24 (((words1.drop 24).drop 24).drop 24), List.all_append, w_t4, ← List.take_append_drop 24 ((((words1.drop 24).drop 24).drop 24).drop 24), List.all_append, w_t5, ← List.take_append_drop 24 (((((words1.drop 24).drop 24).drop 24).drop 24).drop 24), List.all_append, w_t6, ← List.take_append_drop 24 ((((((words1.drop 24).drop 24).drop 24).drop 24).drop 24).drop 24), List.all_append, w_t7, w_t8]
  rfl
set_option maxRecDepth 65536 in
theorem w_rest : rest_1_c.before args0 about1 = true := by decide +kernel
set_option maxRecDepth 65536 in
theorem w_case : (Jvm.Cond.and given_1 narrow_1).before args0 about1 = true := by decide +kernel
set_option maxRecDepth 65536 in
theorem w_consts : constsHeld consts_1 about1 := Jvm.Lit.constsHeldB_iff.mp (by decide +kernel)
theorem w_applies : (headSpec (Jvm.Cond.code x code maxLocals ret :: tables_1) room_1).applies x e0.platform about1 = true :=
  (Spec.applies_iff w_frames).mpr ⟨w_running, w_runnable, w_alone, w_named, w_hears, w_ripe, w_room, w_tables⟩
theorem atStart : AtStart classFile x code maxLocals ret World_1 tables_1 room_1 Calls_1 rest_1 Pre_1 launch0 p0 e0 about1 theMethod args0 below0 :=
  ⟨lists_1, trivial, launch0.admits_env _ _ _, launch0.least_env, fairChoices_fair.cas, fairChoices_fair.clock, w_frames, w_args, w_heap, w_applies, ⟨w_consts, trivial⟩, w_rest, w_case⟩
end start1
theorem witness_1 : WitnessClaimed_1 := ⟨start1.p0, start1.e0, start1.about1, start1.theMethod, start1.args0, start1.below0, start1.atStart⟩
end Jvm.Pilot.@@N@@
