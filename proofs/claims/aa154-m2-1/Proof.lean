import JvmDerived
import JvmDerived.Pilot.@@N@@Statement
import JvmDerived.Pilot.@@N@@Code
set_option linter.unusedVariables false
set_option linter.unusedSimpArgs false
namespace Jvm.Pilot.@@N@@
open Jvm Jvm.ClassFile Sem Op Lib Jvm.Free Jvm.Stand Jvm.LawKit Jvm.RoadKit Bundle Jvm.Pilot.@@N@@.Jvm.D
/-- the run from S ends as G says -/
def own_Fin (p : Program) (e : Env) (below : List Frame) (G : Outcome → State → Prop) (S : State) : Prop :=
  ∃ t o, Steps p.tables e below S t ∧ t.status = .running ∧ Ended t below o ∧ G o t
theorem own_go {p : Program} {e : Env} {below : List Frame} {G : Outcome → State → Prop} {S S' : State} (h : Steps p.tables e below S S') (k : own_Fin p e below G S') : own_Fin p e below G S := by
  obtain ⟨t, o, h1, h2, h3, h4⟩ := k
  exact ⟨t, o, h.trans h1, h2, h3, h4⟩
theorem own_by {p : Program} {e : Env} {below : List Frame} {G : Outcome → State → Prop} {S S' : State} (h : ∀ t, Steps p.tables e below S' t → Steps p.tables e below S t) (k : own_Fin p e below G S') : own_Fin p e below G S := by
  obtain ⟨t, o, h1, h2, h3, h4⟩ := k
  exact ⟨t, o, h t h1, h2, h3, h4⟩
theorem own_done {p : Program} {e : Env} {below : List Frame} {G : Outcome → State → Prop} {S t : State} {o : Outcome} (h1 : Steps p.tables e below S t) (h2 : t.status = .running) (h3 : Ended t below o) (h4 : G o t) : own_Fin p e below G S := ⟨t, o, h1, h2, h3, h4⟩
def own_get (rs : List Int32) (j : Int32) : Int32 := rs.getD j.toNatClampNeg 0
theorem own_getD (rs : List Int32) (j : Int32) : (rs.map Value.int).getD j.toNatClampNeg (.int (0 : Int32)) = .int (own_get rs j) := by
  unfold own_get
  rw [List.getD_eq_getElem?_getD, List.getD_eq_getElem?_getD, List.getElem?_map]
  cases rs[j.toNatClampNeg]? <;> rfl
theorem own_retI {p : Program} {l : Launch} {e : Env} {R : Room} {s : State} {m : MethodId} {args : Array Value} {below : List Frame} {meth : Method} {c : Code} {T : State} {locs : List Loc} {cells slots : Nat} (X : Stand p l e R s m args below meth c T locs cells slots) (hx : p.tables.exec = Jvm.exec) {pc : Nat} {Ls : Array Slot} {z : Int32} {rest : List Value} (hret : meth.sig.returnType = some .int) (hd : decode c.code pc = .ok (.ireturn, 1)) {fs : List Frame}
    (hl : ∀ (f : JFrame) (acts : List Action), f.method = m → f.locked = none → f.entered = [] → (doReturn e (T.setTop f) acts (some (.int z))).1 = T.setFrames fs) : Steps p.tables e below (T.setTop (mkF m pc Ls (.int z :: rest))) (T.setFrames fs) :=
  retOut X hx hret rfl (Or.inl ⟨rfl, Or.inl rfl, z, rfl⟩) hd hl
theorem own_k3 (x : Int32) : (x &&& (2147483647 : Int32)) % (3 : Int32) = 0 ∨ (x &&& (2147483647 : Int32)) % (3 : Int32) = 1 ∨ (x &&& (2147483647 : Int32)) % (3 : Int32) = 2 := by
  have h1 : (x &&& (2147483647 : Int32)).toInt = x.toInt % (2 ^ 31 : Nat) := c_mask x 2147483647 31 (by decide) (by decide)
  have h2 := (c_irem (x &&& (2147483647 : Int32)) 3 3 rfl).1 (by omega)
  generalize (x &&& (2147483647 : Int32)) % (3 : Int32) = y at h2 ⊢
  have h3 : y.toInt = (0 : Int32).toInt ∨ y.toInt = (1 : Int32).toInt ∨ y.toInt = (2 : Int32).toInt := by
    simp only [Int32.reduceToInt]; omega
  simpa only [Int32.toInt_inj] using h3
theorem own_eqI {args : Array Value} {s : State} {a : Term} {k : Int32} (h : (Jvm.Cond.eq a (.int k)).value args s none s [] = some true) : a.eval args s none [] s = some (.int k) := by
  simp only [Cond.value, Term.eval] at h
  cases ha : a.eval args s none [] s with
  | none => simp [ha] at h
  | some x => cases x <;> simp [ha] at h ⊢ <;> exact h
theorem own_el {args : Array Value} {s : State} {t : Term} {j k : Int32} {b : Addr} {cl : Cell} (h : (Jvm.Cond.eq (.elem t (.int j)) (.int k)).value args s none s [] = some true) (ht : t.eval args s none [] s = some (.ref b)) (hc : s.heap[b]? = some cl) : cl.slots[j.toNatClampNeg]? = some (.int k) :=
  (elem_in (own_eqI h) ht rfl hc).2
theorem own_len {args : Array Value} {s : State} {t : Term} {z : Int32} {b : Addr} {cl : Cell} (h : (Jvm.Cond.eq (.length t) (.int z)).value args s none s [] = some true) (ht : t.eval args s none [] s = some (.ref b)) (ha : s.arrayAt? b = some cl) : cl.slots.size < 2 ^ 31 ∧ cl.slots.size.toInt32 = z := by
  have q := own_eqI h
  by_cases hl : cl.slots.size < 2 ^ 31
  · rw [len_f ht ha hl] at q
    exact ⟨hl, by cases q; rfl⟩
  · simp [Term.eval, ht, ha, hl] at q
theorem own_lab {args : Array Value} {s : State} (hf : Fit s) {t : Term} {a : Addr} {C : String} {z : Int32} {vs : List Value} (ev : t.eval args s none [] s = some (.ref a))
    (h2 : (Jvm.Cond.exactly (.field t C "label" "Ljava/lang/String;") "java/lang/String").value args s none s [] = some true) (h3 : (Jvm.Cond.eq (.field (.field t C "label" "Ljava/lang/String;") "java/lang/String" "coder" "B") (.int 0)).value args s none s [] = some true)
    (h4 : (Jvm.Cond.arrayOf (.field (.field t C "label" "Ljava/lang/String;") "java/lang/String" "value" "[B") .byte).value args s none s [] = some true) (h5 : (Jvm.Cond.eq (.length (.field (.field t C "label" "Ljava/lang/String;") "java/lang/String" "value" "[B")) (.int z)).value args s none s [] = some true)
    (hz : ¬ z < 0) (hl : z.toNatClampNeg = vs.length) (H : ∀ (b : Addr) (cl : Cell), (Term.field (.field t C "label" "Ljava/lang/String;") "java/lang/String" "value" "[B").eval args s none [] s = some (.ref b) → s.heap[b]? = some cl → HasL cl 0 vs) :
    ∃ (la b : Addr) (k : ClassId), Fld s s.heap a C "label" "Ljava/lang/String;" (.ref la) ∧ Exa s s.heap la "java/lang/String" ∧ Fld s s.heap la "java/lang/String" "coder" "B" (.int 0) ∧ Fld s s.heap la "java/lang/String" "value" "[B" (.ref b) ∧ Arv s s.heap b k .byte z vs (.int 0) := by
  obtain ⟨la, e2⟩ := exa_v h2
  obtain ⟨b, e4⟩ := arr_v h4
  obtain ⟨cl, A⟩ := Arr.start e4 h4
  obtain ⟨q1, q2⟩ := own_len h5 e4 (A.fin (Vm.Alike.refl _))
  have e3 := own_eqI h3
  have e4' := e4
  have e2' := e2
  rw [fld_at ev] at e2'
  rw [fld_at e2] at e3 e4'
  exact ⟨la, b, _, Fld.start e2', Exa.start e2 h2, Fld.start e3, Fld.start e4', Arv.start hf A q1 q2 hz hl (H b cl e4 A.1)⟩
theorem d1_0 : decode prog_12_method_4_code 0 = .ok (.aload_n 0, 1) := by decide +kernel
theorem d1_1 : decode prog_12_method_4_code 1 = .ok (.getfield 32, 3) := by decide +kernel
theorem d1_4 : decode prog_12_method_4_code 4 = .ok (.areturn, 1) := by decide +kernel
theorem pn_com_example_pryority_pryority_Strategy : plainName "com/example/pryority/pryority/Strategy" = true := by first | (simp [plainName, overriddenIn]; done) | decide +kernel
theorem ef_1 (m : MethodId) (x0 : Addr) : entryFrame m #[(.ref x0)] 1 = mkF m 0 #[.val (.ref x0)] [] := by first | (simp [entryFrame, mkF, argsToLocals, Value.category]; done) | rfl
def Q1 (Z : State) (a1 : Addr) (lb : Addr) (h0 : Heap) (n0 : Nat) (v : Option Value) (h : Heap) (L : List Loc) : Prop := v = some (.ref lb) ∧ Fr n0 L ∧ h = h0
abbrev G1 (Z : State) (a1 : Addr) (lb : Addr) (h0 : Heap) (n0 : Nat) (s : State) : Outcome → State → Prop := fun o U' => ∃ v L, o = .returned v ∧ Q1 Z a1 lb h0 n0 v U'.heap L ∧ FrameEnd s o U' L ({ frames := 0, cells := 0, slots := 0, locals := 0 } : Room).cells ({ frames := 0, cells := 0, slots := 0, locals := 0 } : Room).slots
set_option maxRecDepth 65536 in
set_option maxHeartbeats 40000000 in
theorem rm1 (l : Launch) (Z : State) (a0 : Array Value) (hw : ∀ d ∈ tables_1, d.before a0 Z = true) (ws : List Jvm.Cond) (a1 : Addr) (lb : Addr) (h0 : Heap) (n0 : Nat) (Z0 : n0 ≤ h0.size) (F_label_a1 : Fld Z h0 a1 "com/example/pryority/pryority/Strategy" "label" "Ljava/lang/String;" (.ref lb)) :
    MetFree l (⟨"com/example/pryority/pryority/Strategy", "label", "()Ljava/lang/String;"⟩ : MethodName) (head1 (Jvm.Cond.code (⟨"com/example/pryority/pryority/Strategy", "label", "()Ljava/lang/String;"⟩ : MethodName) prog_12_method_4_code 1 (some (.object "java/lang/String")) :: ws) ({ frames := 0, cells := 0, slots := 0, locals := 0 } : Room)) (fun a U => a = #[(.ref a1)] ∧ Z.Warmed39 U.vm ∧ U.heap = h0) (fun _ _ _ _ _ => True) (fun _ U o U' => ∃ v L, o = .returned v ∧ Q1 Z a1 lb h0 n0 v U'.heap L ∧ FrameEnd U o U' L ({ frames := 0, cells := 0, slots := 0, locals := 0 } : Room).cells ({ frames := 0, cells := 0, slots := 0, locals := 0 } : Room).slots) := by
  refine MetFree.of_bodySF (plainFor_of_name pn_com_example_pryority_pryority_Strategy) hisR ?_
  intro p e s m args below meth c s₁ Bd hml0 hP hK
  obtain ⟨rfl, hZ, hh⟩ := hP
  have hx := Bd.exec
  have hby := Bd.bytes
  have hml : c.maxLocals = 1 := hml0
  have hown : s.vm.findClass "com/example/pryority/pryority/Strategy" = some m.cls := findClass_of_methodNamed Bd.named
  have hnm := (name_of_methodNamed Bd.named Bd.method).1
  have X0 : Stand p l e ({ frames := 0, cells := 0, slots := 0, locals := 0 } : Room) s m #[(.ref a1)] below meth c s₁ [] 0 0 := Stand.of_body Bd
  have e0 : s₁.heap = h0 := by rw [← hh, Bd.state]; rfl
  have es0 : s.heap = h0 := hh
  have N0 := Fr.nil n0
  show own_Fin p e below (G1 Z a1 lb h0 n0 s) (s₁.setTop (entryFrame m #[(.ref a1)] 1))
  rw [ef_1 m a1]
  refine own_go (XS.aloadN X0.here hx rfl (hb hby d1_0) rfl rfl (Steps.refl _)) ?_
  show own_Fin _ _ _ _ (s₁.setTop (mkF m 1 #[.val (.ref a1)] [(.ref a1)]))
  obtain ⟨T1, X1, e1, st1⟩ := getF X0 hx hZ hown (host := "") (Or.inl (hw _ (List.mem_of_getElem? (i := 9) rfl))) Via.refl e0 F_label_a1 (g := (mkF m 1 #[.val (.ref a1)] [(.ref a1)])) rfl rfl (hb hby d1_1)
  refine own_by st1 ?_
  show own_Fin _ _ _ _ (T1.setTop (mkF m 4 #[.val (.ref a1)] [(.ref lb)]))
  obtain ⟨fs2, hr2, hrun2, hended2, hW2, hsame2⟩ := X1.leave (v := some (.ref lb)) (fun h => by rw [Bd.returns] at h; cases h)
  refine own_done (retOut X1 hx Bd.returns rfl (Or.inr (Or.inr (Or.inr (Or.inr ⟨rfl, rfl, rfl⟩)))) (hb hby d1_4) hr2) hrun2 hended2 ⟨_, _, rfl, ?_, ⟨_, rfl⟩, hW2, hsame2.mono (by decide) (by decide)⟩
  show Q1 Z a1 lb h0 n0 _ T1.heap _
  rw [e1]
  exact ⟨rfl, N0, rfl⟩
theorem d3_0 : decode jdk_43_method_13_code 0 = .ok (.aload_n 0, 1) := by decide +kernel
theorem d3_1 : decode jdk_43_method_13_code 1 = .ok (.arraylength, 1) := by decide +kernel
theorem d3_2 : decode jdk_43_method_13_code 2 = .ok (.aload_n 1, 1) := by decide +kernel
theorem d3_3 : decode jdk_43_method_13_code 3 = .ok (.arraylength, 1) := by decide +kernel
theorem d3_4 : decode jdk_43_method_13_code 4 = .ok (.if_icmp .ne 30, 3) := by decide +kernel
theorem d3_7 : decode jdk_43_method_13_code 7 = .ok (.iconst 0, 1) := by decide +kernel
theorem d3_8 : decode jdk_43_method_13_code 8 = .ok (.istore_n 2, 1) := by decide +kernel
theorem d3_9 : decode jdk_43_method_13_code 9 = .ok (.iload_n 2, 1) := by decide +kernel
theorem d3_10 : decode jdk_43_method_13_code 10 = .ok (.aload_n 0, 1) := by decide +kernel
theorem d3_11 : decode jdk_43_method_13_code 11 = .ok (.arraylength, 1) := by decide +kernel
theorem d3_12 : decode jdk_43_method_13_code 12 = .ok (.if_icmp .ge 20, 3) := by decide +kernel
theorem d3_15 : decode jdk_43_method_13_code 15 = .ok (.aload_n 0, 1) := by decide +kernel
theorem d3_16 : decode jdk_43_method_13_code 16 = .ok (.iload_n 2, 1) := by decide +kernel
theorem d3_17 : decode jdk_43_method_13_code 17 = .ok (.baload, 1) := by decide +kernel
theorem d3_18 : decode jdk_43_method_13_code 18 = .ok (.aload_n 1, 1) := by decide +kernel
theorem d3_19 : decode jdk_43_method_13_code 19 = .ok (.iload_n 2, 1) := by decide +kernel
theorem d3_20 : decode jdk_43_method_13_code 20 = .ok (.baload, 1) := by decide +kernel
theorem d3_21 : decode jdk_43_method_13_code 21 = .ok (.if_icmp .eq 5, 3) := by decide +kernel
theorem d3_24 : decode jdk_43_method_13_code 24 = .ok (.iconst 0, 1) := by decide +kernel
theorem d3_25 : decode jdk_43_method_13_code 25 = .ok (.ireturn, 1) := by decide +kernel
theorem d3_26 : decode jdk_43_method_13_code 26 = .ok (.iinc 2 1, 3) := by decide +kernel
theorem d3_29 : decode jdk_43_method_13_code 29 = .ok (.goto (-20), 3) := by decide +kernel
theorem d3_32 : decode jdk_43_method_13_code 32 = .ok (.iconst 1, 1) := by decide +kernel
theorem d3_33 : decode jdk_43_method_13_code 33 = .ok (.ireturn, 1) := by decide +kernel
theorem d3_34 : decode jdk_43_method_13_code 34 = .ok (.iconst 0, 1) := by decide +kernel
theorem d3_35 : decode jdk_43_method_13_code 35 = .ok (.ireturn, 1) := by decide +kernel
theorem pn_java_lang_StringLatin1 : plainName "java/lang/StringLatin1" = true := by first | (simp [plainName, overriddenIn]; done) | decide +kernel
theorem ef_3_B (m : MethodId) (x0 : Addr) (x1 : Addr) : entryFrame m #[(.ref x0), (.ref x1)] 3 = mkF m 0 #[.val (.ref x0), .val (.ref x1), .unset] [] := by first | (simp [entryFrame, mkF, argsToLocals, Value.category]; done) | rfl
def Q3_B (Z : State) (a1 : Addr) (a2 : Addr) (k1 : ClassId) (k2 : ClassId) (h0 : Heap) (n0 : Nat) (v : Option Value) (h : Heap) (L : List Loc) : Prop := v = some (.int (1 : Int32)) ∧ Fr n0 L ∧ h = h0
abbrev G3_B (Z : State) (a1 : Addr) (a2 : Addr) (k1 : ClassId) (k2 : ClassId) (h0 : Heap) (n0 : Nat) (s : State) : Outcome → State → Prop := fun o U' => ∃ v L, o = .returned v ∧ Q3_B Z a1 a2 k1 k2 h0 n0 v U'.heap L ∧ FrameEnd s o U' L ({ frames := 0, cells := 0, slots := 0, locals := 0 } : Room).cells ({ frames := 0, cells := 0, slots := 0, locals := 0 } : Room).slots
set_option maxRecDepth 65536 in
set_option maxHeartbeats 40000000 in
theorem rm3_B (l : Launch) (Z : State) (a0 : Array Value) (hw : ∀ d ∈ tables_1, d.before a0 Z = true) (ws : List Jvm.Cond) (a1 : Addr) (a2 : Addr) (k1 : ClassId) (k2 : ClassId) (h0 : Heap) (n0 : Nat) (Z0 : n0 ≤ h0.size) (V_a1 : Arv Z h0 a1 k1 .byte (3 : Int32) [.int (98 : Int32), .int (102 : Int32), .int (115 : Int32)] (.int (0 : Int32))) (V_a2 : Arv Z h0 a2 k2 .byte (3 : Int32) [.int (98 : Int32), .int (102 : Int32), .int (115 : Int32)] (.int (0 : Int32))) :
    MetFree l (⟨"java/lang/StringLatin1", "equals", "([B[B)Z"⟩ : MethodName) (head1 (Jvm.Cond.code (⟨"java/lang/StringLatin1", "equals", "([B[B)Z"⟩ : MethodName) jdk_43_method_13_code 3 (some .boolean) :: ws) ({ frames := 0, cells := 0, slots := 0, locals := 0 } : Room)) (fun a U => a = #[(.ref a1), (.ref a2)] ∧ Z.Warmed39 U.vm ∧ U.heap = h0) (fun _ _ _ _ _ => True) (fun _ U o U' => ∃ v L, o = .returned v ∧ Q3_B Z a1 a2 k1 k2 h0 n0 v U'.heap L ∧ FrameEnd U o U' L ({ frames := 0, cells := 0, slots := 0, locals := 0 } : Room).cells ({ frames := 0, cells := 0, slots := 0, locals := 0 } : Room).slots) := by
  refine MetFree.of_bodySF (plainFor_of_name pn_java_lang_StringLatin1) hisR ?_
  intro p e s m args below meth c s₁ Bd hml0 hP hK
  obtain ⟨rfl, hZ, hh⟩ := hP
  have hx := Bd.exec
  have hby := Bd.bytes
  have hml : c.maxLocals = 3 := hml0
  have hown : s.vm.findClass "java/lang/StringLatin1" = some m.cls := findClass_of_methodNamed Bd.named
  have hnm := (name_of_methodNamed Bd.named Bd.method).1
  have X0 : Stand p l e ({ frames := 0, cells := 0, slots := 0, locals := 0 } : Room) s m #[(.ref a1), (.ref a2)] below meth c s₁ [] 0 0 := Stand.of_body Bd
  have e0 : s₁.heap = h0 := by rw [← hh, Bd.state]; rfl
  have es0 : s.heap = h0 := hh
  have N0 := Fr.nil n0
  show own_Fin p e below (G3_B Z a1 a2 k1 k2 h0 n0 s) (s₁.setTop (entryFrame m #[(.ref a1), (.ref a2)] 3))
  rw [ef_3_B m a1 a2]
  refine own_go (XS.aloadN X0.here hx rfl (hb hby d3_0) rfl rfl (Steps.refl _)) ?_
  show own_Fin _ _ _ _ (s₁.setTop (mkF m 1 #[.val (.ref a1), .val (.ref a2), .unset] [(.ref a1)]))
  obtain ⟨cl3, Ar3, qa3, Sa3, Na3, Ha3, Ga3⟩ := id V_a1
  refine own_by (X0.arraylength hx (by rw [e0]; exact Ar3.1) (State.isArrayOf_alike hZ.alike Ar3.2.1) (g := (mkF m 1 #[.val (.ref a1), .val (.ref a2), .unset] [(.ref a1)])) rfl rfl (hb hby d3_1)) ?_
  rw [len_of Sa3 Na3]
  show own_Fin _ _ _ _ (s₁.setTop (mkF m 2 #[.val (.ref a1), .val (.ref a2), .unset] [(.int (3 : Int32))]))
  refine own_go (XS.aloadN X0.here hx rfl (hb hby d3_2) rfl rfl (Steps.refl _)) ?_
  show own_Fin _ _ _ _ (s₁.setTop (mkF m 3 #[.val (.ref a1), .val (.ref a2), .unset] [(.ref a2), (.int (3 : Int32))]))
  obtain ⟨cl4, Ar4, qa4, Sa4, Na4, Ha4, Ga4⟩ := id V_a2
  refine own_by (X0.arraylength hx (by rw [e0]; exact Ar4.1) (State.isArrayOf_alike hZ.alike Ar4.2.1) (g := (mkF m 3 #[.val (.ref a1), .val (.ref a2), .unset] [(.ref a2), (.int (3 : Int32))])) rfl rfl (hb hby d3_3)) ?_
  rw [len_of Sa4 Na4]
  show own_Fin _ _ _ _ (s₁.setTop (mkF m 4 #[.val (.ref a1), .val (.ref a2), .unset] [(.int (3 : Int32)), (.int (3 : Int32))]))
  refine own_go (XS.icmpNo X0.here hx rfl (hb hby d3_4) rfl (teq (by decide : (3 : Int32) = (3 : Int32))).2 (Steps.refl _)) ?_
  show own_Fin _ _ _ _ (s₁.setTop (mkF m 7 #[.val (.ref a1), .val (.ref a2), .unset] []))
  refine own_go (XS.iconst X0.here hx rfl (hb hby d3_7) (Steps.refl _)) ?_
  show own_Fin _ _ _ _ (s₁.setTop (mkF m 8 #[.val (.ref a1), .val (.ref a2), .unset] [(.int (0 : Int32))]))
  refine own_go (XS.istoreN X0.here hx rfl (hb hby d3_8) rfl (l' := #[.val (.ref a1), .val (.ref a2), .val (.int (0 : Int32))]) rfl (Steps.refl _)) ?_
  show own_Fin _ _ _ _ (s₁.setTop (mkF m 9 #[.val (.ref a1), .val (.ref a2), .val (.int (0 : Int32))] []))
  refine own_go (XS.iloadN X0.here hx rfl (hb hby d3_9) rfl (Steps.refl _)) ?_
  show own_Fin _ _ _ _ (s₁.setTop (mkF m 10 #[.val (.ref a1), .val (.ref a2), .val (.int (0 : Int32))] [(.int (0 : Int32))]))
  refine own_go (XS.aloadN X0.here hx rfl (hb hby d3_10) rfl rfl (Steps.refl _)) ?_
  show own_Fin _ _ _ _ (s₁.setTop (mkF m 11 #[.val (.ref a1), .val (.ref a2), .val (.int (0 : Int32))] [(.ref a1), (.int (0 : Int32))]))
  obtain ⟨cl5, Ar5, qa5, Sa5, Na5, Ha5, Ga5⟩ := id V_a1
  refine own_by (X0.arraylength hx (by rw [e0]; exact Ar5.1) (State.isArrayOf_alike hZ.alike Ar5.2.1) (g := (mkF m 11 #[.val (.ref a1), .val (.ref a2), .val (.int (0 : Int32))] [(.ref a1), (.int (0 : Int32))])) rfl rfl (hb hby d3_11)) ?_
  rw [len_of Sa5 Na5]
  show own_Fin _ _ _ _ (s₁.setTop (mkF m 12 #[.val (.ref a1), .val (.ref a2), .val (.int (0 : Int32))] [(.int (3 : Int32)), (.int (0 : Int32))]))
  refine own_go (XS.icmpNo X0.here hx rfl (hb hby d3_12) rfl (tlt (by decide : (0 : Int32) < (3 : Int32))).2.1 (Steps.refl _)) ?_
  show own_Fin _ _ _ _ (s₁.setTop (mkF m 15 #[.val (.ref a1), .val (.ref a2), .val (.int (0 : Int32))] []))
  refine own_go (XS.aloadN X0.here hx rfl (hb hby d3_15) rfl rfl (Steps.refl _)) ?_
  show own_Fin _ _ _ _ (s₁.setTop (mkF m 16 #[.val (.ref a1), .val (.ref a2), .val (.int (0 : Int32))] [(.ref a1)]))
  refine own_go (XS.iloadN X0.here hx rfl (hb hby d3_16) rfl (Steps.refl _)) ?_
  show own_Fin _ _ _ _ (s₁.setTop (mkF m 17 #[.val (.ref a1), .val (.ref a2), .val (.int (0 : Int32))] [(.int (0 : Int32)), (.ref a1)]))
  obtain ⟨cl6, Ar6, qa6, Sa6, Na6, Ha6, Ga6⟩ := id V_a1
  have hin6 : ¬ ((0 : Int32) < 0 ∨ cl6.slots.size ≤ ((0 : Int32)).toNatClampNeg) := inb_of Sa6 ⟨by decide, by decide⟩
  have hat6 : cl6.slots[((0 : Int32)).toNatClampNeg]? = some (.int (98 : Int32)) := Has.at Ha6 hin6 rfl
  refine own_by (X0.baloadBytes hx (j := (0 : Int32)) (v := (.int (98 : Int32))) (by rw [e0]; exact Ar6.1) (State.isArrayOf_alike hZ.alike Ar6.2.1) Ar6.2.2 hin6 hat6 (g := (mkF m 17 #[.val (.ref a1), .val (.ref a2), .val (.int (0 : Int32))] [(.int (0 : Int32)), (.ref a1)])) rfl rfl (hb hby d3_17)) ?_
  show own_Fin _ _ _ _ (s₁.setTop (mkF m 18 #[.val (.ref a1), .val (.ref a2), .val (.int (0 : Int32))] [(.int (98 : Int32))]))
  refine own_go (XS.aloadN X0.here hx rfl (hb hby d3_18) rfl rfl (Steps.refl _)) ?_
  show own_Fin _ _ _ _ (s₁.setTop (mkF m 19 #[.val (.ref a1), .val (.ref a2), .val (.int (0 : Int32))] [(.ref a2), (.int (98 : Int32))]))
  refine own_go (XS.iloadN X0.here hx rfl (hb hby d3_19) rfl (Steps.refl _)) ?_
  show own_Fin _ _ _ _ (s₁.setTop (mkF m 20 #[.val (.ref a1), .val (.ref a2), .val (.int (0 : Int32))] [(.int (0 : Int32)), (.ref a2), (.int (98 : Int32))]))
  obtain ⟨cl7, Ar7, qa7, Sa7, Na7, Ha7, Ga7⟩ := id V_a2
  have hin7 : ¬ ((0 : Int32) < 0 ∨ cl7.slots.size ≤ ((0 : Int32)).toNatClampNeg) := inb_of Sa7 ⟨by decide, by decide⟩
  have hat7 : cl7.slots[((0 : Int32)).toNatClampNeg]? = some (.int (98 : Int32)) := Has.at Ha7 hin7 rfl
  refine own_by (X0.baloadBytes hx (j := (0 : Int32)) (v := (.int (98 : Int32))) (by rw [e0]; exact Ar7.1) (State.isArrayOf_alike hZ.alike Ar7.2.1) Ar7.2.2 hin7 hat7 (g := (mkF m 20 #[.val (.ref a1), .val (.ref a2), .val (.int (0 : Int32))] [(.int (0 : Int32)), (.ref a2), (.int (98 : Int32))])) rfl rfl (hb hby d3_20)) ?_
  show own_Fin _ _ _ _ (s₁.setTop (mkF m 21 #[.val (.ref a1), .val (.ref a2), .val (.int (0 : Int32))] [(.int (98 : Int32)), (.int (98 : Int32))]))
  refine own_go (XS.icmpYes X0.here hx rfl (pc0 := 21) (pc' := 26) rfl (hb hby d3_21) rfl (teq (by decide : (98 : Int32) = (98 : Int32))).1 (by decide) (by decide) (Steps.refl _)) ?_
  show own_Fin _ _ _ _ (s₁.setTop (mkF m 26 #[.val (.ref a1), .val (.ref a2), .val (.int (0 : Int32))] []))
  refine own_go (XS.iinc X0.here hx rfl (hb hby d3_26) rfl (l' := #[.val (.ref a1), .val (.ref a2), .val (.int (1 : Int32))]) rfl (Steps.refl _)) ?_
  show own_Fin _ _ _ _ (s₁.setTop (mkF m 29 #[.val (.ref a1), .val (.ref a2), .val (.int (1 : Int32))] []))
  refine own_go (XS.goto X0.here hx rfl (pc0 := 29) (pc' := 9) rfl (hb hby d3_29) (by decide) (by decide) (Steps.refl _)) ?_
  show own_Fin _ _ _ _ (s₁.setTop (mkF m 9 #[.val (.ref a1), .val (.ref a2), .val (.int (1 : Int32))] []))
  refine own_go (XS.iloadN X0.here hx rfl (hb hby d3_9) rfl (Steps.refl _)) ?_
  show own_Fin _ _ _ _ (s₁.setTop (mkF m 10 #[.val (.ref a1), .val (.ref a2), .val (.int (1 : Int32))] [(.int (1 : Int32))]))
  refine own_go (XS.aloadN X0.here hx rfl (hb hby d3_10) rfl rfl (Steps.refl _)) ?_
  show own_Fin _ _ _ _ (s₁.setTop (mkF m 11 #[.val (.ref a1), .val (.ref a2), .val (.int (1 : Int32))] [(.ref a1), (.int (1 : Int32))]))
  obtain ⟨cl8, Ar8, qa8, Sa8, Na8, Ha8, Ga8⟩ := id V_a1
  refine own_by (X0.arraylength hx (by rw [e0]; exact Ar8.1) (State.isArrayOf_alike hZ.alike Ar8.2.1) (g := (mkF m 11 #[.val (.ref a1), .val (.ref a2), .val (.int (1 : Int32))] [(.ref a1), (.int (1 : Int32))])) rfl rfl (hb hby d3_11)) ?_
  rw [len_of Sa8 Na8]
  show own_Fin _ _ _ _ (s₁.setTop (mkF m 12 #[.val (.ref a1), .val (.ref a2), .val (.int (1 : Int32))] [(.int (3 : Int32)), (.int (1 : Int32))]))
  refine own_go (XS.icmpNo X0.here hx rfl (hb hby d3_12) rfl (tlt (by decide : (1 : Int32) < (3 : Int32))).2.1 (Steps.refl _)) ?_
  show own_Fin _ _ _ _ (s₁.setTop (mkF m 15 #[.val (.ref a1), .val (.ref a2), .val (.int (1 : Int32))] []))
  refine own_go (XS.aloadN X0.here hx rfl (hb hby d3_15) rfl rfl (Steps.refl _)) ?_
  show own_Fin _ _ _ _ (s₁.setTop (mkF m 16 #[.val (.ref a1), .val (.ref a2), .val (.int (1 : Int32))] [(.ref a1)]))
  refine own_go (XS.iloadN X0.here hx rfl (hb hby d3_16) rfl (Steps.refl _)) ?_
  show own_Fin _ _ _ _ (s₁.setTop (mkF m 17 #[.val (.ref a1), .val (.ref a2), .val (.int (1 : Int32))] [(.int (1 : Int32)), (.ref a1)]))
  obtain ⟨cl9, Ar9, qa9, Sa9, Na9, Ha9, Ga9⟩ := id V_a1
  have hin9 : ¬ ((1 : Int32) < 0 ∨ cl9.slots.size ≤ ((1 : Int32)).toNatClampNeg) := inb_of Sa9 ⟨by decide, by decide⟩
  have hat9 : cl9.slots[((1 : Int32)).toNatClampNeg]? = some (.int (102 : Int32)) := Has.at Ha9 hin9 rfl
  refine own_by (X0.baloadBytes hx (j := (1 : Int32)) (v := (.int (102 : Int32))) (by rw [e0]; exact Ar9.1) (State.isArrayOf_alike hZ.alike Ar9.2.1) Ar9.2.2 hin9 hat9 (g := (mkF m 17 #[.val (.ref a1), .val (.ref a2), .val (.int (1 : Int32))] [(.int (1 : Int32)), (.ref a1)])) rfl rfl (hb hby d3_17)) ?_
  show own_Fin _ _ _ _ (s₁.setTop (mkF m 18 #[.val (.ref a1), .val (.ref a2), .val (.int (1 : Int32))] [(.int (102 : Int32))]))
  refine own_go (XS.aloadN X0.here hx rfl (hb hby d3_18) rfl rfl (Steps.refl _)) ?_
  show own_Fin _ _ _ _ (s₁.setTop (mkF m 19 #[.val (.ref a1), .val (.ref a2), .val (.int (1 : Int32))] [(.ref a2), (.int (102 : Int32))]))
  refine own_go (XS.iloadN X0.here hx rfl (hb hby d3_19) rfl (Steps.refl _)) ?_
  show own_Fin _ _ _ _ (s₁.setTop (mkF m 20 #[.val (.ref a1), .val (.ref a2), .val (.int (1 : Int32))] [(.int (1 : Int32)), (.ref a2), (.int (102 : Int32))]))
  obtain ⟨cl10, Ar10, qa10, Sa10, Na10, Ha10, Ga10⟩ := id V_a2
  have hin10 : ¬ ((1 : Int32) < 0 ∨ cl10.slots.size ≤ ((1 : Int32)).toNatClampNeg) := inb_of Sa10 ⟨by decide, by decide⟩
  have hat10 : cl10.slots[((1 : Int32)).toNatClampNeg]? = some (.int (102 : Int32)) := Has.at Ha10 hin10 rfl
  refine own_by (X0.baloadBytes hx (j := (1 : Int32)) (v := (.int (102 : Int32))) (by rw [e0]; exact Ar10.1) (State.isArrayOf_alike hZ.alike Ar10.2.1) Ar10.2.2 hin10 hat10 (g := (mkF m 20 #[.val (.ref a1), .val (.ref a2), .val (.int (1 : Int32))] [(.int (1 : Int32)), (.ref a2), (.int (102 : Int32))])) rfl rfl (hb hby d3_20)) ?_
  show own_Fin _ _ _ _ (s₁.setTop (mkF m 21 #[.val (.ref a1), .val (.ref a2), .val (.int (1 : Int32))] [(.int (102 : Int32)), (.int (102 : Int32))]))
  refine own_go (XS.icmpYes X0.here hx rfl (pc0 := 21) (pc' := 26) rfl (hb hby d3_21) rfl (teq (by decide : (102 : Int32) = (102 : Int32))).1 (by decide) (by decide) (Steps.refl _)) ?_
  show own_Fin _ _ _ _ (s₁.setTop (mkF m 26 #[.val (.ref a1), .val (.ref a2), .val (.int (1 : Int32))] []))
  refine own_go (XS.iinc X0.here hx rfl (hb hby d3_26) rfl (l' := #[.val (.ref a1), .val (.ref a2), .val (.int (2 : Int32))]) rfl (Steps.refl _)) ?_
  show own_Fin _ _ _ _ (s₁.setTop (mkF m 29 #[.val (.ref a1), .val (.ref a2), .val (.int (2 : Int32))] []))
  refine own_go (XS.goto X0.here hx rfl (pc0 := 29) (pc' := 9) rfl (hb hby d3_29) (by decide) (by decide) (Steps.refl _)) ?_
  show own_Fin _ _ _ _ (s₁.setTop (mkF m 9 #[.val (.ref a1), .val (.ref a2), .val (.int (2 : Int32))] []))
  refine own_go (XS.iloadN X0.here hx rfl (hb hby d3_9) rfl (Steps.refl _)) ?_
  show own_Fin _ _ _ _ (s₁.setTop (mkF m 10 #[.val (.ref a1), .val (.ref a2), .val (.int (2 : Int32))] [(.int (2 : Int32))]))
  refine own_go (XS.aloadN X0.here hx rfl (hb hby d3_10) rfl rfl (Steps.refl _)) ?_
  show own_Fin _ _ _ _ (s₁.setTop (mkF m 11 #[.val (.ref a1), .val (.ref a2), .val (.int (2 : Int32))] [(.ref a1), (.int (2 : Int32))]))
  obtain ⟨cl11, Ar11, qa11, Sa11, Na11, Ha11, Ga11⟩ := id V_a1
  refine own_by (X0.arraylength hx (by rw [e0]; exact Ar11.1) (State.isArrayOf_alike hZ.alike Ar11.2.1) (g := (mkF m 11 #[.val (.ref a1), .val (.ref a2), .val (.int (2 : Int32))] [(.ref a1), (.int (2 : Int32))])) rfl rfl (hb hby d3_11)) ?_
  rw [len_of Sa11 Na11]
  show own_Fin _ _ _ _ (s₁.setTop (mkF m 12 #[.val (.ref a1), .val (.ref a2), .val (.int (2 : Int32))] [(.int (3 : Int32)), (.int (2 : Int32))]))
  refine own_go (XS.icmpNo X0.here hx rfl (hb hby d3_12) rfl (tlt (by decide : (2 : Int32) < (3 : Int32))).2.1 (Steps.refl _)) ?_
  show own_Fin _ _ _ _ (s₁.setTop (mkF m 15 #[.val (.ref a1), .val (.ref a2), .val (.int (2 : Int32))] []))
  refine own_go (XS.aloadN X0.here hx rfl (hb hby d3_15) rfl rfl (Steps.refl _)) ?_
  show own_Fin _ _ _ _ (s₁.setTop (mkF m 16 #[.val (.ref a1), .val (.ref a2), .val (.int (2 : Int32))] [(.ref a1)]))
  refine own_go (XS.iloadN X0.here hx rfl (hb hby d3_16) rfl (Steps.refl _)) ?_
  show own_Fin _ _ _ _ (s₁.setTop (mkF m 17 #[.val (.ref a1), .val (.ref a2), .val (.int (2 : Int32))] [(.int (2 : Int32)), (.ref a1)]))
  obtain ⟨cl12, Ar12, qa12, Sa12, Na12, Ha12, Ga12⟩ := id V_a1
  have hin12 : ¬ ((2 : Int32) < 0 ∨ cl12.slots.size ≤ ((2 : Int32)).toNatClampNeg) := inb_of Sa12 ⟨by decide, by decide⟩
  have hat12 : cl12.slots[((2 : Int32)).toNatClampNeg]? = some (.int (115 : Int32)) := Has.at Ha12 hin12 rfl
  refine own_by (X0.baloadBytes hx (j := (2 : Int32)) (v := (.int (115 : Int32))) (by rw [e0]; exact Ar12.1) (State.isArrayOf_alike hZ.alike Ar12.2.1) Ar12.2.2 hin12 hat12 (g := (mkF m 17 #[.val (.ref a1), .val (.ref a2), .val (.int (2 : Int32))] [(.int (2 : Int32)), (.ref a1)])) rfl rfl (hb hby d3_17)) ?_
  show own_Fin _ _ _ _ (s₁.setTop (mkF m 18 #[.val (.ref a1), .val (.ref a2), .val (.int (2 : Int32))] [(.int (115 : Int32))]))
  refine own_go (XS.aloadN X0.here hx rfl (hb hby d3_18) rfl rfl (Steps.refl _)) ?_
  show own_Fin _ _ _ _ (s₁.setTop (mkF m 19 #[.val (.ref a1), .val (.ref a2), .val (.int (2 : Int32))] [(.ref a2), (.int (115 : Int32))]))
  refine own_go (XS.iloadN X0.here hx rfl (hb hby d3_19) rfl (Steps.refl _)) ?_
  show own_Fin _ _ _ _ (s₁.setTop (mkF m 20 #[.val (.ref a1), .val (.ref a2), .val (.int (2 : Int32))] [(.int (2 : Int32)), (.ref a2), (.int (115 : Int32))]))
  obtain ⟨cl13, Ar13, qa13, Sa13, Na13, Ha13, Ga13⟩ := id V_a2
  have hin13 : ¬ ((2 : Int32) < 0 ∨ cl13.slots.size ≤ ((2 : Int32)).toNatClampNeg) := inb_of Sa13 ⟨by decide, by decide⟩
  have hat13 : cl13.slots[((2 : Int32)).toNatClampNeg]? = some (.int (115 : Int32)) := Has.at Ha13 hin13 rfl
  refine own_by (X0.baloadBytes hx (j := (2 : Int32)) (v := (.int (115 : Int32))) (by rw [e0]; exact Ar13.1) (State.isArrayOf_alike hZ.alike Ar13.2.1) Ar13.2.2 hin13 hat13 (g := (mkF m 20 #[.val (.ref a1), .val (.ref a2), .val (.int (2 : Int32))] [(.int (2 : Int32)), (.ref a2), (.int (115 : Int32))])) rfl rfl (hb hby d3_20)) ?_
  show own_Fin _ _ _ _ (s₁.setTop (mkF m 21 #[.val (.ref a1), .val (.ref a2), .val (.int (2 : Int32))] [(.int (115 : Int32)), (.int (115 : Int32))]))
  refine own_go (XS.icmpYes X0.here hx rfl (pc0 := 21) (pc' := 26) rfl (hb hby d3_21) rfl (teq (by decide : (115 : Int32) = (115 : Int32))).1 (by decide) (by decide) (Steps.refl _)) ?_
  show own_Fin _ _ _ _ (s₁.setTop (mkF m 26 #[.val (.ref a1), .val (.ref a2), .val (.int (2 : Int32))] []))
  refine own_go (XS.iinc X0.here hx rfl (hb hby d3_26) rfl (l' := #[.val (.ref a1), .val (.ref a2), .val (.int (3 : Int32))]) rfl (Steps.refl _)) ?_
  show own_Fin _ _ _ _ (s₁.setTop (mkF m 29 #[.val (.ref a1), .val (.ref a2), .val (.int (3 : Int32))] []))
  refine own_go (XS.goto X0.here hx rfl (pc0 := 29) (pc' := 9) rfl (hb hby d3_29) (by decide) (by decide) (Steps.refl _)) ?_
  show own_Fin _ _ _ _ (s₁.setTop (mkF m 9 #[.val (.ref a1), .val (.ref a2), .val (.int (3 : Int32))] []))
  refine own_go (XS.iloadN X0.here hx rfl (hb hby d3_9) rfl (Steps.refl _)) ?_
  show own_Fin _ _ _ _ (s₁.setTop (mkF m 10 #[.val (.ref a1), .val (.ref a2), .val (.int (3 : Int32))] [(.int (3 : Int32))]))
  refine own_go (XS.aloadN X0.here hx rfl (hb hby d3_10) rfl rfl (Steps.refl _)) ?_
  show own_Fin _ _ _ _ (s₁.setTop (mkF m 11 #[.val (.ref a1), .val (.ref a2), .val (.int (3 : Int32))] [(.ref a1), (.int (3 : Int32))]))
  obtain ⟨cl14, Ar14, qa14, Sa14, Na14, Ha14, Ga14⟩ := id V_a1
  refine own_by (X0.arraylength hx (by rw [e0]; exact Ar14.1) (State.isArrayOf_alike hZ.alike Ar14.2.1) (g := (mkF m 11 #[.val (.ref a1), .val (.ref a2), .val (.int (3 : Int32))] [(.ref a1), (.int (3 : Int32))])) rfl rfl (hb hby d3_11)) ?_
  rw [len_of Sa14 Na14]
  show own_Fin _ _ _ _ (s₁.setTop (mkF m 12 #[.val (.ref a1), .val (.ref a2), .val (.int (3 : Int32))] [(.int (3 : Int32)), (.int (3 : Int32))]))
  refine own_go (XS.icmpYes X0.here hx rfl (pc0 := 12) (pc' := 32) rfl (hb hby d3_12) rfl (flt (by decide : ¬ ((3 : Int32) < (3 : Int32)))).2.1 (by decide) (by decide) (Steps.refl _)) ?_
  show own_Fin _ _ _ _ (s₁.setTop (mkF m 32 #[.val (.ref a1), .val (.ref a2), .val (.int (3 : Int32))] []))
  refine own_go (XS.iconst X0.here hx rfl (hb hby d3_32) (Steps.refl _)) ?_
  show own_Fin _ _ _ _ (s₁.setTop (mkF m 33 #[.val (.ref a1), .val (.ref a2), .val (.int (3 : Int32))] [(.int (1 : Int32))]))
  obtain ⟨fs15, hr15, hrun15, hended15, hW15, hsame15⟩ := X0.leave (v := some (.int (1 : Int32))) (fun h => by rw [Bd.returns] at h; cases h)
  refine own_done (retN X0 hx (t := .boolean) Bd.returns (by simp) (hb hby d3_33) hr15) hrun15 hended15 ⟨_, _, rfl, ?_, ⟨_, rfl⟩, hW15, hsame15.mono (by decide) (by decide)⟩
  show Q3_B Z a1 a2 k1 k2 h0 n0 _ s₁.heap _
  rw [e0]
  exact ⟨rfl, N0, rfl⟩
theorem d2_0 : decode jdk_42_method_66_code 0 = .ok (.aload_n 0, 1) := by decide +kernel
theorem d2_1 : decode jdk_42_method_66_code 1 = .ok (.aload_n 1, 1) := by decide +kernel
theorem d2_2 : decode jdk_42_method_66_code 2 = .ok (.if_acmp .ne 5, 3) := by decide +kernel
theorem d2_5 : decode jdk_42_method_66_code 5 = .ok (.iconst 1, 1) := by decide +kernel
theorem d2_6 : decode jdk_42_method_66_code 6 = .ok (.ireturn, 1) := by decide +kernel
theorem d2_7 : decode jdk_42_method_66_code 7 = .ok (.aload_n 1, 1) := by decide +kernel
theorem d2_8 : decode jdk_42_method_66_code 8 = .ok (.instanceof 10, 3) := by decide +kernel
theorem d2_11 : decode jdk_42_method_66_code 11 = .ok (.ifCond .eq 43, 3) := by decide +kernel
theorem d2_14 : decode jdk_42_method_66_code 14 = .ok (.aload_n 1, 1) := by decide +kernel
theorem d2_15 : decode jdk_42_method_66_code 15 = .ok (.checkcast 10, 3) := by decide +kernel
theorem d2_18 : decode jdk_42_method_66_code 18 = .ok (.astore_n 2, 1) := by decide +kernel
theorem d2_19 : decode jdk_42_method_66_code 19 = .ok (.getstatic 38, 3) := by decide +kernel
theorem d2_22 : decode jdk_42_method_66_code 22 = .ok (.ifCond .eq 14, 3) := by decide +kernel
theorem d2_25 : decode jdk_42_method_66_code 25 = .ok (.aload_n 0, 1) := by decide +kernel
theorem d2_26 : decode jdk_42_method_66_code 26 = .ok (.getfield 15, 3) := by decide +kernel
theorem d2_29 : decode jdk_42_method_66_code 29 = .ok (.aload_n 2, 1) := by decide +kernel
theorem d2_30 : decode jdk_42_method_66_code 30 = .ok (.getfield 15, 3) := by decide +kernel
theorem d2_33 : decode jdk_42_method_66_code 33 = .ok (.if_icmp .ne 21, 3) := by decide +kernel
theorem d2_36 : decode jdk_42_method_66_code 36 = .ok (.aload_n 0, 1) := by decide +kernel
theorem d2_37 : decode jdk_42_method_66_code 37 = .ok (.getfield 9, 3) := by decide +kernel
theorem d2_40 : decode jdk_42_method_66_code 40 = .ok (.aload_n 2, 1) := by decide +kernel
theorem d2_41 : decode jdk_42_method_66_code 41 = .ok (.getfield 9, 3) := by decide +kernel
theorem d2_44 : decode jdk_42_method_66_code 44 = .ok (.invokestatic 541, 3) := by decide +kernel
theorem d2_47 : decode jdk_42_method_66_code 47 = .ok (.ifCond .eq 7, 3) := by decide +kernel
theorem d2_50 : decode jdk_42_method_66_code 50 = .ok (.iconst 1, 1) := by decide +kernel
theorem d2_51 : decode jdk_42_method_66_code 51 = .ok (.goto 4, 3) := by decide +kernel
theorem d2_54 : decode jdk_42_method_66_code 54 = .ok (.iconst 0, 1) := by decide +kernel
theorem d2_55 : decode jdk_42_method_66_code 55 = .ok (.ireturn, 1) := by decide +kernel
theorem pn_java_lang_String : plainName "java/lang/String" = true := by first | (simp [plainName, overriddenIn]; done) | decide +kernel
theorem ef_2_B (m : MethodId) (x0 : Addr) (x1 : Addr) : entryFrame m #[(.ref x0), (.ref x1)] 3 = mkF m 0 #[.val (.ref x0), .val (.ref x1), .unset] [] := by first | (simp [entryFrame, mkF, argsToLocals, Value.category]; done) | rfl
def Q2_B (Z : State) (a1 : Addr) (a2 : Addr) (v1 : Addr) (v2 : Addr) (k1 : ClassId) (k2 : ClassId) (cs : Int32) (h0 : Heap) (n0 : Nat) (v : Option Value) (h : Heap) (L : List Loc) : Prop := v = some (.int (1 : Int32)) ∧ Fr n0 L ∧ h = h0
abbrev G2_B (Z : State) (a1 : Addr) (a2 : Addr) (v1 : Addr) (v2 : Addr) (k1 : ClassId) (k2 : ClassId) (cs : Int32) (h0 : Heap) (n0 : Nat) (s : State) : Outcome → State → Prop := fun o U' => ∃ v L, o = .returned v ∧ Q2_B Z a1 a2 v1 v2 k1 k2 cs h0 n0 v U'.heap L ∧ FrameEnd s o U' L ({ frames := 1, cells := 0, slots := 0, locals := 16 } : Room).cells ({ frames := 1, cells := 0, slots := 0, locals := 16 } : Room).slots
theorem pd__28__5b_B_5b_B_29_Z : parseMethodDescriptor "([B[B)Z" = some ⟨[(.array .byte), (.array .byte)], some .boolean⟩ := by decide +kernel
set_option maxRecDepth 65536 in
set_option maxHeartbeats 40000000 in
theorem rm2_B (l : Launch) (Z : State) (a0 : Array Value) (hw : ∀ d ∈ tables_1, d.before a0 Z = true) (ws : List Jvm.Cond) (a1 : Addr) (a2 : Addr) (v1 : Addr) (v2 : Addr) (k1 : ClassId) (k2 : ClassId) (cs : Int32) (h0 : Heap) (n0 : Nat) (Z0 : n0 ≤ h0.size) (E_a1 : Exa Z h0 a1 "java/lang/String") (F_coder_a1 : Fld Z h0 a1 "java/lang/String" "coder" "B" (.int (0 : Int32))) (F_value_a1 : Fld Z h0 a1 "java/lang/String" "value" "[B" (.ref v1)) (V_v1 : Arv Z h0 v1 k1 .byte (3 : Int32) [.int (98 : Int32), .int (102 : Int32), .int (115 : Int32)] (.int (0 : Int32))) (E_a2 : Exa Z h0 a2 "java/lang/String") (F_coder_a2 : Fld Z h0 a2 "java/lang/String" "coder" "B" (.int (0 : Int32))) (F_value_a2 : Fld Z h0 a2 "java/lang/String" "value" "[B" (.ref v2)) (V_v2 : Arv Z h0 v2 k2 .byte (3 : Int32) [.int (98 : Int32), .int (102 : Int32), .int (115 : Int32)] (.int (0 : Int32))) (S_CS : Sta Z h0 "java/lang/String" "COMPACT_STRINGS" "Z" (.int cs)) (hcs : ¬ cs = (0 : Int32)) (ne12 : True) :
    MetFree l (⟨"java/lang/String", "equals", "(Ljava/lang/Object;)Z"⟩ : MethodName) (head1 (Jvm.Cond.code (⟨"java/lang/String", "equals", "(Ljava/lang/Object;)Z"⟩ : MethodName) jdk_42_method_66_code 3 (some .boolean) :: ws) ({ frames := 1, cells := 0, slots := 0, locals := 16 } : Room)) (fun a U => a = #[(.ref a1), (.ref a2)] ∧ Z.Warmed39 U.vm ∧ U.heap = h0) (fun _ _ _ _ _ => True) (fun _ U o U' => ∃ v L, o = .returned v ∧ Q2_B Z a1 a2 v1 v2 k1 k2 cs h0 n0 v U'.heap L ∧ FrameEnd U o U' L ({ frames := 1, cells := 0, slots := 0, locals := 16 } : Room).cells ({ frames := 1, cells := 0, slots := 0, locals := 16 } : Room).slots) := by
  refine MetFree.of_bodySF (plainFor_of_name pn_java_lang_String) hisR ?_
  intro p e s m args below meth c s₁ Bd hml0 hP hK
  obtain ⟨rfl, hZ, hh⟩ := hP
  have hx := Bd.exec
  have hby := Bd.bytes
  have hml : c.maxLocals = 3 := hml0
  have hown : s.vm.findClass "java/lang/String" = some m.cls := findClass_of_methodNamed Bd.named
  have hnm := (name_of_methodNamed Bd.named Bd.method).1
  have X0 : Stand p l e ({ frames := 1, cells := 0, slots := 0, locals := 16 } : Room) s m #[(.ref a1), (.ref a2)] below meth c s₁ [] 0 0 := Stand.of_body Bd
  have e0 : s₁.heap = h0 := by rw [← hh, Bd.state]; rfl
  have es0 : s.heap = h0 := hh
  have N0 := Fr.nil n0
  show own_Fin p e below (G2_B Z a1 a2 v1 v2 k1 k2 cs h0 n0 s) (s₁.setTop (entryFrame m #[(.ref a1), (.ref a2)] 3))
  rw [ef_2_B m a1 a2]
  refine own_go (XS.aloadN X0.here hx rfl (hb hby d2_0) rfl rfl (Steps.refl _)) ?_
  show own_Fin _ _ _ _ (s₁.setTop (mkF m 1 #[.val (.ref a1), .val (.ref a2), .unset] [(.ref a1)]))
  refine own_go (XS.aloadN X0.here hx rfl (hb hby d2_1) rfl rfl (Steps.refl _)) ?_
  show own_Fin _ _ _ _ (s₁.setTop (mkF m 2 #[.val (.ref a1), .val (.ref a2), .unset] [(.ref a2), (.ref a1)]))
  by_cases cq : a1 = a2
  · refine own_go (Jvm.RoadKit.acmp (g := (mkF m 2 #[.val (.ref a1), .val (.ref a2), .unset] [(.ref a2), (.ref a1)])) X0 hx rfl rfl rfl (pc0 := 2) (pc' := 5) (same := true) rfl (hb hby d2_2) rfl (decide_eq_true (congrArg Value.ref cq)) (by decide) (by decide) (Steps.refl _)) ?_
    show own_Fin _ _ _ _ (s₁.setTop (mkF m 5 #[.val (.ref a1), .val (.ref a2), .unset] []))
    refine own_go (XS.iconst X0.here hx rfl (hb hby d2_5) (Steps.refl _)) ?_
    show own_Fin _ _ _ _ (s₁.setTop (mkF m 6 #[.val (.ref a1), .val (.ref a2), .unset] [(.int (1 : Int32))]))
    obtain ⟨fs16, hr16, hrun16, hended16, hW16, hsame16⟩ := X0.leave (v := some (.int (1 : Int32))) (fun h => by rw [Bd.returns] at h; cases h)
    refine own_done (retN X0 hx (t := .boolean) Bd.returns (by simp) (hb hby d2_6) hr16) hrun16 hended16 ⟨_, _, rfl, ?_, ⟨_, rfl⟩, hW16, hsame16.mono (by decide) (by decide)⟩
    show Q2_B Z a1 a2 v1 v2 k1 k2 cs h0 n0 _ s₁.heap _
    rw [e0]
    exact ⟨rfl, N0, rfl⟩
  · refine own_go (Jvm.RoadKit.acmp (g := (mkF m 2 #[.val (.ref a1), .val (.ref a2), .unset] [(.ref a2), (.ref a1)])) X0 hx rfl rfl rfl (pc0 := 2) (pc' := 7) (same := false) rfl (hb hby d2_2) rfl (decide_eq_false fun q => cq (Value.ref.inj q)) (by decide) (by decide) (Steps.refl _)) ?_
    show own_Fin _ _ _ _ (s₁.setTop (mkF m 7 #[.val (.ref a1), .val (.ref a2), .unset] []))
    refine own_go (XS.aloadN X0.here hx rfl (hb hby d2_7) rfl rfl (Steps.refl _)) ?_
    show own_Fin _ _ _ _ (s₁.setTop (mkF m 8 #[.val (.ref a1), .val (.ref a2), .unset] [(.ref a2)]))
    obtain ⟨T17, X17, e17, st17⟩ := instY X0 hx hZ hown (hw _ (List.mem_of_getElem? (i := 24) rfl)) e0 (Ins.self E_a2) (g := (mkF m 8 #[.val (.ref a1), .val (.ref a2), .unset] [(.ref a2)])) rfl rfl (hb hby d2_8)
    refine own_by st17 ?_
    show own_Fin _ _ _ _ (T17.setTop (mkF m 11 #[.val (.ref a1), .val (.ref a2), .unset] [(.int (1 : Int32))]))
    refine own_go (XS.ifNo X17.here hx rfl (hb hby d2_11) rfl ((if0 _ _).trans (feq (by decide : ¬ ((1 : Int32) = (0 : Int32)))).1) (Steps.refl _)) ?_
    show own_Fin _ _ _ _ (T17.setTop (mkF m 14 #[.val (.ref a1), .val (.ref a2), .unset] []))
    refine own_go (XS.aloadN X17.here hx rfl (hb hby d2_14) rfl rfl (Steps.refl _)) ?_
    show own_Fin _ _ _ _ (T17.setTop (mkF m 15 #[.val (.ref a1), .val (.ref a2), .unset] [(.ref a2)]))
    obtain ⟨T18, X18, e18, st18⟩ := castY X17 hx hZ hown (hw _ (List.mem_of_getElem? (i := 24) rfl)) e17 (Ins.self E_a2) (g := (mkF m 15 #[.val (.ref a1), .val (.ref a2), .unset] [(.ref a2)])) rfl rfl (hb hby d2_15)
    refine own_by st18 ?_
    show own_Fin _ _ _ _ (T18.setTop (mkF m 18 #[.val (.ref a1), .val (.ref a2), .unset] [(.ref a2)]))
    refine own_go (XS.astoreN X18.here hx rfl (hb hby d2_18) rfl rfl (l' := #[.val (.ref a1), .val (.ref a2), .val (.ref a2)]) rfl (Steps.refl _)) ?_
    show own_Fin _ _ _ _ (T18.setTop (mkF m 19 #[.val (.ref a1), .val (.ref a2), .val (.ref a2)] []))
    obtain ⟨T19, X19, e19, st19⟩ := getS2 X18 hx hZ hown (host := "") (Or.inl (hw _ (List.mem_of_getElem? (i := 26) rfl))) Via.refl e18 S_CS (g := (mkF m 19 #[.val (.ref a1), .val (.ref a2), .val (.ref a2)] [])) rfl (hb hby d2_19)
    refine own_by st19 ?_
    show own_Fin _ _ _ _ (T19.setTop (mkF m 22 #[.val (.ref a1), .val (.ref a2), .val (.ref a2)] [(.int cs)]))
    refine own_go (XS.ifNo X19.here hx rfl (hb hby d2_22) rfl ((if0 _ _).trans (feq (show ¬ (cs = (0 : Int32)) from hcs)).1) (Steps.refl _)) ?_
    show own_Fin _ _ _ _ (T19.setTop (mkF m 25 #[.val (.ref a1), .val (.ref a2), .val (.ref a2)] []))
    refine own_go (XS.aloadN X19.here hx rfl (hb hby d2_25) rfl rfl (Steps.refl _)) ?_
    show own_Fin _ _ _ _ (T19.setTop (mkF m 26 #[.val (.ref a1), .val (.ref a2), .val (.ref a2)] [(.ref a1)]))
    obtain ⟨T20, X20, e20, st20⟩ := getF X19 hx hZ hown (host := "") (Or.inl (hw _ (List.mem_of_getElem? (i := 27) rfl))) Via.refl e19 F_coder_a1 (g := (mkF m 26 #[.val (.ref a1), .val (.ref a2), .val (.ref a2)] [(.ref a1)])) rfl rfl (hb hby d2_26)
    refine own_by st20 ?_
    show own_Fin _ _ _ _ (T20.setTop (mkF m 29 #[.val (.ref a1), .val (.ref a2), .val (.ref a2)] [(.int (0 : Int32))]))
    refine own_go (XS.aloadN X20.here hx rfl (hb hby d2_29) rfl rfl (Steps.refl _)) ?_
    show own_Fin _ _ _ _ (T20.setTop (mkF m 30 #[.val (.ref a1), .val (.ref a2), .val (.ref a2)] [(.ref a2), (.int (0 : Int32))]))
    obtain ⟨T21, X21, e21, st21⟩ := getF X20 hx hZ hown (host := "") (Or.inl (hw _ (List.mem_of_getElem? (i := 27) rfl))) Via.refl e20 F_coder_a2 (g := (mkF m 30 #[.val (.ref a1), .val (.ref a2), .val (.ref a2)] [(.ref a2), (.int (0 : Int32))])) rfl rfl (hb hby d2_30)
    refine own_by st21 ?_
    show own_Fin _ _ _ _ (T21.setTop (mkF m 33 #[.val (.ref a1), .val (.ref a2), .val (.ref a2)] [(.int (0 : Int32)), (.int (0 : Int32))]))
    refine own_go (XS.icmpNo X21.here hx rfl (hb hby d2_33) rfl (teq (by decide : (0 : Int32) = (0 : Int32))).2 (Steps.refl _)) ?_
    show own_Fin _ _ _ _ (T21.setTop (mkF m 36 #[.val (.ref a1), .val (.ref a2), .val (.ref a2)] []))
    refine own_go (XS.aloadN X21.here hx rfl (hb hby d2_36) rfl rfl (Steps.refl _)) ?_
    show own_Fin _ _ _ _ (T21.setTop (mkF m 37 #[.val (.ref a1), .val (.ref a2), .val (.ref a2)] [(.ref a1)]))
    obtain ⟨T22, X22, e22, st22⟩ := getF X21 hx hZ hown (host := "") (Or.inl (hw _ (List.mem_of_getElem? (i := 28) rfl))) Via.refl e21 F_value_a1 (g := (mkF m 37 #[.val (.ref a1), .val (.ref a2), .val (.ref a2)] [(.ref a1)])) rfl rfl (hb hby d2_37)
    refine own_by st22 ?_
    show own_Fin _ _ _ _ (T22.setTop (mkF m 40 #[.val (.ref a1), .val (.ref a2), .val (.ref a2)] [(.ref v1)]))
    refine own_go (XS.aloadN X22.here hx rfl (hb hby d2_40) rfl rfl (Steps.refl _)) ?_
    show own_Fin _ _ _ _ (T22.setTop (mkF m 41 #[.val (.ref a1), .val (.ref a2), .val (.ref a2)] [(.ref a2), (.ref v1)]))
    obtain ⟨T23, X23, e23, st23⟩ := getF X22 hx hZ hown (host := "") (Or.inl (hw _ (List.mem_of_getElem? (i := 28) rfl))) Via.refl e22 F_value_a2 (g := (mkF m 41 #[.val (.ref a1), .val (.ref a2), .val (.ref a2)] [(.ref a2), (.ref v1)])) rfl rfl (hb hby d2_41)
    refine own_by st23 ?_
    show own_Fin _ _ _ _ (T23.setTop (mkF m 44 #[.val (.ref a1), .val (.ref a2), .val (.ref a2)] [(.ref v2), (.ref v1)]))
    obtain ⟨_, _, ⟨T24, L24, k24, n24⟩, -, X24, ⟨Lc24, hQ24, l24, y24, z24⟩, st24⟩ := Jvm.LawKit.callS X23 hx (y := (⟨"java/lang/StringLatin1", "equals", "([B[B)Z"⟩ : MethodName)) hown (mvT hZ (hw _ (List.mem_of_getElem? (i := 29) rfl))) (mvT hZ (hw _ (List.mem_of_getElem? (i := 30) rfl))) (mvT hZ (hw _ (List.mem_of_getElem? (i := 31) rfl))) (mvT hZ (hw _ (List.mem_of_getElem? (i := 32) rfl))) (by decide) (backOf (W := 0) (rm3_B l Z a0 hw [] v1 v2 k1 k2 h0 n0 Z0 V_v1 V_v2) hZ (hw _ (List.mem_of_getElem? (i := 32) rfl)) (hw _ (List.mem_of_getElem? (i := 31) rfl)) (by decide) (by decide)) (g := (mkF m 44 #[.val (.ref a1), .val (.ref a2), .val (.ref a2)] [(.ref v2), (.ref v1)])) rfl (by rw [hml]; rfl) (argsL := [(.ref v1), (.ref v2)]) (rest := []) (lenOf pd__28__5b_B_5b_B_29_Z rfl) rfl (by show 2 * 0 + _ ≤ _; exact Nat.le_of_eq rfl) (hb hby d2_44) (fun _ _ => ⟨rfl, e23, (by decide : 0 + 0 ≤ _), (by decide : 0 + 0 ≤ _)⟩)
    dsimp only [Pt.U, Pt.locs, Pt.cells, Pt.slots] at X24 l24 y24 z24 st24 hQ24
    subst l24 y24 z24
    obtain ⟨rfl, Nq24, e24⟩ := hQ24
    refine own_by st24 ?_
    have N24 := Fr.app N0 Nq24
    show own_Fin _ _ _ _ (T24.setTop (mkF m 47 #[.val (.ref a1), .val (.ref a2), .val (.ref a2)] [(.int (1 : Int32))]))
    refine own_go (XS.ifNo X24.here hx rfl (hb hby d2_47) rfl ((if0 _ _).trans (feq (by decide : ¬ ((1 : Int32) = (0 : Int32)))).1) (Steps.refl _)) ?_
    show own_Fin _ _ _ _ (T24.setTop (mkF m 50 #[.val (.ref a1), .val (.ref a2), .val (.ref a2)] []))
    refine own_go (XS.iconst X24.here hx rfl (hb hby d2_50) (Steps.refl _)) ?_
    show own_Fin _ _ _ _ (T24.setTop (mkF m 51 #[.val (.ref a1), .val (.ref a2), .val (.ref a2)] [(.int (1 : Int32))]))
    refine own_go (XS.goto X24.here hx rfl (pc0 := 51) (pc' := 55) rfl (hb hby d2_51) (by decide) (by decide) (Steps.refl _)) ?_
    show own_Fin _ _ _ _ (T24.setTop (mkF m 55 #[.val (.ref a1), .val (.ref a2), .val (.ref a2)] [(.int (1 : Int32))]))
    obtain ⟨fs25, hr25, hrun25, hended25, hW25, hsame25⟩ := X24.leave (v := some (.int (1 : Int32))) (fun h => by rw [Bd.returns] at h; cases h)
    refine own_done (retN X24 hx (t := .boolean) Bd.returns (by simp) (hb hby d2_55) hr25) hrun25 hended25 ⟨_, _, rfl, ?_, ⟨_, rfl⟩, hW25, hsame25.mono (by decide) (by decide)⟩
    show Q2_B Z a1 a2 v1 v2 k1 k2 cs h0 n0 _ T24.heap _
    rw [e24]
    exact ⟨rfl, N24, rfl⟩
theorem ef_3_F (m : MethodId) (x0 : Addr) (x1 : Addr) : entryFrame m #[(.ref x0), (.ref x1)] 3 = mkF m 0 #[.val (.ref x0), .val (.ref x1), .unset] [] := by first | (simp [entryFrame, mkF, argsToLocals, Value.category]; done) | rfl
def Q3_F (Z : State) (a1 : Addr) (a2 : Addr) (k1 : ClassId) (k2 : ClassId) (h0 : Heap) (n0 : Nat) (v : Option Value) (h : Heap) (L : List Loc) : Prop := v = some (.int (0 : Int32)) ∧ Fr n0 L ∧ h = h0
abbrev G3_F (Z : State) (a1 : Addr) (a2 : Addr) (k1 : ClassId) (k2 : ClassId) (h0 : Heap) (n0 : Nat) (s : State) : Outcome → State → Prop := fun o U' => ∃ v L, o = .returned v ∧ Q3_F Z a1 a2 k1 k2 h0 n0 v U'.heap L ∧ FrameEnd s o U' L ({ frames := 0, cells := 0, slots := 0, locals := 0 } : Room).cells ({ frames := 0, cells := 0, slots := 0, locals := 0 } : Room).slots
set_option maxRecDepth 65536 in
set_option maxHeartbeats 40000000 in
theorem rm3_F (l : Launch) (Z : State) (a0 : Array Value) (hw : ∀ d ∈ tables_1, d.before a0 Z = true) (ws : List Jvm.Cond) (a1 : Addr) (a2 : Addr) (k1 : ClassId) (k2 : ClassId) (h0 : Heap) (n0 : Nat) (Z0 : n0 ≤ h0.size) (V_a1 : Arv Z h0 a1 k1 .byte (10 : Int32) [.int (98 : Int32), .int (101 : Int32), .int (115 : Int32), .int (116 : Int32), .int (45 : Int32), .int (102 : Int32), .int (105 : Int32), .int (114 : Int32), .int (115 : Int32), .int (116 : Int32)] (.int (0 : Int32))) (V_a2 : Arv Z h0 a2 k2 .byte (3 : Int32) [.int (98 : Int32), .int (102 : Int32), .int (115 : Int32)] (.int (0 : Int32))) :
    MetFree l (⟨"java/lang/StringLatin1", "equals", "([B[B)Z"⟩ : MethodName) (head1 (Jvm.Cond.code (⟨"java/lang/StringLatin1", "equals", "([B[B)Z"⟩ : MethodName) jdk_43_method_13_code 3 (some .boolean) :: ws) ({ frames := 0, cells := 0, slots := 0, locals := 0 } : Room)) (fun a U => a = #[(.ref a1), (.ref a2)] ∧ Z.Warmed39 U.vm ∧ U.heap = h0) (fun _ _ _ _ _ => True) (fun _ U o U' => ∃ v L, o = .returned v ∧ Q3_F Z a1 a2 k1 k2 h0 n0 v U'.heap L ∧ FrameEnd U o U' L ({ frames := 0, cells := 0, slots := 0, locals := 0 } : Room).cells ({ frames := 0, cells := 0, slots := 0, locals := 0 } : Room).slots) := by
  refine MetFree.of_bodySF (plainFor_of_name pn_java_lang_StringLatin1) hisR ?_
  intro p e s m args below meth c s₁ Bd hml0 hP hK
  obtain ⟨rfl, hZ, hh⟩ := hP
  have hx := Bd.exec
  have hby := Bd.bytes
  have hml : c.maxLocals = 3 := hml0
  have hown : s.vm.findClass "java/lang/StringLatin1" = some m.cls := findClass_of_methodNamed Bd.named
  have hnm := (name_of_methodNamed Bd.named Bd.method).1
  have X0 : Stand p l e ({ frames := 0, cells := 0, slots := 0, locals := 0 } : Room) s m #[(.ref a1), (.ref a2)] below meth c s₁ [] 0 0 := Stand.of_body Bd
  have e0 : s₁.heap = h0 := by rw [← hh, Bd.state]; rfl
  have es0 : s.heap = h0 := hh
  have N0 := Fr.nil n0
  show own_Fin p e below (G3_F Z a1 a2 k1 k2 h0 n0 s) (s₁.setTop (entryFrame m #[(.ref a1), (.ref a2)] 3))
  rw [ef_3_F m a1 a2]
  refine own_go (XS.aloadN X0.here hx rfl (hb hby d3_0) rfl rfl (Steps.refl _)) ?_
  show own_Fin _ _ _ _ (s₁.setTop (mkF m 1 #[.val (.ref a1), .val (.ref a2), .unset] [(.ref a1)]))
  obtain ⟨cl26, Ar26, qa26, Sa26, Na26, Ha26, Ga26⟩ := id V_a1
  refine own_by (X0.arraylength hx (by rw [e0]; exact Ar26.1) (State.isArrayOf_alike hZ.alike Ar26.2.1) (g := (mkF m 1 #[.val (.ref a1), .val (.ref a2), .unset] [(.ref a1)])) rfl rfl (hb hby d3_1)) ?_
  rw [len_of Sa26 Na26]
  show own_Fin _ _ _ _ (s₁.setTop (mkF m 2 #[.val (.ref a1), .val (.ref a2), .unset] [(.int (10 : Int32))]))
  refine own_go (XS.aloadN X0.here hx rfl (hb hby d3_2) rfl rfl (Steps.refl _)) ?_
  show own_Fin _ _ _ _ (s₁.setTop (mkF m 3 #[.val (.ref a1), .val (.ref a2), .unset] [(.ref a2), (.int (10 : Int32))]))
  obtain ⟨cl27, Ar27, qa27, Sa27, Na27, Ha27, Ga27⟩ := id V_a2
  refine own_by (X0.arraylength hx (by rw [e0]; exact Ar27.1) (State.isArrayOf_alike hZ.alike Ar27.2.1) (g := (mkF m 3 #[.val (.ref a1), .val (.ref a2), .unset] [(.ref a2), (.int (10 : Int32))])) rfl rfl (hb hby d3_3)) ?_
  rw [len_of Sa27 Na27]
  show own_Fin _ _ _ _ (s₁.setTop (mkF m 4 #[.val (.ref a1), .val (.ref a2), .unset] [(.int (3 : Int32)), (.int (10 : Int32))]))
  refine own_go (XS.icmpYes X0.here hx rfl (pc0 := 4) (pc' := 34) rfl (hb hby d3_4) rfl (feq (by decide : ¬ ((10 : Int32) = (3 : Int32)))).2 (by decide) (by decide) (Steps.refl _)) ?_
  show own_Fin _ _ _ _ (s₁.setTop (mkF m 34 #[.val (.ref a1), .val (.ref a2), .unset] []))
  refine own_go (XS.iconst X0.here hx rfl (hb hby d3_34) (Steps.refl _)) ?_
  show own_Fin _ _ _ _ (s₁.setTop (mkF m 35 #[.val (.ref a1), .val (.ref a2), .unset] [(.int (0 : Int32))]))
  obtain ⟨fs28, hr28, hrun28, hended28, hW28, hsame28⟩ := X0.leave (v := some (.int (0 : Int32))) (fun h => by rw [Bd.returns] at h; cases h)
  refine own_done (retN X0 hx (t := .boolean) Bd.returns (by simp) (hb hby d3_35) hr28) hrun28 hended28 ⟨_, _, rfl, ?_, ⟨_, rfl⟩, hW28, hsame28.mono (by decide) (by decide)⟩
  show Q3_F Z a1 a2 k1 k2 h0 n0 _ s₁.heap _
  rw [e0]
  exact ⟨rfl, N0, rfl⟩
theorem ef_2_F (m : MethodId) (x0 : Addr) (x1 : Addr) : entryFrame m #[(.ref x0), (.ref x1)] 3 = mkF m 0 #[.val (.ref x0), .val (.ref x1), .unset] [] := by first | (simp [entryFrame, mkF, argsToLocals, Value.category]; done) | rfl
def Q2_F (Z : State) (a1 : Addr) (a2 : Addr) (v1 : Addr) (v2 : Addr) (k1 : ClassId) (k2 : ClassId) (cs : Int32) (h0 : Heap) (n0 : Nat) (v : Option Value) (h : Heap) (L : List Loc) : Prop := v = some (.int (0 : Int32)) ∧ Fr n0 L ∧ h = h0
abbrev G2_F (Z : State) (a1 : Addr) (a2 : Addr) (v1 : Addr) (v2 : Addr) (k1 : ClassId) (k2 : ClassId) (cs : Int32) (h0 : Heap) (n0 : Nat) (s : State) : Outcome → State → Prop := fun o U' => ∃ v L, o = .returned v ∧ Q2_F Z a1 a2 v1 v2 k1 k2 cs h0 n0 v U'.heap L ∧ FrameEnd s o U' L ({ frames := 1, cells := 0, slots := 0, locals := 16 } : Room).cells ({ frames := 1, cells := 0, slots := 0, locals := 16 } : Room).slots
set_option maxRecDepth 65536 in
set_option maxHeartbeats 40000000 in
theorem rm2_F (l : Launch) (Z : State) (a0 : Array Value) (hw : ∀ d ∈ tables_1, d.before a0 Z = true) (ws : List Jvm.Cond) (a1 : Addr) (a2 : Addr) (v1 : Addr) (v2 : Addr) (k1 : ClassId) (k2 : ClassId) (cs : Int32) (h0 : Heap) (n0 : Nat) (Z0 : n0 ≤ h0.size) (E_a1 : Exa Z h0 a1 "java/lang/String") (F_coder_a1 : Fld Z h0 a1 "java/lang/String" "coder" "B" (.int (0 : Int32))) (F_value_a1 : Fld Z h0 a1 "java/lang/String" "value" "[B" (.ref v1)) (V_v1 : Arv Z h0 v1 k1 .byte (10 : Int32) [.int (98 : Int32), .int (101 : Int32), .int (115 : Int32), .int (116 : Int32), .int (45 : Int32), .int (102 : Int32), .int (105 : Int32), .int (114 : Int32), .int (115 : Int32), .int (116 : Int32)] (.int (0 : Int32))) (E_a2 : Exa Z h0 a2 "java/lang/String") (F_coder_a2 : Fld Z h0 a2 "java/lang/String" "coder" "B" (.int (0 : Int32))) (F_value_a2 : Fld Z h0 a2 "java/lang/String" "value" "[B" (.ref v2)) (V_v2 : Arv Z h0 v2 k2 .byte (3 : Int32) [.int (98 : Int32), .int (102 : Int32), .int (115 : Int32)] (.int (0 : Int32))) (S_CS : Sta Z h0 "java/lang/String" "COMPACT_STRINGS" "Z" (.int cs)) (hcs : ¬ cs = (0 : Int32)) (ne12 : ¬ a1 = a2) :
    MetFree l (⟨"java/lang/String", "equals", "(Ljava/lang/Object;)Z"⟩ : MethodName) (head1 (Jvm.Cond.code (⟨"java/lang/String", "equals", "(Ljava/lang/Object;)Z"⟩ : MethodName) jdk_42_method_66_code 3 (some .boolean) :: ws) ({ frames := 1, cells := 0, slots := 0, locals := 16 } : Room)) (fun a U => a = #[(.ref a1), (.ref a2)] ∧ Z.Warmed39 U.vm ∧ U.heap = h0) (fun _ _ _ _ _ => True) (fun _ U o U' => ∃ v L, o = .returned v ∧ Q2_F Z a1 a2 v1 v2 k1 k2 cs h0 n0 v U'.heap L ∧ FrameEnd U o U' L ({ frames := 1, cells := 0, slots := 0, locals := 16 } : Room).cells ({ frames := 1, cells := 0, slots := 0, locals := 16 } : Room).slots) := by
  refine MetFree.of_bodySF (plainFor_of_name pn_java_lang_String) hisR ?_
  intro p e s m args below meth c s₁ Bd hml0 hP hK
  obtain ⟨rfl, hZ, hh⟩ := hP
  have hx := Bd.exec
  have hby := Bd.bytes
  have hml : c.maxLocals = 3 := hml0
  have hown : s.vm.findClass "java/lang/String" = some m.cls := findClass_of_methodNamed Bd.named
  have hnm := (name_of_methodNamed Bd.named Bd.method).1
  have X0 : Stand p l e ({ frames := 1, cells := 0, slots := 0, locals := 16 } : Room) s m #[(.ref a1), (.ref a2)] below meth c s₁ [] 0 0 := Stand.of_body Bd
  have e0 : s₁.heap = h0 := by rw [← hh, Bd.state]; rfl
  have es0 : s.heap = h0 := hh
  have N0 := Fr.nil n0
  show own_Fin p e below (G2_F Z a1 a2 v1 v2 k1 k2 cs h0 n0 s) (s₁.setTop (entryFrame m #[(.ref a1), (.ref a2)] 3))
  rw [ef_2_F m a1 a2]
  refine own_go (XS.aloadN X0.here hx rfl (hb hby d2_0) rfl rfl (Steps.refl _)) ?_
  show own_Fin _ _ _ _ (s₁.setTop (mkF m 1 #[.val (.ref a1), .val (.ref a2), .unset] [(.ref a1)]))
  refine own_go (XS.aloadN X0.here hx rfl (hb hby d2_1) rfl rfl (Steps.refl _)) ?_
  show own_Fin _ _ _ _ (s₁.setTop (mkF m 2 #[.val (.ref a1), .val (.ref a2), .unset] [(.ref a2), (.ref a1)]))
  refine own_go (Jvm.RoadKit.acmp (g := (mkF m 2 #[.val (.ref a1), .val (.ref a2), .unset] [(.ref a2), (.ref a1)])) X0 hx rfl rfl rfl (pc0 := 2) (pc' := 7) (same := false) rfl (hb hby d2_2) rfl (decide_eq_false fun q => ne12 (Value.ref.inj q)) (by decide) (by decide) (Steps.refl _)) ?_
  show own_Fin _ _ _ _ (s₁.setTop (mkF m 7 #[.val (.ref a1), .val (.ref a2), .unset] []))
  refine own_go (XS.aloadN X0.here hx rfl (hb hby d2_7) rfl rfl (Steps.refl _)) ?_
  show own_Fin _ _ _ _ (s₁.setTop (mkF m 8 #[.val (.ref a1), .val (.ref a2), .unset] [(.ref a2)]))
  obtain ⟨T29, X29, e29, st29⟩ := instY X0 hx hZ hown (hw _ (List.mem_of_getElem? (i := 24) rfl)) e0 (Ins.self E_a2) (g := (mkF m 8 #[.val (.ref a1), .val (.ref a2), .unset] [(.ref a2)])) rfl rfl (hb hby d2_8)
  refine own_by st29 ?_
  show own_Fin _ _ _ _ (T29.setTop (mkF m 11 #[.val (.ref a1), .val (.ref a2), .unset] [(.int (1 : Int32))]))
  refine own_go (XS.ifNo X29.here hx rfl (hb hby d2_11) rfl ((if0 _ _).trans (feq (by decide : ¬ ((1 : Int32) = (0 : Int32)))).1) (Steps.refl _)) ?_
  show own_Fin _ _ _ _ (T29.setTop (mkF m 14 #[.val (.ref a1), .val (.ref a2), .unset] []))
  refine own_go (XS.aloadN X29.here hx rfl (hb hby d2_14) rfl rfl (Steps.refl _)) ?_
  show own_Fin _ _ _ _ (T29.setTop (mkF m 15 #[.val (.ref a1), .val (.ref a2), .unset] [(.ref a2)]))
  obtain ⟨T30, X30, e30, st30⟩ := castY X29 hx hZ hown (hw _ (List.mem_of_getElem? (i := 24) rfl)) e29 (Ins.self E_a2) (g := (mkF m 15 #[.val (.ref a1), .val (.ref a2), .unset] [(.ref a2)])) rfl rfl (hb hby d2_15)
  refine own_by st30 ?_
  show own_Fin _ _ _ _ (T30.setTop (mkF m 18 #[.val (.ref a1), .val (.ref a2), .unset] [(.ref a2)]))
  refine own_go (XS.astoreN X30.here hx rfl (hb hby d2_18) rfl rfl (l' := #[.val (.ref a1), .val (.ref a2), .val (.ref a2)]) rfl (Steps.refl _)) ?_
  show own_Fin _ _ _ _ (T30.setTop (mkF m 19 #[.val (.ref a1), .val (.ref a2), .val (.ref a2)] []))
  obtain ⟨T31, X31, e31, st31⟩ := getS2 X30 hx hZ hown (host := "") (Or.inl (hw _ (List.mem_of_getElem? (i := 26) rfl))) Via.refl e30 S_CS (g := (mkF m 19 #[.val (.ref a1), .val (.ref a2), .val (.ref a2)] [])) rfl (hb hby d2_19)
  refine own_by st31 ?_
  show own_Fin _ _ _ _ (T31.setTop (mkF m 22 #[.val (.ref a1), .val (.ref a2), .val (.ref a2)] [(.int cs)]))
  refine own_go (XS.ifNo X31.here hx rfl (hb hby d2_22) rfl ((if0 _ _).trans (feq (show ¬ (cs = (0 : Int32)) from hcs)).1) (Steps.refl _)) ?_
  show own_Fin _ _ _ _ (T31.setTop (mkF m 25 #[.val (.ref a1), .val (.ref a2), .val (.ref a2)] []))
  refine own_go (XS.aloadN X31.here hx rfl (hb hby d2_25) rfl rfl (Steps.refl _)) ?_
  show own_Fin _ _ _ _ (T31.setTop (mkF m 26 #[.val (.ref a1), .val (.ref a2), .val (.ref a2)] [(.ref a1)]))
  obtain ⟨T32, X32, e32, st32⟩ := getF X31 hx hZ hown (host := "") (Or.inl (hw _ (List.mem_of_getElem? (i := 27) rfl))) Via.refl e31 F_coder_a1 (g := (mkF m 26 #[.val (.ref a1), .val (.ref a2), .val (.ref a2)] [(.ref a1)])) rfl rfl (hb hby d2_26)
  refine own_by st32 ?_
  show own_Fin _ _ _ _ (T32.setTop (mkF m 29 #[.val (.ref a1), .val (.ref a2), .val (.ref a2)] [(.int (0 : Int32))]))
  refine own_go (XS.aloadN X32.here hx rfl (hb hby d2_29) rfl rfl (Steps.refl _)) ?_
  show own_Fin _ _ _ _ (T32.setTop (mkF m 30 #[.val (.ref a1), .val (.ref a2), .val (.ref a2)] [(.ref a2), (.int (0 : Int32))]))
  obtain ⟨T33, X33, e33, st33⟩ := getF X32 hx hZ hown (host := "") (Or.inl (hw _ (List.mem_of_getElem? (i := 27) rfl))) Via.refl e32 F_coder_a2 (g := (mkF m 30 #[.val (.ref a1), .val (.ref a2), .val (.ref a2)] [(.ref a2), (.int (0 : Int32))])) rfl rfl (hb hby d2_30)
  refine own_by st33 ?_
  show own_Fin _ _ _ _ (T33.setTop (mkF m 33 #[.val (.ref a1), .val (.ref a2), .val (.ref a2)] [(.int (0 : Int32)), (.int (0 : Int32))]))
  refine own_go (XS.icmpNo X33.here hx rfl (hb hby d2_33) rfl (teq (by decide : (0 : Int32) = (0 : Int32))).2 (Steps.refl _)) ?_
  show own_Fin _ _ _ _ (T33.setTop (mkF m 36 #[.val (.ref a1), .val (.ref a2), .val (.ref a2)] []))
  refine own_go (XS.aloadN X33.here hx rfl (hb hby d2_36) rfl rfl (Steps.refl _)) ?_
  show own_Fin _ _ _ _ (T33.setTop (mkF m 37 #[.val (.ref a1), .val (.ref a2), .val (.ref a2)] [(.ref a1)]))
  obtain ⟨T34, X34, e34, st34⟩ := getF X33 hx hZ hown (host := "") (Or.inl (hw _ (List.mem_of_getElem? (i := 28) rfl))) Via.refl e33 F_value_a1 (g := (mkF m 37 #[.val (.ref a1), .val (.ref a2), .val (.ref a2)] [(.ref a1)])) rfl rfl (hb hby d2_37)
  refine own_by st34 ?_
  show own_Fin _ _ _ _ (T34.setTop (mkF m 40 #[.val (.ref a1), .val (.ref a2), .val (.ref a2)] [(.ref v1)]))
  refine own_go (XS.aloadN X34.here hx rfl (hb hby d2_40) rfl rfl (Steps.refl _)) ?_
  show own_Fin _ _ _ _ (T34.setTop (mkF m 41 #[.val (.ref a1), .val (.ref a2), .val (.ref a2)] [(.ref a2), (.ref v1)]))
  obtain ⟨T35, X35, e35, st35⟩ := getF X34 hx hZ hown (host := "") (Or.inl (hw _ (List.mem_of_getElem? (i := 28) rfl))) Via.refl e34 F_value_a2 (g := (mkF m 41 #[.val (.ref a1), .val (.ref a2), .val (.ref a2)] [(.ref a2), (.ref v1)])) rfl rfl (hb hby d2_41)
  refine own_by st35 ?_
  show own_Fin _ _ _ _ (T35.setTop (mkF m 44 #[.val (.ref a1), .val (.ref a2), .val (.ref a2)] [(.ref v2), (.ref v1)]))
  obtain ⟨_, _, ⟨T36, L36, k36, n36⟩, -, X36, ⟨Lc36, hQ36, l36, y36, z36⟩, st36⟩ := Jvm.LawKit.callS X35 hx (y := (⟨"java/lang/StringLatin1", "equals", "([B[B)Z"⟩ : MethodName)) hown (mvT hZ (hw _ (List.mem_of_getElem? (i := 29) rfl))) (mvT hZ (hw _ (List.mem_of_getElem? (i := 30) rfl))) (mvT hZ (hw _ (List.mem_of_getElem? (i := 31) rfl))) (mvT hZ (hw _ (List.mem_of_getElem? (i := 32) rfl))) (by decide) (backOf (W := 0) (rm3_F l Z a0 hw [] v1 v2 k1 k2 h0 n0 Z0 V_v1 V_v2) hZ (hw _ (List.mem_of_getElem? (i := 32) rfl)) (hw _ (List.mem_of_getElem? (i := 31) rfl)) (by decide) (by decide)) (g := (mkF m 44 #[.val (.ref a1), .val (.ref a2), .val (.ref a2)] [(.ref v2), (.ref v1)])) rfl (by rw [hml]; rfl) (argsL := [(.ref v1), (.ref v2)]) (rest := []) (lenOf pd__28__5b_B_5b_B_29_Z rfl) rfl (by show 2 * 0 + _ ≤ _; exact Nat.le_of_eq rfl) (hb hby d2_44) (fun _ _ => ⟨rfl, e35, (by decide : 0 + 0 ≤ _), (by decide : 0 + 0 ≤ _)⟩)
  dsimp only [Pt.U, Pt.locs, Pt.cells, Pt.slots] at X36 l36 y36 z36 st36 hQ36
  subst l36 y36 z36
  obtain ⟨rfl, Nq36, e36⟩ := hQ36
  refine own_by st36 ?_
  have N36 := Fr.app N0 Nq36
  show own_Fin _ _ _ _ (T36.setTop (mkF m 47 #[.val (.ref a1), .val (.ref a2), .val (.ref a2)] [(.int (0 : Int32))]))
  refine own_go (XS.ifYes X36.here hx rfl (pc0 := 47) (pc' := 54) rfl (hb hby d2_47) rfl ((if0 _ _).trans (teq (by decide : (0 : Int32) = (0 : Int32))).1) (by decide) (by decide) (Steps.refl _)) ?_
  show own_Fin _ _ _ _ (T36.setTop (mkF m 54 #[.val (.ref a1), .val (.ref a2), .val (.ref a2)] []))
  refine own_go (XS.iconst X36.here hx rfl (hb hby d2_54) (Steps.refl _)) ?_
  show own_Fin _ _ _ _ (T36.setTop (mkF m 55 #[.val (.ref a1), .val (.ref a2), .val (.ref a2)] [(.int (0 : Int32))]))
  obtain ⟨fs37, hr37, hrun37, hended37, hW37, hsame37⟩ := X36.leave (v := some (.int (0 : Int32))) (fun h => by rw [Bd.returns] at h; cases h)
  refine own_done (retN X36 hx (t := .boolean) Bd.returns (by simp) (hb hby d2_55) hr37) hrun37 hended37 ⟨_, _, rfl, ?_, ⟨_, rfl⟩, hW37, hsame37.mono (by decide) (by decide)⟩
  show Q2_F Z a1 a2 v1 v2 k1 k2 cs h0 n0 _ T36.heap _
  rw [e36]
  exact ⟨rfl, N36, rfl⟩
theorem ef_3_P (m : MethodId) (x0 : Addr) (x1 : Addr) : entryFrame m #[(.ref x0), (.ref x1)] 3 = mkF m 0 #[.val (.ref x0), .val (.ref x1), .unset] [] := by first | (simp [entryFrame, mkF, argsToLocals, Value.category]; done) | rfl
def Q3_P (Z : State) (a1 : Addr) (a2 : Addr) (k1 : ClassId) (k2 : ClassId) (h0 : Heap) (n0 : Nat) (v : Option Value) (h : Heap) (L : List Loc) : Prop := v = some (.int (0 : Int32)) ∧ Fr n0 L ∧ h = h0
abbrev G3_P (Z : State) (a1 : Addr) (a2 : Addr) (k1 : ClassId) (k2 : ClassId) (h0 : Heap) (n0 : Nat) (s : State) : Outcome → State → Prop := fun o U' => ∃ v L, o = .returned v ∧ Q3_P Z a1 a2 k1 k2 h0 n0 v U'.heap L ∧ FrameEnd s o U' L ({ frames := 0, cells := 0, slots := 0, locals := 0 } : Room).cells ({ frames := 0, cells := 0, slots := 0, locals := 0 } : Room).slots
set_option maxRecDepth 65536 in
set_option maxHeartbeats 40000000 in
theorem rm3_P (l : Launch) (Z : State) (a0 : Array Value) (hw : ∀ d ∈ tables_1, d.before a0 Z = true) (ws : List Jvm.Cond) (a1 : Addr) (a2 : Addr) (k1 : ClassId) (k2 : ClassId) (h0 : Heap) (n0 : Nat) (Z0 : n0 ≤ h0.size) (V_a1 : Arv Z h0 a1 k1 .byte (8 : Int32) [.int (112 : Int32), .int (114 : Int32), .int (105 : Int32), .int (111 : Int32), .int (114 : Int32), .int (105 : Int32), .int (116 : Int32), .int (121 : Int32)] (.int (0 : Int32))) (V_a2 : Arv Z h0 a2 k2 .byte (3 : Int32) [.int (98 : Int32), .int (102 : Int32), .int (115 : Int32)] (.int (0 : Int32))) :
    MetFree l (⟨"java/lang/StringLatin1", "equals", "([B[B)Z"⟩ : MethodName) (head1 (Jvm.Cond.code (⟨"java/lang/StringLatin1", "equals", "([B[B)Z"⟩ : MethodName) jdk_43_method_13_code 3 (some .boolean) :: ws) ({ frames := 0, cells := 0, slots := 0, locals := 0 } : Room)) (fun a U => a = #[(.ref a1), (.ref a2)] ∧ Z.Warmed39 U.vm ∧ U.heap = h0) (fun _ _ _ _ _ => True) (fun _ U o U' => ∃ v L, o = .returned v ∧ Q3_P Z a1 a2 k1 k2 h0 n0 v U'.heap L ∧ FrameEnd U o U' L ({ frames := 0, cells := 0, slots := 0, locals := 0 } : Room).cells ({ frames := 0, cells := 0, slots := 0, locals := 0 } : Room).slots) := by
  refine MetFree.of_bodySF (plainFor_of_name pn_java_lang_StringLatin1) hisR ?_
  intro p e s m args below meth c s₁ Bd hml0 hP hK
  obtain ⟨rfl, hZ, hh⟩ := hP
  have hx := Bd.exec
  have hby := Bd.bytes
  have hml : c.maxLocals = 3 := hml0
  have hown : s.vm.findClass "java/lang/StringLatin1" = some m.cls := findClass_of_methodNamed Bd.named
  have hnm := (name_of_methodNamed Bd.named Bd.method).1
  have X0 : Stand p l e ({ frames := 0, cells := 0, slots := 0, locals := 0 } : Room) s m #[(.ref a1), (.ref a2)] below meth c s₁ [] 0 0 := Stand.of_body Bd
  have e0 : s₁.heap = h0 := by rw [← hh, Bd.state]; rfl
  have es0 : s.heap = h0 := hh
  have N0 := Fr.nil n0
  show own_Fin p e below (G3_P Z a1 a2 k1 k2 h0 n0 s) (s₁.setTop (entryFrame m #[(.ref a1), (.ref a2)] 3))
  rw [ef_3_P m a1 a2]
  refine own_go (XS.aloadN X0.here hx rfl (hb hby d3_0) rfl rfl (Steps.refl _)) ?_
  show own_Fin _ _ _ _ (s₁.setTop (mkF m 1 #[.val (.ref a1), .val (.ref a2), .unset] [(.ref a1)]))
  obtain ⟨cl38, Ar38, qa38, Sa38, Na38, Ha38, Ga38⟩ := id V_a1
  refine own_by (X0.arraylength hx (by rw [e0]; exact Ar38.1) (State.isArrayOf_alike hZ.alike Ar38.2.1) (g := (mkF m 1 #[.val (.ref a1), .val (.ref a2), .unset] [(.ref a1)])) rfl rfl (hb hby d3_1)) ?_
  rw [len_of Sa38 Na38]
  show own_Fin _ _ _ _ (s₁.setTop (mkF m 2 #[.val (.ref a1), .val (.ref a2), .unset] [(.int (8 : Int32))]))
  refine own_go (XS.aloadN X0.here hx rfl (hb hby d3_2) rfl rfl (Steps.refl _)) ?_
  show own_Fin _ _ _ _ (s₁.setTop (mkF m 3 #[.val (.ref a1), .val (.ref a2), .unset] [(.ref a2), (.int (8 : Int32))]))
  obtain ⟨cl39, Ar39, qa39, Sa39, Na39, Ha39, Ga39⟩ := id V_a2
  refine own_by (X0.arraylength hx (by rw [e0]; exact Ar39.1) (State.isArrayOf_alike hZ.alike Ar39.2.1) (g := (mkF m 3 #[.val (.ref a1), .val (.ref a2), .unset] [(.ref a2), (.int (8 : Int32))])) rfl rfl (hb hby d3_3)) ?_
  rw [len_of Sa39 Na39]
  show own_Fin _ _ _ _ (s₁.setTop (mkF m 4 #[.val (.ref a1), .val (.ref a2), .unset] [(.int (3 : Int32)), (.int (8 : Int32))]))
  refine own_go (XS.icmpYes X0.here hx rfl (pc0 := 4) (pc' := 34) rfl (hb hby d3_4) rfl (feq (by decide : ¬ ((8 : Int32) = (3 : Int32)))).2 (by decide) (by decide) (Steps.refl _)) ?_
  show own_Fin _ _ _ _ (s₁.setTop (mkF m 34 #[.val (.ref a1), .val (.ref a2), .unset] []))
  refine own_go (XS.iconst X0.here hx rfl (hb hby d3_34) (Steps.refl _)) ?_
  show own_Fin _ _ _ _ (s₁.setTop (mkF m 35 #[.val (.ref a1), .val (.ref a2), .unset] [(.int (0 : Int32))]))
  obtain ⟨fs40, hr40, hrun40, hended40, hW40, hsame40⟩ := X0.leave (v := some (.int (0 : Int32))) (fun h => by rw [Bd.returns] at h; cases h)
  refine own_done (retN X0 hx (t := .boolean) Bd.returns (by simp) (hb hby d3_35) hr40) hrun40 hended40 ⟨_, _, rfl, ?_, ⟨_, rfl⟩, hW40, hsame40.mono (by decide) (by decide)⟩
  show Q3_P Z a1 a2 k1 k2 h0 n0 _ s₁.heap _
  rw [e0]
  exact ⟨rfl, N0, rfl⟩
theorem ef_2_P (m : MethodId) (x0 : Addr) (x1 : Addr) : entryFrame m #[(.ref x0), (.ref x1)] 3 = mkF m 0 #[.val (.ref x0), .val (.ref x1), .unset] [] := by first | (simp [entryFrame, mkF, argsToLocals, Value.category]; done) | rfl
def Q2_P (Z : State) (a1 : Addr) (a2 : Addr) (v1 : Addr) (v2 : Addr) (k1 : ClassId) (k2 : ClassId) (cs : Int32) (h0 : Heap) (n0 : Nat) (v : Option Value) (h : Heap) (L : List Loc) : Prop := v = some (.int (0 : Int32)) ∧ Fr n0 L ∧ h = h0
abbrev G2_P (Z : State) (a1 : Addr) (a2 : Addr) (v1 : Addr) (v2 : Addr) (k1 : ClassId) (k2 : ClassId) (cs : Int32) (h0 : Heap) (n0 : Nat) (s : State) : Outcome → State → Prop := fun o U' => ∃ v L, o = .returned v ∧ Q2_P Z a1 a2 v1 v2 k1 k2 cs h0 n0 v U'.heap L ∧ FrameEnd s o U' L ({ frames := 1, cells := 0, slots := 0, locals := 16 } : Room).cells ({ frames := 1, cells := 0, slots := 0, locals := 16 } : Room).slots
set_option maxRecDepth 65536 in
set_option maxHeartbeats 40000000 in
theorem rm2_P (l : Launch) (Z : State) (a0 : Array Value) (hw : ∀ d ∈ tables_1, d.before a0 Z = true) (ws : List Jvm.Cond) (a1 : Addr) (a2 : Addr) (v1 : Addr) (v2 : Addr) (k1 : ClassId) (k2 : ClassId) (cs : Int32) (h0 : Heap) (n0 : Nat) (Z0 : n0 ≤ h0.size) (E_a1 : Exa Z h0 a1 "java/lang/String") (F_coder_a1 : Fld Z h0 a1 "java/lang/String" "coder" "B" (.int (0 : Int32))) (F_value_a1 : Fld Z h0 a1 "java/lang/String" "value" "[B" (.ref v1)) (V_v1 : Arv Z h0 v1 k1 .byte (8 : Int32) [.int (112 : Int32), .int (114 : Int32), .int (105 : Int32), .int (111 : Int32), .int (114 : Int32), .int (105 : Int32), .int (116 : Int32), .int (121 : Int32)] (.int (0 : Int32))) (E_a2 : Exa Z h0 a2 "java/lang/String") (F_coder_a2 : Fld Z h0 a2 "java/lang/String" "coder" "B" (.int (0 : Int32))) (F_value_a2 : Fld Z h0 a2 "java/lang/String" "value" "[B" (.ref v2)) (V_v2 : Arv Z h0 v2 k2 .byte (3 : Int32) [.int (98 : Int32), .int (102 : Int32), .int (115 : Int32)] (.int (0 : Int32))) (S_CS : Sta Z h0 "java/lang/String" "COMPACT_STRINGS" "Z" (.int cs)) (hcs : ¬ cs = (0 : Int32)) (ne12 : ¬ a1 = a2) :
    MetFree l (⟨"java/lang/String", "equals", "(Ljava/lang/Object;)Z"⟩ : MethodName) (head1 (Jvm.Cond.code (⟨"java/lang/String", "equals", "(Ljava/lang/Object;)Z"⟩ : MethodName) jdk_42_method_66_code 3 (some .boolean) :: ws) ({ frames := 1, cells := 0, slots := 0, locals := 16 } : Room)) (fun a U => a = #[(.ref a1), (.ref a2)] ∧ Z.Warmed39 U.vm ∧ U.heap = h0) (fun _ _ _ _ _ => True) (fun _ U o U' => ∃ v L, o = .returned v ∧ Q2_P Z a1 a2 v1 v2 k1 k2 cs h0 n0 v U'.heap L ∧ FrameEnd U o U' L ({ frames := 1, cells := 0, slots := 0, locals := 16 } : Room).cells ({ frames := 1, cells := 0, slots := 0, locals := 16 } : Room).slots) := by
  refine MetFree.of_bodySF (plainFor_of_name pn_java_lang_String) hisR ?_
  intro p e s m args below meth c s₁ Bd hml0 hP hK
  obtain ⟨rfl, hZ, hh⟩ := hP
  have hx := Bd.exec
  have hby := Bd.bytes
  have hml : c.maxLocals = 3 := hml0
  have hown : s.vm.findClass "java/lang/String" = some m.cls := findClass_of_methodNamed Bd.named
  have hnm := (name_of_methodNamed Bd.named Bd.method).1
  have X0 : Stand p l e ({ frames := 1, cells := 0, slots := 0, locals := 16 } : Room) s m #[(.ref a1), (.ref a2)] below meth c s₁ [] 0 0 := Stand.of_body Bd
  have e0 : s₁.heap = h0 := by rw [← hh, Bd.state]; rfl
  have es0 : s.heap = h0 := hh
  have N0 := Fr.nil n0
  show own_Fin p e below (G2_P Z a1 a2 v1 v2 k1 k2 cs h0 n0 s) (s₁.setTop (entryFrame m #[(.ref a1), (.ref a2)] 3))
  rw [ef_2_P m a1 a2]
  refine own_go (XS.aloadN X0.here hx rfl (hb hby d2_0) rfl rfl (Steps.refl _)) ?_
  show own_Fin _ _ _ _ (s₁.setTop (mkF m 1 #[.val (.ref a1), .val (.ref a2), .unset] [(.ref a1)]))
  refine own_go (XS.aloadN X0.here hx rfl (hb hby d2_1) rfl rfl (Steps.refl _)) ?_
  show own_Fin _ _ _ _ (s₁.setTop (mkF m 2 #[.val (.ref a1), .val (.ref a2), .unset] [(.ref a2), (.ref a1)]))
  refine own_go (Jvm.RoadKit.acmp (g := (mkF m 2 #[.val (.ref a1), .val (.ref a2), .unset] [(.ref a2), (.ref a1)])) X0 hx rfl rfl rfl (pc0 := 2) (pc' := 7) (same := false) rfl (hb hby d2_2) rfl (decide_eq_false fun q => ne12 (Value.ref.inj q)) (by decide) (by decide) (Steps.refl _)) ?_
  show own_Fin _ _ _ _ (s₁.setTop (mkF m 7 #[.val (.ref a1), .val (.ref a2), .unset] []))
  refine own_go (XS.aloadN X0.here hx rfl (hb hby d2_7) rfl rfl (Steps.refl _)) ?_
  show own_Fin _ _ _ _ (s₁.setTop (mkF m 8 #[.val (.ref a1), .val (.ref a2), .unset] [(.ref a2)]))
  obtain ⟨T41, X41, e41, st41⟩ := instY X0 hx hZ hown (hw _ (List.mem_of_getElem? (i := 24) rfl)) e0 (Ins.self E_a2) (g := (mkF m 8 #[.val (.ref a1), .val (.ref a2), .unset] [(.ref a2)])) rfl rfl (hb hby d2_8)
  refine own_by st41 ?_
  show own_Fin _ _ _ _ (T41.setTop (mkF m 11 #[.val (.ref a1), .val (.ref a2), .unset] [(.int (1 : Int32))]))
  refine own_go (XS.ifNo X41.here hx rfl (hb hby d2_11) rfl ((if0 _ _).trans (feq (by decide : ¬ ((1 : Int32) = (0 : Int32)))).1) (Steps.refl _)) ?_
  show own_Fin _ _ _ _ (T41.setTop (mkF m 14 #[.val (.ref a1), .val (.ref a2), .unset] []))
  refine own_go (XS.aloadN X41.here hx rfl (hb hby d2_14) rfl rfl (Steps.refl _)) ?_
  show own_Fin _ _ _ _ (T41.setTop (mkF m 15 #[.val (.ref a1), .val (.ref a2), .unset] [(.ref a2)]))
  obtain ⟨T42, X42, e42, st42⟩ := castY X41 hx hZ hown (hw _ (List.mem_of_getElem? (i := 24) rfl)) e41 (Ins.self E_a2) (g := (mkF m 15 #[.val (.ref a1), .val (.ref a2), .unset] [(.ref a2)])) rfl rfl (hb hby d2_15)
  refine own_by st42 ?_
  show own_Fin _ _ _ _ (T42.setTop (mkF m 18 #[.val (.ref a1), .val (.ref a2), .unset] [(.ref a2)]))
  refine own_go (XS.astoreN X42.here hx rfl (hb hby d2_18) rfl rfl (l' := #[.val (.ref a1), .val (.ref a2), .val (.ref a2)]) rfl (Steps.refl _)) ?_
  show own_Fin _ _ _ _ (T42.setTop (mkF m 19 #[.val (.ref a1), .val (.ref a2), .val (.ref a2)] []))
  obtain ⟨T43, X43, e43, st43⟩ := getS2 X42 hx hZ hown (host := "") (Or.inl (hw _ (List.mem_of_getElem? (i := 26) rfl))) Via.refl e42 S_CS (g := (mkF m 19 #[.val (.ref a1), .val (.ref a2), .val (.ref a2)] [])) rfl (hb hby d2_19)
  refine own_by st43 ?_
  show own_Fin _ _ _ _ (T43.setTop (mkF m 22 #[.val (.ref a1), .val (.ref a2), .val (.ref a2)] [(.int cs)]))
  refine own_go (XS.ifNo X43.here hx rfl (hb hby d2_22) rfl ((if0 _ _).trans (feq (show ¬ (cs = (0 : Int32)) from hcs)).1) (Steps.refl _)) ?_
  show own_Fin _ _ _ _ (T43.setTop (mkF m 25 #[.val (.ref a1), .val (.ref a2), .val (.ref a2)] []))
  refine own_go (XS.aloadN X43.here hx rfl (hb hby d2_25) rfl rfl (Steps.refl _)) ?_
  show own_Fin _ _ _ _ (T43.setTop (mkF m 26 #[.val (.ref a1), .val (.ref a2), .val (.ref a2)] [(.ref a1)]))
  obtain ⟨T44, X44, e44, st44⟩ := getF X43 hx hZ hown (host := "") (Or.inl (hw _ (List.mem_of_getElem? (i := 27) rfl))) Via.refl e43 F_coder_a1 (g := (mkF m 26 #[.val (.ref a1), .val (.ref a2), .val (.ref a2)] [(.ref a1)])) rfl rfl (hb hby d2_26)
  refine own_by st44 ?_
  show own_Fin _ _ _ _ (T44.setTop (mkF m 29 #[.val (.ref a1), .val (.ref a2), .val (.ref a2)] [(.int (0 : Int32))]))
  refine own_go (XS.aloadN X44.here hx rfl (hb hby d2_29) rfl rfl (Steps.refl _)) ?_
  show own_Fin _ _ _ _ (T44.setTop (mkF m 30 #[.val (.ref a1), .val (.ref a2), .val (.ref a2)] [(.ref a2), (.int (0 : Int32))]))
  obtain ⟨T45, X45, e45, st45⟩ := getF X44 hx hZ hown (host := "") (Or.inl (hw _ (List.mem_of_getElem? (i := 27) rfl))) Via.refl e44 F_coder_a2 (g := (mkF m 30 #[.val (.ref a1), .val (.ref a2), .val (.ref a2)] [(.ref a2), (.int (0 : Int32))])) rfl rfl (hb hby d2_30)
  refine own_by st45 ?_
  show own_Fin _ _ _ _ (T45.setTop (mkF m 33 #[.val (.ref a1), .val (.ref a2), .val (.ref a2)] [(.int (0 : Int32)), (.int (0 : Int32))]))
  refine own_go (XS.icmpNo X45.here hx rfl (hb hby d2_33) rfl (teq (by decide : (0 : Int32) = (0 : Int32))).2 (Steps.refl _)) ?_
  show own_Fin _ _ _ _ (T45.setTop (mkF m 36 #[.val (.ref a1), .val (.ref a2), .val (.ref a2)] []))
  refine own_go (XS.aloadN X45.here hx rfl (hb hby d2_36) rfl rfl (Steps.refl _)) ?_
  show own_Fin _ _ _ _ (T45.setTop (mkF m 37 #[.val (.ref a1), .val (.ref a2), .val (.ref a2)] [(.ref a1)]))
  obtain ⟨T46, X46, e46, st46⟩ := getF X45 hx hZ hown (host := "") (Or.inl (hw _ (List.mem_of_getElem? (i := 28) rfl))) Via.refl e45 F_value_a1 (g := (mkF m 37 #[.val (.ref a1), .val (.ref a2), .val (.ref a2)] [(.ref a1)])) rfl rfl (hb hby d2_37)
  refine own_by st46 ?_
  show own_Fin _ _ _ _ (T46.setTop (mkF m 40 #[.val (.ref a1), .val (.ref a2), .val (.ref a2)] [(.ref v1)]))
  refine own_go (XS.aloadN X46.here hx rfl (hb hby d2_40) rfl rfl (Steps.refl _)) ?_
  show own_Fin _ _ _ _ (T46.setTop (mkF m 41 #[.val (.ref a1), .val (.ref a2), .val (.ref a2)] [(.ref a2), (.ref v1)]))
  obtain ⟨T47, X47, e47, st47⟩ := getF X46 hx hZ hown (host := "") (Or.inl (hw _ (List.mem_of_getElem? (i := 28) rfl))) Via.refl e46 F_value_a2 (g := (mkF m 41 #[.val (.ref a1), .val (.ref a2), .val (.ref a2)] [(.ref a2), (.ref v1)])) rfl rfl (hb hby d2_41)
  refine own_by st47 ?_
  show own_Fin _ _ _ _ (T47.setTop (mkF m 44 #[.val (.ref a1), .val (.ref a2), .val (.ref a2)] [(.ref v2), (.ref v1)]))
  obtain ⟨_, _, ⟨T48, L48, k48, n48⟩, -, X48, ⟨Lc48, hQ48, l48, y48, z48⟩, st48⟩ := Jvm.LawKit.callS X47 hx (y := (⟨"java/lang/StringLatin1", "equals", "([B[B)Z"⟩ : MethodName)) hown (mvT hZ (hw _ (List.mem_of_getElem? (i := 29) rfl))) (mvT hZ (hw _ (List.mem_of_getElem? (i := 30) rfl))) (mvT hZ (hw _ (List.mem_of_getElem? (i := 31) rfl))) (mvT hZ (hw _ (List.mem_of_getElem? (i := 32) rfl))) (by decide) (backOf (W := 0) (rm3_P l Z a0 hw [] v1 v2 k1 k2 h0 n0 Z0 V_v1 V_v2) hZ (hw _ (List.mem_of_getElem? (i := 32) rfl)) (hw _ (List.mem_of_getElem? (i := 31) rfl)) (by decide) (by decide)) (g := (mkF m 44 #[.val (.ref a1), .val (.ref a2), .val (.ref a2)] [(.ref v2), (.ref v1)])) rfl (by rw [hml]; rfl) (argsL := [(.ref v1), (.ref v2)]) (rest := []) (lenOf pd__28__5b_B_5b_B_29_Z rfl) rfl (by show 2 * 0 + _ ≤ _; exact Nat.le_of_eq rfl) (hb hby d2_44) (fun _ _ => ⟨rfl, e47, (by decide : 0 + 0 ≤ _), (by decide : 0 + 0 ≤ _)⟩)
  dsimp only [Pt.U, Pt.locs, Pt.cells, Pt.slots] at X48 l48 y48 z48 st48 hQ48
  subst l48 y48 z48
  obtain ⟨rfl, Nq48, e48⟩ := hQ48
  refine own_by st48 ?_
  have N48 := Fr.app N0 Nq48
  show own_Fin _ _ _ _ (T48.setTop (mkF m 47 #[.val (.ref a1), .val (.ref a2), .val (.ref a2)] [(.int (0 : Int32))]))
  refine own_go (XS.ifYes X48.here hx rfl (pc0 := 47) (pc' := 54) rfl (hb hby d2_47) rfl ((if0 _ _).trans (teq (by decide : (0 : Int32) = (0 : Int32))).1) (by decide) (by decide) (Steps.refl _)) ?_
  show own_Fin _ _ _ _ (T48.setTop (mkF m 54 #[.val (.ref a1), .val (.ref a2), .val (.ref a2)] []))
  refine own_go (XS.iconst X48.here hx rfl (hb hby d2_54) (Steps.refl _)) ?_
  show own_Fin _ _ _ _ (T48.setTop (mkF m 55 #[.val (.ref a1), .val (.ref a2), .val (.ref a2)] [(.int (0 : Int32))]))
  obtain ⟨fs49, hr49, hrun49, hended49, hW49, hsame49⟩ := X48.leave (v := some (.int (0 : Int32))) (fun h => by rw [Bd.returns] at h; cases h)
  refine own_done (retN X48 hx (t := .boolean) Bd.returns (by simp) (hb hby d2_55) hr49) hrun49 hended49 ⟨_, _, rfl, ?_, ⟨_, rfl⟩, hW49, hsame49.mono (by decide) (by decide)⟩
  show Q2_P Z a1 a2 v1 v2 k1 k2 cs h0 n0 _ T48.heap _
  rw [e48]
  exact ⟨rfl, N48, rfl⟩
theorem d4_0 : decode prog_12_method_7_code 0 = .ok (.aload_n 0, 1) := by decide +kernel
theorem d4_1 : decode prog_12_method_7_code 1 = .ok (.getstatic 3, 3) := by decide +kernel
theorem d4_4 : decode prog_12_method_7_code 4 = .ok (.if_acmp .eq 7, 3) := by decide +kernel
theorem d4_7 : decode prog_12_method_7_code 7 = .ok (.iconst 1, 1) := by decide +kernel
theorem d4_8 : decode prog_12_method_7_code 8 = .ok (.goto 4, 3) := by decide +kernel
theorem d4_11 : decode prog_12_method_7_code 11 = .ok (.iconst 0, 1) := by decide +kernel
theorem d4_12 : decode prog_12_method_7_code 12 = .ok (.ireturn, 1) := by decide +kernel
theorem ef_4_s (m : MethodId) (x0 : Addr) : entryFrame m #[(.ref x0)] 1 = mkF m 0 #[.val (.ref x0)] [] := by first | (simp [entryFrame, mkF, argsToLocals, Value.category]; done) | rfl
def Q4_s (Z : State) (a1 : Addr) (aB : Addr) (h0 : Heap) (n0 : Nat) (v : Option Value) (h : Heap) (L : List Loc) : Prop := v = some (.int (0 : Int32)) ∧ Fr n0 L ∧ h = h0
abbrev G4_s (Z : State) (a1 : Addr) (aB : Addr) (h0 : Heap) (n0 : Nat) (s : State) : Outcome → State → Prop := fun o U' => ∃ v L, o = .returned v ∧ Q4_s Z a1 aB h0 n0 v U'.heap L ∧ FrameEnd s o U' L ({ frames := 0, cells := 0, slots := 0, locals := 0 } : Room).cells ({ frames := 0, cells := 0, slots := 0, locals := 0 } : Room).slots
set_option maxRecDepth 65536 in
set_option maxHeartbeats 40000000 in
theorem rm4_s (l : Launch) (Z : State) (a0 : Array Value) (hw : ∀ d ∈ tables_1, d.before a0 Z = true) (ws : List Jvm.Cond) (a1 : Addr) (aB : Addr) (h0 : Heap) (n0 : Nat) (Z0 : n0 ≤ h0.size) (S_B : Sta Z h0 "com/example/pryority/pryority/Strategy" "BFS" "Lcom/example/pryority/pryority/Strategy;" (.ref a1)) :
    MetFree l (⟨"com/example/pryority/pryority/Strategy", "hasPriorities", "()Z"⟩ : MethodName) (head1 (Jvm.Cond.code (⟨"com/example/pryority/pryority/Strategy", "hasPriorities", "()Z"⟩ : MethodName) prog_12_method_7_code 1 (some .boolean) :: ws) ({ frames := 0, cells := 0, slots := 0, locals := 0 } : Room)) (fun a U => a = #[(.ref a1)] ∧ Z.Warmed39 U.vm ∧ U.heap = h0) (fun _ _ _ _ _ => True) (fun _ U o U' => ∃ v L, o = .returned v ∧ Q4_s Z a1 aB h0 n0 v U'.heap L ∧ FrameEnd U o U' L ({ frames := 0, cells := 0, slots := 0, locals := 0 } : Room).cells ({ frames := 0, cells := 0, slots := 0, locals := 0 } : Room).slots) := by
  refine MetFree.of_bodySF (plainFor_of_name pn_com_example_pryority_pryority_Strategy) hisR ?_
  intro p e s m args below meth c s₁ Bd hml0 hP hK
  obtain ⟨rfl, hZ, hh⟩ := hP
  have hx := Bd.exec
  have hby := Bd.bytes
  have hml : c.maxLocals = 1 := hml0
  have hown : s.vm.findClass "com/example/pryority/pryority/Strategy" = some m.cls := findClass_of_methodNamed Bd.named
  have hnm := (name_of_methodNamed Bd.named Bd.method).1
  have X0 : Stand p l e ({ frames := 0, cells := 0, slots := 0, locals := 0 } : Room) s m #[(.ref a1)] below meth c s₁ [] 0 0 := Stand.of_body Bd
  have e0 : s₁.heap = h0 := by rw [← hh, Bd.state]; rfl
  have es0 : s.heap = h0 := hh
  have N0 := Fr.nil n0
  show own_Fin p e below (G4_s Z a1 aB h0 n0 s) (s₁.setTop (entryFrame m #[(.ref a1)] 1))
  rw [ef_4_s m a1]
  refine own_go (XS.aloadN X0.here hx rfl (hb hby d4_0) rfl rfl (Steps.refl _)) ?_
  show own_Fin _ _ _ _ (s₁.setTop (mkF m 1 #[.val (.ref a1)] [(.ref a1)]))
  obtain ⟨T50, X50, e50, st50⟩ := getS2 X0 hx hZ hown (host := "") (Or.inl (hw _ (List.mem_of_getElem? (i := 38) rfl))) Via.refl e0 S_B (g := (mkF m 1 #[.val (.ref a1)] [(.ref a1)])) rfl (hb hby d4_1)
  refine own_by st50 ?_
  show own_Fin _ _ _ _ (T50.setTop (mkF m 4 #[.val (.ref a1)] [(.ref a1), (.ref a1)]))
  refine own_go (Jvm.RoadKit.acmp (g := (mkF m 4 #[.val (.ref a1)] [(.ref a1), (.ref a1)])) X50 hx rfl rfl rfl (pc0 := 4) (pc' := 11) (same := true) rfl (hb hby d4_4) rfl (decide_eq_true rfl) (by decide) (by decide) (Steps.refl _)) ?_
  show own_Fin _ _ _ _ (T50.setTop (mkF m 11 #[.val (.ref a1)] []))
  refine own_go (XS.iconst X50.here hx rfl (hb hby d4_11) (Steps.refl _)) ?_
  show own_Fin _ _ _ _ (T50.setTop (mkF m 12 #[.val (.ref a1)] [(.int (0 : Int32))]))
  obtain ⟨fs51, hr51, hrun51, hended51, hW51, hsame51⟩ := X50.leave (v := some (.int (0 : Int32))) (fun h => by rw [Bd.returns] at h; cases h)
  refine own_done (retN X50 hx (t := .boolean) Bd.returns (by simp) (hb hby d4_12) hr51) hrun51 hended51 ⟨_, _, rfl, ?_, ⟨_, rfl⟩, hW51, hsame51.mono (by decide) (by decide)⟩
  show Q4_s Z a1 aB h0 n0 _ T50.heap _
  rw [e50]
  exact ⟨rfl, N0, rfl⟩
theorem ef_4_d (m : MethodId) (x0 : Addr) : entryFrame m #[(.ref x0)] 1 = mkF m 0 #[.val (.ref x0)] [] := by first | (simp [entryFrame, mkF, argsToLocals, Value.category]; done) | rfl
def Q4_d (Z : State) (a1 : Addr) (aB : Addr) (h0 : Heap) (n0 : Nat) (v : Option Value) (h : Heap) (L : List Loc) : Prop := v = some (.int (1 : Int32)) ∧ Fr n0 L ∧ h = h0
abbrev G4_d (Z : State) (a1 : Addr) (aB : Addr) (h0 : Heap) (n0 : Nat) (s : State) : Outcome → State → Prop := fun o U' => ∃ v L, o = .returned v ∧ Q4_d Z a1 aB h0 n0 v U'.heap L ∧ FrameEnd s o U' L ({ frames := 0, cells := 0, slots := 0, locals := 0 } : Room).cells ({ frames := 0, cells := 0, slots := 0, locals := 0 } : Room).slots
set_option maxRecDepth 65536 in
set_option maxHeartbeats 40000000 in
theorem rm4_d (l : Launch) (Z : State) (a0 : Array Value) (hw : ∀ d ∈ tables_1, d.before a0 Z = true) (ws : List Jvm.Cond) (a1 : Addr) (aB : Addr) (h0 : Heap) (n0 : Nat) (Z0 : n0 ≤ h0.size) (S_B : Sta Z h0 "com/example/pryority/pryority/Strategy" "BFS" "Lcom/example/pryority/pryority/Strategy;" (.ref aB)) (ne : ¬ a1 = aB) :
    MetFree l (⟨"com/example/pryority/pryority/Strategy", "hasPriorities", "()Z"⟩ : MethodName) (head1 (Jvm.Cond.code (⟨"com/example/pryority/pryority/Strategy", "hasPriorities", "()Z"⟩ : MethodName) prog_12_method_7_code 1 (some .boolean) :: ws) ({ frames := 0, cells := 0, slots := 0, locals := 0 } : Room)) (fun a U => a = #[(.ref a1)] ∧ Z.Warmed39 U.vm ∧ U.heap = h0) (fun _ _ _ _ _ => True) (fun _ U o U' => ∃ v L, o = .returned v ∧ Q4_d Z a1 aB h0 n0 v U'.heap L ∧ FrameEnd U o U' L ({ frames := 0, cells := 0, slots := 0, locals := 0 } : Room).cells ({ frames := 0, cells := 0, slots := 0, locals := 0 } : Room).slots) := by
  refine MetFree.of_bodySF (plainFor_of_name pn_com_example_pryority_pryority_Strategy) hisR ?_
  intro p e s m args below meth c s₁ Bd hml0 hP hK
  obtain ⟨rfl, hZ, hh⟩ := hP
  have hx := Bd.exec
  have hby := Bd.bytes
  have hml : c.maxLocals = 1 := hml0
  have hown : s.vm.findClass "com/example/pryority/pryority/Strategy" = some m.cls := findClass_of_methodNamed Bd.named
  have hnm := (name_of_methodNamed Bd.named Bd.method).1
  have X0 : Stand p l e ({ frames := 0, cells := 0, slots := 0, locals := 0 } : Room) s m #[(.ref a1)] below meth c s₁ [] 0 0 := Stand.of_body Bd
  have e0 : s₁.heap = h0 := by rw [← hh, Bd.state]; rfl
  have es0 : s.heap = h0 := hh
  have N0 := Fr.nil n0
  show own_Fin p e below (G4_d Z a1 aB h0 n0 s) (s₁.setTop (entryFrame m #[(.ref a1)] 1))
  rw [ef_4_d m a1]
  refine own_go (XS.aloadN X0.here hx rfl (hb hby d4_0) rfl rfl (Steps.refl _)) ?_
  show own_Fin _ _ _ _ (s₁.setTop (mkF m 1 #[.val (.ref a1)] [(.ref a1)]))
  obtain ⟨T52, X52, e52, st52⟩ := getS2 X0 hx hZ hown (host := "") (Or.inl (hw _ (List.mem_of_getElem? (i := 38) rfl))) Via.refl e0 S_B (g := (mkF m 1 #[.val (.ref a1)] [(.ref a1)])) rfl (hb hby d4_1)
  refine own_by st52 ?_
  show own_Fin _ _ _ _ (T52.setTop (mkF m 4 #[.val (.ref a1)] [(.ref aB), (.ref a1)]))
  refine own_go (Jvm.RoadKit.acmp (g := (mkF m 4 #[.val (.ref a1)] [(.ref aB), (.ref a1)])) X52 hx rfl rfl rfl (pc0 := 4) (pc' := 7) (same := false) rfl (hb hby d4_4) rfl (decide_eq_false fun q => ne (Value.ref.inj q)) (by decide) (by decide) (Steps.refl _)) ?_
  show own_Fin _ _ _ _ (T52.setTop (mkF m 7 #[.val (.ref a1)] []))
  refine own_go (XS.iconst X52.here hx rfl (hb hby d4_7) (Steps.refl _)) ?_
  show own_Fin _ _ _ _ (T52.setTop (mkF m 8 #[.val (.ref a1)] [(.int (1 : Int32))]))
  refine own_go (XS.goto X52.here hx rfl (pc0 := 8) (pc' := 12) rfl (hb hby d4_8) (by decide) (by decide) (Steps.refl _)) ?_
  show own_Fin _ _ _ _ (T52.setTop (mkF m 12 #[.val (.ref a1)] [(.int (1 : Int32))]))
  obtain ⟨fs53, hr53, hrun53, hended53, hW53, hsame53⟩ := X52.leave (v := some (.int (1 : Int32))) (fun h => by rw [Bd.returns] at h; cases h)
  refine own_done (retN X52 hx (t := .boolean) Bd.returns (by simp) (hb hby d4_12) hr53) hrun53 hended53 ⟨_, _, rfl, ?_, ⟨_, rfl⟩, hW53, hsame53.mono (by decide) (by decide)⟩
  show Q4_d Z a1 aB h0 n0 _ T52.heap _
  rw [e52]
  exact ⟨rfl, N0, rfl⟩
theorem pn_com_example_pryority_pryority_StrategyHasPrioritiesPinLaw : plainName "com/example/pryority/pryority/StrategyHasPrioritiesPinLaw" = true := by first | (simp [plainName, overriddenIn]; done) | decide +kernel
theorem ef_0 (m : MethodId) (x0 : Int32) : entryFrame m #[(.int x0)] maxLocals = mkF m 0 #[.val (.int x0), .unset, .unset, .unset, .unset, .unset] [] := by first | (simp [entryFrame, mkF, argsToLocals, Value.category, maxLocals]; done) | rfl
def Q0 (Z : State) (p1 : Int32) (aB : Addr) (lB : Addr) (vB : Addr) (kB : ClassId) (aF : Addr) (lF : Addr) (vF : Addr) (kF : ClassId) (aP : Addr) (lP : Addr) (vP : Addr) (kP : ClassId) (cs : Int32) (h0 : Heap) (n0 : Nat) (v : Option Value) (h : Heap) (L : List Loc) : Prop := v = some (.int 1) ∧ Fr n0 L
abbrev G0 (Z : State) (p1 : Int32) (aB : Addr) (lB : Addr) (vB : Addr) (kB : ClassId) (aF : Addr) (lF : Addr) (vF : Addr) (kF : ClassId) (aP : Addr) (lP : Addr) (vP : Addr) (kP : ClassId) (cs : Int32) (h0 : Heap) (n0 : Nat) (s : State) : Outcome → State → Prop := fun o U' => ∃ v L, o = .returned v ∧ Q0 Z p1 aB lB vB kB aF lF vF kF aP lP vP kP cs h0 n0 v U'.heap L ∧ ReturnedEndW s o U' L 8 1088
theorem pd__28__29_Ljava_2f_lang_2f_String_3b_ : parseMethodDescriptor "()Ljava/lang/String;" = some ⟨[], some (.object "java/lang/String")⟩ := by decide +kernel
theorem pd__28_Ljava_2f_lang_2f_Object_3b__29_Z : parseMethodDescriptor "(Ljava/lang/Object;)Z" = some ⟨[(.object "java/lang/Object")], some .boolean⟩ := by decide +kernel
theorem pd__28__29_Z : parseMethodDescriptor "()Z" = some ⟨[], some .boolean⟩ := by decide +kernel
set_option maxRecDepth 65536 in
set_option maxHeartbeats 40000000 in
theorem rm0 (l : Launch) (Z : State) (a0 : Array Value) (hw : ∀ d ∈ tables_1, d.before a0 Z = true) (ws : List Jvm.Cond) (p1 : Int32) (aB : Addr) (lB : Addr) (vB : Addr) (kB : ClassId) (aF : Addr) (lF : Addr) (vF : Addr) (kF : ClassId) (aP : Addr) (lP : Addr) (vP : Addr) (kP : ClassId) (cs : Int32) (h0 : Heap) (n0 : Nat) (Z0 : n0 ≤ h0.size) (S_B : Sta Z h0 "com/example/pryority/pryority/Strategy" "BFS" "Lcom/example/pryority/pryority/Strategy;" (.ref aB)) (E_aB : Exa Z h0 aB "com/example/pryority/pryority/Strategy") (F_label_aB : Fld Z h0 aB "com/example/pryority/pryority/Strategy" "label" "Ljava/lang/String;" (.ref lB)) (E_lB : Exa Z h0 lB "java/lang/String") (F_coder_lB : Fld Z h0 lB "java/lang/String" "coder" "B" (.int (0 : Int32))) (F_value_lB : Fld Z h0 lB "java/lang/String" "value" "[B" (.ref vB)) (V_vB : Arv Z h0 vB kB .byte (3 : Int32) [.int (98 : Int32), .int (102 : Int32), .int (115 : Int32)] (.int (0 : Int32))) (S_F : Sta Z h0 "com/example/pryority/pryority/Strategy" "BEST_FIRST" "Lcom/example/pryority/pryority/Strategy;" (.ref aF)) (E_aF : Exa Z h0 aF "com/example/pryority/pryority/Strategy") (F_label_aF : Fld Z h0 aF "com/example/pryority/pryority/Strategy" "label" "Ljava/lang/String;" (.ref lF)) (E_lF : Exa Z h0 lF "java/lang/String") (F_coder_lF : Fld Z h0 lF "java/lang/String" "coder" "B" (.int (0 : Int32))) (F_value_lF : Fld Z h0 lF "java/lang/String" "value" "[B" (.ref vF)) (V_vF : Arv Z h0 vF kF .byte (10 : Int32) [.int (98 : Int32), .int (101 : Int32), .int (115 : Int32), .int (116 : Int32), .int (45 : Int32), .int (102 : Int32), .int (105 : Int32), .int (114 : Int32), .int (115 : Int32), .int (116 : Int32)] (.int (0 : Int32))) (S_P : Sta Z h0 "com/example/pryority/pryority/Strategy" "PRIORITY" "Lcom/example/pryority/pryority/Strategy;" (.ref aP)) (E_aP : Exa Z h0 aP "com/example/pryority/pryority/Strategy") (F_label_aP : Fld Z h0 aP "com/example/pryority/pryority/Strategy" "label" "Ljava/lang/String;" (.ref lP)) (E_lP : Exa Z h0 lP "java/lang/String") (F_coder_lP : Fld Z h0 lP "java/lang/String" "coder" "B" (.int (0 : Int32))) (F_value_lP : Fld Z h0 lP "java/lang/String" "value" "[B" (.ref vP)) (V_vP : Arv Z h0 vP kP .byte (8 : Int32) [.int (112 : Int32), .int (114 : Int32), .int (105 : Int32), .int (111 : Int32), .int (114 : Int32), .int (105 : Int32), .int (116 : Int32), .int (121 : Int32)] (.int (0 : Int32))) (S_CS : Sta Z h0 "java/lang/String" "COMPACT_STRINGS" "Z" (.int cs)) (hcs : ¬ cs = (0 : Int32)) (neF : ¬ aF = aB) (neP : ¬ aP = aB) (hn0 : n0 = h0.size) (hh1 : Jvm.Lit.constHeld Z "com/example/pryority/pryority/StrategyHasPrioritiesPinLaw" 24) (hcw : Jvm.Lit.compactW.before a0 Z = true) :
    MetFree l x (head1 (Jvm.Cond.code x code maxLocals ret :: ws) room_1) (fun a U => a = #[(.int p1)] ∧ (Z.Warmed39 U.vm ∧ Z = U) ∧ U.heap = h0) (fun _ _ _ _ _ => True) (fun _ U o U' => ∃ v L, o = .returned v ∧ Q0 Z p1 aB lB vB kB aF lF vF kF aP lP vP kP cs h0 n0 v U'.heap L ∧ ReturnedEndW U o U' L 8 1088) := by
  refine MetFree.of_bodySF (plainFor_of_name pn_com_example_pryority_pryority_StrategyHasPrioritiesPinLaw) hisR ?_
  intro p e s m args below meth c s₁ Bd hml0 hP hK
  obtain ⟨rfl, ⟨hZ, hZs⟩, hh⟩ := hP
  have hx := Bd.exec
  have hby := Bd.bytes
  have hml : c.maxLocals = 6 := hml0
  have hown : s.vm.findClass "com/example/pryority/pryority/StrategyHasPrioritiesPinLaw" = some m.cls := findClass_of_methodNamed Bd.named
  have hnm := (name_of_methodNamed Bd.named Bd.method).1
  have X0 : Stand p l e room_1 s m #[(.int p1)] below meth c s₁ [] 0 0 := Stand.of_body Bd
  have e0 : s₁.heap = h0 := by rw [← hh, Bd.state]; rfl
  have es0 : s.heap = h0 := hh
  have N0 := Fr.nil n0
  show own_Fin p e below (G0 Z p1 aB lB vB kB aF lF vF kF aP lP vP kP cs h0 n0 s) (s₁.setTop (entryFrame m #[(.int p1)] maxLocals))
  rw [ef_0 m p1]
  have X0w : Stand p l e room_1 (s.setVm s.vm) m #[(.int p1)] below meth c s₁ [] 0 0 := X0
  have hS0 : s.Since s.vm 0 := (State.WarmedH.refl s).since 0
  have hk0 : 0 ≤ h0.size := Nat.zero_le _
  have IB0 : IB Z s.vm [] := hZs ▸ IB.start
  have wS : ∀ a ∈ Bundle.stringAtoms, a.before a0 Z = true := by
    intro d hd
    simp only [Bundle.stringAtoms, List.mem_cons, List.not_mem_nil, or_false] at hd
    rcases hd with rfl | rfl | rfl | rfl | rfl | rfl | rfl
    · exact (hw _ (List.mem_of_getElem? (i := 12) rfl))
    · exact (hw _ (List.mem_of_getElem? (i := 13) rfl))
    · exact (hw _ (List.mem_of_getElem? (i := 14) rfl))
    · exact (hw _ (List.mem_of_getElem? (i := 15) rfl))
    · exact (hw _ (List.mem_of_getElem? (i := 16) rfl))
    · exact (hw _ (List.mem_of_getElem? (i := 17) rfl))
    · exact (hw _ (List.mem_of_getElem? (i := 18) rfl))
  refine own_go (XS.iloadN X0w.here hx rfl (hb hby at_0) rfl (Steps.refl _)) ?_
  show own_Fin _ _ _ _ (s₁.setTop (mkF m 1 #[.val (.int p1), .unset, .unset, .unset, .unset, .unset] [(.int p1)]))
  refine own_by (X0w.ldcInt hx hown (mvT hZ (hw _ (List.mem_of_getElem? (i := 0) rfl))) (g := (mkF m 1 #[.val (.int p1), .unset, .unset, .unset, .unset, .unset] [(.int p1)])) rfl (hb hby at_1)) ?_
  show own_Fin _ _ _ _ (s₁.setTop (mkF m 3 #[.val (.int p1), .unset, .unset, .unset, .unset, .unset] [(.int (2147483647 : Int32)), (.int p1)]))
  refine own_go (XS.iand X0w.here hx rfl (hb hby at_3) rfl (Steps.refl _)) ?_
  show own_Fin _ _ _ _ (s₁.setTop (mkF m 4 #[.val (.int p1), .unset, .unset, .unset, .unset, .unset] [(.int (p1 &&& (2147483647 : Int32)))]))
  refine own_go (XS.iconst X0w.here hx rfl (hb hby at_4) (Steps.refl _)) ?_
  show own_Fin _ _ _ _ (s₁.setTop (mkF m 5 #[.val (.int p1), .unset, .unset, .unset, .unset, .unset] [(.int (3 : Int32)), (.int (p1 &&& (2147483647 : Int32)))]))
  refine own_go (iremM X0w hx rfl (hb hby at_5) rfl (by decide) (Steps.refl _)) ?_
  show own_Fin _ _ _ _ (s₁.setTop (mkF m 6 #[.val (.int p1), .unset, .unset, .unset, .unset, .unset] [(.int ((p1 &&& (2147483647 : Int32)) % (3 : Int32)))]))
  refine own_go (XS.istoreN X0w.here hx rfl (hb hby at_6) rfl (l' := #[.val (.int p1), .val (.int ((p1 &&& (2147483647 : Int32)) % (3 : Int32))), .unset, .unset, .unset, .unset]) rfl (Steps.refl _)) ?_
  show own_Fin _ _ _ _ (s₁.setTop (mkF m 7 #[.val (.int p1), .val (.int ((p1 &&& (2147483647 : Int32)) % (3 : Int32))), .unset, .unset, .unset, .unset] []))
  generalize hz_v1_54 : ((p1 &&& (2147483647 : Int32)) % (3 : Int32)) = v1_54
  have hcs55 : v1_54 = (0 : Int32) ∨ v1_54 = (1 : Int32) ∨ v1_54 = (2 : Int32) := hz_v1_54 ▸ own_k3 p1
  rcases hcs55 with rfl | rfl | rfl
  · show own_Fin _ _ _ _ (s₁.setTop (mkF m 7 #[.val (.int p1), .val (.int (0 : Int32)), .unset, .unset, .unset, .unset] []))
    refine own_go (XS.iloadN X0w.here hx rfl (hb hby at_7) rfl (Steps.refl _)) ?_
    show own_Fin _ _ _ _ (s₁.setTop (mkF m 8 #[.val (.int p1), .val (.int (0 : Int32)), .unset, .unset, .unset, .unset] [(.int (0 : Int32))]))
    refine own_go (XS.ifNo X0w.here hx rfl (hb hby at_8) rfl ((if0 _ _).trans (teq (by decide : (0 : Int32) = (0 : Int32))).2) (Steps.refl _)) ?_
    show own_Fin _ _ _ _ (s₁.setTop (mkF m 11 #[.val (.int p1), .val (.int (0 : Int32)), .unset, .unset, .unset, .unset] []))
    obtain ⟨T56, X56, e56, st56⟩ := getS2 X0w hx hZ hown (host := "") (Or.inl (hw _ (List.mem_of_getElem? (i := 1) rfl))) Via.refl e0 S_B (g := (mkF m 11 #[.val (.int p1), .val (.int (0 : Int32)), .unset, .unset, .unset, .unset] [])) rfl (hb hby at_11)
    refine own_by st56 ?_
    show own_Fin _ _ _ _ (T56.setTop (mkF m 14 #[.val (.int p1), .val (.int (0 : Int32)), .unset, .unset, .unset, .unset] [(.ref aB)]))
    refine own_go (XS.astoreN X56.here hx rfl (hb hby at_14) rfl rfl (l' := #[.val (.int p1), .val (.int (0 : Int32)), .val (.ref aB), .unset, .unset, .unset]) rfl (Steps.refl _)) ?_
    show own_Fin _ _ _ _ (T56.setTop (mkF m 15 #[.val (.int p1), .val (.int (0 : Int32)), .val (.ref aB), .unset, .unset, .unset] []))
    refine own_go (XS.goto X56.here hx rfl (pc0 := 15) (pc' := 34) rfl (hb hby at_15) (by decide) (by decide) (Steps.refl _)) ?_
    show own_Fin _ _ _ _ (T56.setTop (mkF m 34 #[.val (.int p1), .val (.int (0 : Int32)), .val (.ref aB), .unset, .unset, .unset] []))
    refine own_go (XS.iloadN X56.here hx rfl (hb hby at_34) rfl (Steps.refl _)) ?_
    show own_Fin _ _ _ _ (T56.setTop (mkF m 35 #[.val (.int p1), .val (.int (0 : Int32)), .val (.ref aB), .unset, .unset, .unset] [(.int (0 : Int32))]))
    refine own_go (XS.ifYes X56.here hx rfl (pc0 := 35) (pc' := 42) rfl (hb hby at_35) rfl ((if0 _ _).trans (teq (by decide : (0 : Int32) = (0 : Int32))).1) (by decide) (by decide) (Steps.refl _)) ?_
    show own_Fin _ _ _ _ (T56.setTop (mkF m 42 #[.val (.int p1), .val (.int (0 : Int32)), .val (.ref aB), .unset, .unset, .unset] []))
    refine own_go (XS.iconst X56.here hx rfl (hb hby at_42) (Steps.refl _)) ?_
    show own_Fin _ _ _ _ (T56.setTop (mkF m 43 #[.val (.int p1), .val (.int (0 : Int32)), .val (.ref aB), .unset, .unset, .unset] [(.int (0 : Int32))]))
    refine own_go (XS.istoreN X56.here hx rfl (hb hby at_43) rfl (l' := #[.val (.int p1), .val (.int (0 : Int32)), .val (.ref aB), .val (.int (0 : Int32)), .unset, .unset]) rfl (Steps.refl _)) ?_
    show own_Fin _ _ _ _ (T56.setTop (mkF m 44 #[.val (.int p1), .val (.int (0 : Int32)), .val (.ref aB), .val (.int (0 : Int32)), .unset, .unset] []))
    refine own_go (XS.aloadN X56.here hx rfl (hb hby at_44) rfl rfl (Steps.refl _)) ?_
    show own_Fin _ _ _ _ (T56.setTop (mkF m 45 #[.val (.int p1), .val (.int (0 : Int32)), .val (.ref aB), .val (.int (0 : Int32)), .unset, .unset] [(.ref aB)]))
    obtain ⟨cq57, kq57, q57a, q57b, q57c⟩ := isOf hZ e56 E_aB
    obtain ⟨_, _, ⟨T57, L57, k57, n57⟩, -, X57, ⟨Lc57, hQ57, l57, y57, z57⟩, st57⟩ := X56.virtualBack hx (y := (⟨"com/example/pryority/pryority/Strategy", "label", "()Ljava/lang/String;"⟩ : MethodName)) (z := (⟨"com/example/pryority/pryority/Strategy", "label", "()Ljava/lang/String;"⟩ : MethodName)) hown (mvT hZ (hw _ (List.mem_of_getElem? (i := 4) rfl))) (mvT hZ (hw _ (List.mem_of_getElem? (i := 5) rfl))) (notFace_of_selects (args := #[]) (mvT hZ (hw _ (List.mem_of_getElem? (i := 7) rfl)))) (mvT hZ (hw _ (List.mem_of_getElem? (i := 7) rfl))) (mvT hZ (hw _ (List.mem_of_getElem? (i := 6) rfl))) (by decide) (backOf (W := 0) (rm1 l Z a0 hw [] aB lB h0 n0 Z0 F_label_aB) hZ (hw _ (List.mem_of_getElem? (i := 8) rfl)) (hw _ (List.mem_of_getElem? (i := 2) rfl)) (by decide) (by decide)) q57a q57c (g := (mkF m 45 #[.val (.int p1), .val (.int (0 : Int32)), .val (.ref aB), .val (.int (0 : Int32)), .unset, .unset] [(.ref aB)])) rfl (by rw [hml]; rfl) (Steps.refl _) (argsL := []) (rest := []) (lenOf pd__28__29_Ljava_2f_lang_2f_String_3b_ rfl) rfl (by show 2 * 0 + _ ≤ _; exact Nat.le_of_eq rfl) (hb hby at_45) (fun _ _ => ⟨rfl, e56, (by decide : 0 + 0 ≤ _), (by decide : 0 + 0 ≤ _)⟩)
    dsimp only [Pt.U, Pt.locs, Pt.cells, Pt.slots] at X57 l57 y57 z57 st57 hQ57
    subst l57 y57 z57
    obtain ⟨rfl, Nq57, e57⟩ := hQ57
    refine own_go st57 ?_
    have N57 := Fr.app N0 Nq57
    show own_Fin _ _ _ _ (T57.setTop (mkF m 48 #[.val (.int p1), .val (.int (0 : Int32)), .val (.ref aB), .val (.int (0 : Int32)), .unset, .unset] [(.ref lB)]))
    obtain ⟨a58, T58, h58, k58, b58, kc58, X58, e58, E58, hS58, hk58, hZ58, hown58, Ex58, Fc58, Fv58, Va58, la58, lb58, IB58, st58⟩ := ldcSV (s := s) (vm0 := s.vm) X57 hx hZ hown (hw _ (List.mem_of_getElem? (i := 11) rfl)) wS e57 hS0 hk0 (show Fr s.heap.size _ by rw [es0, ← hn0]; exact N57) (fun b cl q => by rw [← hZs]; exact q) IB0 (by decide) hh1 hcw (vs := [.int (98 : Int32), .int (102 : Int32), .int (115 : Int32)]) (z := (3 : Int32)) ⟨by decide, by decide⟩ (by decide) (by decide) (g := (mkF m 48 #[.val (.int p1), .val (.int (0 : Int32)), .val (.ref aB), .val (.int (0 : Int32)), .unset, .unset] [(.ref lB)])) rfl (hb hby at_48) (n := 12) (by decide) (by decide) (by decide) (by decide)
    refine own_by st58 ?_
    have S_B_58 := S_B.ext E58
    have E_aB_58 := E_aB.ext E58
    have F_label_aB_58 := F_label_aB.ext E58
    have E_lB_58 := E_lB.ext E58
    have F_coder_lB_58 := F_coder_lB.ext E58
    have F_value_lB_58 := F_value_lB.ext E58
    have V_vB_58 := V_vB.ext E58
    have S_F_58 := S_F.ext E58
    have E_aF_58 := E_aF.ext E58
    have F_label_aF_58 := F_label_aF.ext E58
    have E_lF_58 := E_lF.ext E58
    have F_coder_lF_58 := F_coder_lF.ext E58
    have F_value_lF_58 := F_value_lF.ext E58
    have V_vF_58 := V_vF.ext E58
    have S_P_58 := S_P.ext E58
    have E_aP_58 := E_aP.ext E58
    have F_label_aP_58 := F_label_aP.ext E58
    have E_lP_58 := E_lP.ext E58
    have F_coder_lP_58 := F_coder_lP.ext E58
    have F_value_lP_58 := F_value_lP.ext E58
    have V_vP_58 := V_vP.ext E58
    have S_CS_58 := S_CS.ext E58
    have Z58 : n0 ≤ h58.size := Nat.le_trans Z0 E58.1
    show own_Fin _ _ _ _ (T58.setTop (mkF m 50 #[.val (.int p1), .val (.int (0 : Int32)), .val (.ref aB), .val (.int (0 : Int32)), .unset, .unset] [(.ref a58), (.ref lB)]))
    obtain ⟨cq59, kq59, q59a, q59b, q59c⟩ := isOf hZ58 e58 E_lB_58
    obtain ⟨_, _, ⟨T59, L59, k59, n59⟩, -, X59, ⟨Lc59, hQ59, l59, y59, z59⟩, st59⟩ := X58.virtualBack hx (y := (⟨"java/lang/String", "equals", "(Ljava/lang/Object;)Z"⟩ : MethodName)) (z := (⟨"java/lang/String", "equals", "(Ljava/lang/Object;)Z"⟩ : MethodName)) hown58 (mvT hZ58 (hw _ (List.mem_of_getElem? (i := 19) rfl))) (mvT hZ58 (hw _ (List.mem_of_getElem? (i := 20) rfl))) (notFace_of_selects (args := #[]) (mvT hZ58 (hw _ (List.mem_of_getElem? (i := 22) rfl)))) (mvT hZ58 (hw _ (List.mem_of_getElem? (i := 22) rfl))) (mvT hZ58 (hw _ (List.mem_of_getElem? (i := 21) rfl))) (by decide) (backOf (W := 0) (rm2_B l Z a0 hw [] lB a58 vB b58 kB kc58 cs h58 n0 Z58 E_lB_58 F_coder_lB_58 F_value_lB_58 V_vB_58 Ex58 Fc58 Fv58 Va58 S_CS_58 hcs trivial) hZ58 (hw _ (List.mem_of_getElem? (i := 23) rfl)) (hw _ (List.mem_of_getElem? (i := 12) rfl)) (by decide) (by decide)) q59a q59c (g := (mkF m 50 #[.val (.int p1), .val (.int (0 : Int32)), .val (.ref aB), .val (.int (0 : Int32)), .unset, .unset] [(.ref a58), (.ref lB)])) rfl (by rw [hml]; rfl) (Steps.refl _) (argsL := [(.ref a58)]) (rest := []) (lenOf pd__28_Ljava_2f_lang_2f_Object_3b__29_Z rfl) rfl (by show 2 * 0 + _ ≤ _; exact Nat.le_of_eq rfl) (hb hby at_50) (fun _ _ => ⟨rfl, e58, (by decide : 2 + 0 ≤ _), (by decide : 16 + 0 ≤ _)⟩)
    dsimp only [Pt.U, Pt.locs, Pt.cells, Pt.slots] at X59 l59 y59 z59 st59 hQ59
    subst l59 y59 z59
    obtain ⟨rfl, Nq59, e59⟩ := hQ59
    refine own_go st59 ?_
    have N59 := Fr.app N57 Nq59
    show own_Fin _ _ _ _ (T59.setTop (mkF m 53 #[.val (.int p1), .val (.int (0 : Int32)), .val (.ref aB), .val (.int (0 : Int32)), .unset, .unset] [(.int (1 : Int32))]))
    refine own_go (XS.istore X59.here hx rfl (hb hby at_53) rfl (l' := #[.val (.int p1), .val (.int (0 : Int32)), .val (.ref aB), .val (.int (0 : Int32)), .val (.int (1 : Int32)), .unset]) rfl (Steps.refl _)) ?_
    show own_Fin _ _ _ _ (T59.setTop (mkF m 55 #[.val (.int p1), .val (.int (0 : Int32)), .val (.ref aB), .val (.int (0 : Int32)), .val (.int (1 : Int32)), .unset] []))
    refine own_go (XS.aloadN X59.here hx rfl (hb hby at_55) rfl rfl (Steps.refl _)) ?_
    show own_Fin _ _ _ _ (T59.setTop (mkF m 56 #[.val (.int p1), .val (.int (0 : Int32)), .val (.ref aB), .val (.int (0 : Int32)), .val (.int (1 : Int32)), .unset] [(.ref aB)]))
    obtain ⟨cq60, kq60, q60a, q60b, q60c⟩ := isOf hZ58 e59 E_aB_58
    obtain ⟨_, _, ⟨T60, L60, k60, n60⟩, -, X60, ⟨Lc60, hQ60, l60, y60, z60⟩, st60⟩ := X59.virtualBack hx (y := (⟨"com/example/pryority/pryority/Strategy", "hasPriorities", "()Z"⟩ : MethodName)) (z := (⟨"com/example/pryority/pryority/Strategy", "hasPriorities", "()Z"⟩ : MethodName)) hown58 (mvT hZ58 (hw _ (List.mem_of_getElem? (i := 33) rfl))) (mvT hZ58 (hw _ (List.mem_of_getElem? (i := 34) rfl))) (notFace_of_selects (args := #[]) (mvT hZ58 (hw _ (List.mem_of_getElem? (i := 36) rfl)))) (mvT hZ58 (hw _ (List.mem_of_getElem? (i := 36) rfl))) (mvT hZ58 (hw _ (List.mem_of_getElem? (i := 35) rfl))) (by decide) (backOf (W := 0) (rm4_s l Z a0 hw [] aB aB h58 n0 Z58 S_B_58) hZ58 (hw _ (List.mem_of_getElem? (i := 37) rfl)) (hw _ (List.mem_of_getElem? (i := 2) rfl)) (by decide) (by decide)) q60a q60c (g := (mkF m 56 #[.val (.int p1), .val (.int (0 : Int32)), .val (.ref aB), .val (.int (0 : Int32)), .val (.int (1 : Int32)), .unset] [(.ref aB)])) rfl (by rw [hml]; rfl) (Steps.refl _) (argsL := []) (rest := []) (lenOf pd__28__29_Z rfl) rfl (by show 2 * 0 + _ ≤ _; exact Nat.le_of_eq rfl) (hb hby at_56) (fun _ _ => ⟨rfl, e59, (by decide : 2 + 0 ≤ _), (by decide : 16 + 0 ≤ _)⟩)
    dsimp only [Pt.U, Pt.locs, Pt.cells, Pt.slots] at X60 l60 y60 z60 st60 hQ60
    subst l60 y60 z60
    obtain ⟨rfl, Nq60, e60⟩ := hQ60
    refine own_go st60 ?_
    have N60 := Fr.app N59 Nq60
    show own_Fin _ _ _ _ (T60.setTop (mkF m 59 #[.val (.int p1), .val (.int (0 : Int32)), .val (.ref aB), .val (.int (0 : Int32)), .val (.int (1 : Int32)), .unset] [(.int (0 : Int32))]))
    refine own_go (XS.istore X60.here hx rfl (hb hby at_59) rfl (l' := #[.val (.int p1), .val (.int (0 : Int32)), .val (.ref aB), .val (.int (0 : Int32)), .val (.int (1 : Int32)), .val (.int (0 : Int32))]) rfl (Steps.refl _)) ?_
    show own_Fin _ _ _ _ (T60.setTop (mkF m 61 #[.val (.int p1), .val (.int (0 : Int32)), .val (.ref aB), .val (.int (0 : Int32)), .val (.int (1 : Int32)), .val (.int (0 : Int32))] []))
    refine own_go (XS.iload X60.here hx rfl (hb hby at_61) rfl (Steps.refl _)) ?_
    show own_Fin _ _ _ _ (T60.setTop (mkF m 63 #[.val (.int p1), .val (.int (0 : Int32)), .val (.ref aB), .val (.int (0 : Int32)), .val (.int (1 : Int32)), .val (.int (0 : Int32))] [(.int (0 : Int32))]))
    refine own_go (XS.iloadN X60.here hx rfl (hb hby at_63) rfl (Steps.refl _)) ?_
    show own_Fin _ _ _ _ (T60.setTop (mkF m 64 #[.val (.int p1), .val (.int (0 : Int32)), .val (.ref aB), .val (.int (0 : Int32)), .val (.int (1 : Int32)), .val (.int (0 : Int32))] [(.int (0 : Int32)), (.int (0 : Int32))]))
    refine own_go (XS.icmpNo X60.here hx rfl (hb hby at_64) rfl (teq (by decide : (0 : Int32) = (0 : Int32))).2 (Steps.refl _)) ?_
    show own_Fin _ _ _ _ (T60.setTop (mkF m 67 #[.val (.int p1), .val (.int (0 : Int32)), .val (.ref aB), .val (.int (0 : Int32)), .val (.int (1 : Int32)), .val (.int (0 : Int32))] []))
    refine own_go (XS.iload X60.here hx rfl (hb hby at_67) rfl (Steps.refl _)) ?_
    show own_Fin _ _ _ _ (T60.setTop (mkF m 69 #[.val (.int p1), .val (.int (0 : Int32)), .val (.ref aB), .val (.int (0 : Int32)), .val (.int (1 : Int32)), .val (.int (0 : Int32))] [(.int (0 : Int32))]))
    refine own_go (XS.iload X60.here hx rfl (hb hby at_69) rfl (Steps.refl _)) ?_
    show own_Fin _ _ _ _ (T60.setTop (mkF m 71 #[.val (.int p1), .val (.int (0 : Int32)), .val (.ref aB), .val (.int (0 : Int32)), .val (.int (1 : Int32)), .val (.int (0 : Int32))] [(.int (1 : Int32)), (.int (0 : Int32))]))
    refine own_go (XS.icmpNo X60.here hx rfl (hb hby at_71) rfl (feq (by decide : ¬ ((0 : Int32) = (1 : Int32)))).1 (Steps.refl _)) ?_
    show own_Fin _ _ _ _ (T60.setTop (mkF m 74 #[.val (.int p1), .val (.int (0 : Int32)), .val (.ref aB), .val (.int (0 : Int32)), .val (.int (1 : Int32)), .val (.int (0 : Int32))] []))
    refine own_go (XS.iconst X60.here hx rfl (hb hby at_74) (Steps.refl _)) ?_
    show own_Fin _ _ _ _ (T60.setTop (mkF m 75 #[.val (.int p1), .val (.int (0 : Int32)), .val (.ref aB), .val (.int (0 : Int32)), .val (.int (1 : Int32)), .val (.int (0 : Int32))] [(.int (1 : Int32))]))
    refine own_go (XS.goto X60.here hx rfl (pc0 := 75) (pc' := 79) rfl (hb hby at_75) (by decide) (by decide) (Steps.refl _)) ?_
    show own_Fin _ _ _ _ (T60.setTop (mkF m 79 #[.val (.int p1), .val (.int (0 : Int32)), .val (.ref aB), .val (.int (0 : Int32)), .val (.int (1 : Int32)), .val (.int (0 : Int32))] [(.int (1 : Int32))]))
    obtain ⟨fs61, hr61, hrun61, hended61, hRW61⟩ := X60.leaveW (s := s) hS58 (n := k58) (by rw [e60]; exact hk58) (v := some (.int (1 : Int32))) (fun h => by rw [Bd.returns] at h; cases h)
    refine own_done (retN X60 hx (t := .boolean) Bd.returns (by simp) (hb hby at_79) hr61) hrun61 hended61 ⟨_, _, rfl, ?_, hRW61.1, hRW61.2.1, hRW61.2.2.1, hRW61.2.2.2.mono (by decide) (by decide)⟩
    show Q0 Z p1 aB lB vB kB aF lF vF kF aP lP vP kP cs h0 n0 _ T60.heap _
    rw [e60]
    exact ⟨rfl, N60⟩
  · show own_Fin _ _ _ _ (s₁.setTop (mkF m 7 #[.val (.int p1), .val (.int (1 : Int32)), .unset, .unset, .unset, .unset] []))
    refine own_go (XS.iloadN X0w.here hx rfl (hb hby at_7) rfl (Steps.refl _)) ?_
    show own_Fin _ _ _ _ (s₁.setTop (mkF m 8 #[.val (.int p1), .val (.int (1 : Int32)), .unset, .unset, .unset, .unset] [(.int (1 : Int32))]))
    refine own_go (XS.ifYes X0w.here hx rfl (pc0 := 8) (pc' := 18) rfl (hb hby at_8) rfl ((if0 _ _).trans (feq (by decide : ¬ ((1 : Int32) = (0 : Int32)))).2) (by decide) (by decide) (Steps.refl _)) ?_
    show own_Fin _ _ _ _ (s₁.setTop (mkF m 18 #[.val (.int p1), .val (.int (1 : Int32)), .unset, .unset, .unset, .unset] []))
    refine own_go (XS.iloadN X0w.here hx rfl (hb hby at_18) rfl (Steps.refl _)) ?_
    show own_Fin _ _ _ _ (s₁.setTop (mkF m 19 #[.val (.int p1), .val (.int (1 : Int32)), .unset, .unset, .unset, .unset] [(.int (1 : Int32))]))
    refine own_go (XS.iconst X0w.here hx rfl (hb hby at_19) (Steps.refl _)) ?_
    show own_Fin _ _ _ _ (s₁.setTop (mkF m 20 #[.val (.int p1), .val (.int (1 : Int32)), .unset, .unset, .unset, .unset] [(.int (1 : Int32)), (.int (1 : Int32))]))
    refine own_go (XS.icmpNo X0w.here hx rfl (hb hby at_20) rfl (teq (by decide : (1 : Int32) = (1 : Int32))).2 (Steps.refl _)) ?_
    show own_Fin _ _ _ _ (s₁.setTop (mkF m 23 #[.val (.int p1), .val (.int (1 : Int32)), .unset, .unset, .unset, .unset] []))
    obtain ⟨T62, X62, e62, st62⟩ := getS2 X0w hx hZ hown (host := "") (Or.inl (hw _ (List.mem_of_getElem? (i := 41) rfl))) Via.refl e0 S_F (g := (mkF m 23 #[.val (.int p1), .val (.int (1 : Int32)), .unset, .unset, .unset, .unset] [])) rfl (hb hby at_23)
    refine own_by st62 ?_
    show own_Fin _ _ _ _ (T62.setTop (mkF m 26 #[.val (.int p1), .val (.int (1 : Int32)), .unset, .unset, .unset, .unset] [(.ref aF)]))
    refine own_go (XS.astoreN X62.here hx rfl (hb hby at_26) rfl rfl (l' := #[.val (.int p1), .val (.int (1 : Int32)), .val (.ref aF), .unset, .unset, .unset]) rfl (Steps.refl _)) ?_
    show own_Fin _ _ _ _ (T62.setTop (mkF m 27 #[.val (.int p1), .val (.int (1 : Int32)), .val (.ref aF), .unset, .unset, .unset] []))
    refine own_go (XS.goto X62.here hx rfl (pc0 := 27) (pc' := 34) rfl (hb hby at_27) (by decide) (by decide) (Steps.refl _)) ?_
    show own_Fin _ _ _ _ (T62.setTop (mkF m 34 #[.val (.int p1), .val (.int (1 : Int32)), .val (.ref aF), .unset, .unset, .unset] []))
    refine own_go (XS.iloadN X62.here hx rfl (hb hby at_34) rfl (Steps.refl _)) ?_
    show own_Fin _ _ _ _ (T62.setTop (mkF m 35 #[.val (.int p1), .val (.int (1 : Int32)), .val (.ref aF), .unset, .unset, .unset] [(.int (1 : Int32))]))
    refine own_go (XS.ifNo X62.here hx rfl (hb hby at_35) rfl ((if0 _ _).trans (feq (by decide : ¬ ((1 : Int32) = (0 : Int32)))).1) (Steps.refl _)) ?_
    show own_Fin _ _ _ _ (T62.setTop (mkF m 38 #[.val (.int p1), .val (.int (1 : Int32)), .val (.ref aF), .unset, .unset, .unset] []))
    refine own_go (XS.iconst X62.here hx rfl (hb hby at_38) (Steps.refl _)) ?_
    show own_Fin _ _ _ _ (T62.setTop (mkF m 39 #[.val (.int p1), .val (.int (1 : Int32)), .val (.ref aF), .unset, .unset, .unset] [(.int (1 : Int32))]))
    refine own_go (XS.goto X62.here hx rfl (pc0 := 39) (pc' := 43) rfl (hb hby at_39) (by decide) (by decide) (Steps.refl _)) ?_
    show own_Fin _ _ _ _ (T62.setTop (mkF m 43 #[.val (.int p1), .val (.int (1 : Int32)), .val (.ref aF), .unset, .unset, .unset] [(.int (1 : Int32))]))
    refine own_go (XS.istoreN X62.here hx rfl (hb hby at_43) rfl (l' := #[.val (.int p1), .val (.int (1 : Int32)), .val (.ref aF), .val (.int (1 : Int32)), .unset, .unset]) rfl (Steps.refl _)) ?_
    show own_Fin _ _ _ _ (T62.setTop (mkF m 44 #[.val (.int p1), .val (.int (1 : Int32)), .val (.ref aF), .val (.int (1 : Int32)), .unset, .unset] []))
    refine own_go (XS.aloadN X62.here hx rfl (hb hby at_44) rfl rfl (Steps.refl _)) ?_
    show own_Fin _ _ _ _ (T62.setTop (mkF m 45 #[.val (.int p1), .val (.int (1 : Int32)), .val (.ref aF), .val (.int (1 : Int32)), .unset, .unset] [(.ref aF)]))
    obtain ⟨cq63, kq63, q63a, q63b, q63c⟩ := isOf hZ e62 E_aF
    obtain ⟨_, _, ⟨T63, L63, k63, n63⟩, -, X63, ⟨Lc63, hQ63, l63, y63, z63⟩, st63⟩ := X62.virtualBack hx (y := (⟨"com/example/pryority/pryority/Strategy", "label", "()Ljava/lang/String;"⟩ : MethodName)) (z := (⟨"com/example/pryority/pryority/Strategy", "label", "()Ljava/lang/String;"⟩ : MethodName)) hown (mvT hZ (hw _ (List.mem_of_getElem? (i := 4) rfl))) (mvT hZ (hw _ (List.mem_of_getElem? (i := 5) rfl))) (notFace_of_selects (args := #[]) (mvT hZ (hw _ (List.mem_of_getElem? (i := 7) rfl)))) (mvT hZ (hw _ (List.mem_of_getElem? (i := 7) rfl))) (mvT hZ (hw _ (List.mem_of_getElem? (i := 6) rfl))) (by decide) (backOf (W := 0) (rm1 l Z a0 hw [] aF lF h0 n0 Z0 F_label_aF) hZ (hw _ (List.mem_of_getElem? (i := 8) rfl)) (hw _ (List.mem_of_getElem? (i := 2) rfl)) (by decide) (by decide)) q63a q63c (g := (mkF m 45 #[.val (.int p1), .val (.int (1 : Int32)), .val (.ref aF), .val (.int (1 : Int32)), .unset, .unset] [(.ref aF)])) rfl (by rw [hml]; rfl) (Steps.refl _) (argsL := []) (rest := []) (lenOf pd__28__29_Ljava_2f_lang_2f_String_3b_ rfl) rfl (by show 2 * 0 + _ ≤ _; exact Nat.le_of_eq rfl) (hb hby at_45) (fun _ _ => ⟨rfl, e62, (by decide : 0 + 0 ≤ _), (by decide : 0 + 0 ≤ _)⟩)
    dsimp only [Pt.U, Pt.locs, Pt.cells, Pt.slots] at X63 l63 y63 z63 st63 hQ63
    subst l63 y63 z63
    obtain ⟨rfl, Nq63, e63⟩ := hQ63
    refine own_go st63 ?_
    have N63 := Fr.app N0 Nq63
    show own_Fin _ _ _ _ (T63.setTop (mkF m 48 #[.val (.int p1), .val (.int (1 : Int32)), .val (.ref aF), .val (.int (1 : Int32)), .unset, .unset] [(.ref lF)]))
    obtain ⟨a64, T64, h64, k64, b64, kc64, X64, e64, E64, hS64, hk64, hZ64, hown64, Ex64, Fc64, Fv64, Va64, la64, lb64, IB64, st64⟩ := ldcSV (s := s) (vm0 := s.vm) X63 hx hZ hown (hw _ (List.mem_of_getElem? (i := 11) rfl)) wS e63 hS0 hk0 (show Fr s.heap.size _ by rw [es0, ← hn0]; exact N63) (fun b cl q => by rw [← hZs]; exact q) IB0 (by decide) hh1 hcw (vs := [.int (98 : Int32), .int (102 : Int32), .int (115 : Int32)]) (z := (3 : Int32)) ⟨by decide, by decide⟩ (by decide) (by decide) (g := (mkF m 48 #[.val (.int p1), .val (.int (1 : Int32)), .val (.ref aF), .val (.int (1 : Int32)), .unset, .unset] [(.ref lF)])) rfl (hb hby at_48) (n := 12) (by decide) (by decide) (by decide) (by decide)
    refine own_by st64 ?_
    have S_B_64 := S_B.ext E64
    have E_aB_64 := E_aB.ext E64
    have F_label_aB_64 := F_label_aB.ext E64
    have E_lB_64 := E_lB.ext E64
    have F_coder_lB_64 := F_coder_lB.ext E64
    have F_value_lB_64 := F_value_lB.ext E64
    have V_vB_64 := V_vB.ext E64
    have S_F_64 := S_F.ext E64
    have E_aF_64 := E_aF.ext E64
    have F_label_aF_64 := F_label_aF.ext E64
    have E_lF_64 := E_lF.ext E64
    have F_coder_lF_64 := F_coder_lF.ext E64
    have F_value_lF_64 := F_value_lF.ext E64
    have V_vF_64 := V_vF.ext E64
    have S_P_64 := S_P.ext E64
    have E_aP_64 := E_aP.ext E64
    have F_label_aP_64 := F_label_aP.ext E64
    have E_lP_64 := E_lP.ext E64
    have F_coder_lP_64 := F_coder_lP.ext E64
    have F_value_lP_64 := F_value_lP.ext E64
    have V_vP_64 := V_vP.ext E64
    have S_CS_64 := S_CS.ext E64
    have Z64 : n0 ≤ h64.size := Nat.le_trans Z0 E64.1
    show own_Fin _ _ _ _ (T64.setTop (mkF m 50 #[.val (.int p1), .val (.int (1 : Int32)), .val (.ref aF), .val (.int (1 : Int32)), .unset, .unset] [(.ref a64), (.ref lF)]))
    obtain ⟨cq65, kq65, q65a, q65b, q65c⟩ := isOf hZ64 e64 E_lF_64
    obtain ⟨_, _, ⟨T65, L65, k65, n65⟩, -, X65, ⟨Lc65, hQ65, l65, y65, z65⟩, st65⟩ := X64.virtualBack hx (y := (⟨"java/lang/String", "equals", "(Ljava/lang/Object;)Z"⟩ : MethodName)) (z := (⟨"java/lang/String", "equals", "(Ljava/lang/Object;)Z"⟩ : MethodName)) hown64 (mvT hZ64 (hw _ (List.mem_of_getElem? (i := 19) rfl))) (mvT hZ64 (hw _ (List.mem_of_getElem? (i := 20) rfl))) (notFace_of_selects (args := #[]) (mvT hZ64 (hw _ (List.mem_of_getElem? (i := 22) rfl)))) (mvT hZ64 (hw _ (List.mem_of_getElem? (i := 22) rfl))) (mvT hZ64 (hw _ (List.mem_of_getElem? (i := 21) rfl))) (by decide) (backOf (W := 0) (rm2_F l Z a0 hw [] lF a64 vF b64 kF kc64 cs h64 n0 Z64 E_lF_64 F_coder_lF_64 F_value_lF_64 V_vF_64 Ex64 Fc64 Fv64 Va64 S_CS_64 hcs (Fld.ne F_value_lF_64 Fv64 (fun q => arv_ne V_vF_64 Va64 (Or.inl (by decide)) (Value.ref.inj q)))) hZ64 (hw _ (List.mem_of_getElem? (i := 23) rfl)) (hw _ (List.mem_of_getElem? (i := 12) rfl)) (by decide) (by decide)) q65a q65c (g := (mkF m 50 #[.val (.int p1), .val (.int (1 : Int32)), .val (.ref aF), .val (.int (1 : Int32)), .unset, .unset] [(.ref a64), (.ref lF)])) rfl (by rw [hml]; rfl) (Steps.refl _) (argsL := [(.ref a64)]) (rest := []) (lenOf pd__28_Ljava_2f_lang_2f_Object_3b__29_Z rfl) rfl (by show 2 * 0 + _ ≤ _; exact Nat.le_of_eq rfl) (hb hby at_50) (fun _ _ => ⟨rfl, e64, (by decide : 2 + 0 ≤ _), (by decide : 16 + 0 ≤ _)⟩)
    dsimp only [Pt.U, Pt.locs, Pt.cells, Pt.slots] at X65 l65 y65 z65 st65 hQ65
    subst l65 y65 z65
    obtain ⟨rfl, Nq65, e65⟩ := hQ65
    refine own_go st65 ?_
    have N65 := Fr.app N63 Nq65
    show own_Fin _ _ _ _ (T65.setTop (mkF m 53 #[.val (.int p1), .val (.int (1 : Int32)), .val (.ref aF), .val (.int (1 : Int32)), .unset, .unset] [(.int (0 : Int32))]))
    refine own_go (XS.istore X65.here hx rfl (hb hby at_53) rfl (l' := #[.val (.int p1), .val (.int (1 : Int32)), .val (.ref aF), .val (.int (1 : Int32)), .val (.int (0 : Int32)), .unset]) rfl (Steps.refl _)) ?_
    show own_Fin _ _ _ _ (T65.setTop (mkF m 55 #[.val (.int p1), .val (.int (1 : Int32)), .val (.ref aF), .val (.int (1 : Int32)), .val (.int (0 : Int32)), .unset] []))
    refine own_go (XS.aloadN X65.here hx rfl (hb hby at_55) rfl rfl (Steps.refl _)) ?_
    show own_Fin _ _ _ _ (T65.setTop (mkF m 56 #[.val (.int p1), .val (.int (1 : Int32)), .val (.ref aF), .val (.int (1 : Int32)), .val (.int (0 : Int32)), .unset] [(.ref aF)]))
    obtain ⟨cq66, kq66, q66a, q66b, q66c⟩ := isOf hZ64 e65 E_aF_64
    obtain ⟨_, _, ⟨T66, L66, k66, n66⟩, -, X66, ⟨Lc66, hQ66, l66, y66, z66⟩, st66⟩ := X65.virtualBack hx (y := (⟨"com/example/pryority/pryority/Strategy", "hasPriorities", "()Z"⟩ : MethodName)) (z := (⟨"com/example/pryority/pryority/Strategy", "hasPriorities", "()Z"⟩ : MethodName)) hown64 (mvT hZ64 (hw _ (List.mem_of_getElem? (i := 33) rfl))) (mvT hZ64 (hw _ (List.mem_of_getElem? (i := 34) rfl))) (notFace_of_selects (args := #[]) (mvT hZ64 (hw _ (List.mem_of_getElem? (i := 36) rfl)))) (mvT hZ64 (hw _ (List.mem_of_getElem? (i := 36) rfl))) (mvT hZ64 (hw _ (List.mem_of_getElem? (i := 35) rfl))) (by decide) (backOf (W := 0) (rm4_d l Z a0 hw [] aF aB h64 n0 Z64 S_B_64 neF) hZ64 (hw _ (List.mem_of_getElem? (i := 37) rfl)) (hw _ (List.mem_of_getElem? (i := 2) rfl)) (by decide) (by decide)) q66a q66c (g := (mkF m 56 #[.val (.int p1), .val (.int (1 : Int32)), .val (.ref aF), .val (.int (1 : Int32)), .val (.int (0 : Int32)), .unset] [(.ref aF)])) rfl (by rw [hml]; rfl) (Steps.refl _) (argsL := []) (rest := []) (lenOf pd__28__29_Z rfl) rfl (by show 2 * 0 + _ ≤ _; exact Nat.le_of_eq rfl) (hb hby at_56) (fun _ _ => ⟨rfl, e65, (by decide : 2 + 0 ≤ _), (by decide : 16 + 0 ≤ _)⟩)
    dsimp only [Pt.U, Pt.locs, Pt.cells, Pt.slots] at X66 l66 y66 z66 st66 hQ66
    subst l66 y66 z66
    obtain ⟨rfl, Nq66, e66⟩ := hQ66
    refine own_go st66 ?_
    have N66 := Fr.app N65 Nq66
    show own_Fin _ _ _ _ (T66.setTop (mkF m 59 #[.val (.int p1), .val (.int (1 : Int32)), .val (.ref aF), .val (.int (1 : Int32)), .val (.int (0 : Int32)), .unset] [(.int (1 : Int32))]))
    refine own_go (XS.istore X66.here hx rfl (hb hby at_59) rfl (l' := #[.val (.int p1), .val (.int (1 : Int32)), .val (.ref aF), .val (.int (1 : Int32)), .val (.int (0 : Int32)), .val (.int (1 : Int32))]) rfl (Steps.refl _)) ?_
    show own_Fin _ _ _ _ (T66.setTop (mkF m 61 #[.val (.int p1), .val (.int (1 : Int32)), .val (.ref aF), .val (.int (1 : Int32)), .val (.int (0 : Int32)), .val (.int (1 : Int32))] []))
    refine own_go (XS.iload X66.here hx rfl (hb hby at_61) rfl (Steps.refl _)) ?_
    show own_Fin _ _ _ _ (T66.setTop (mkF m 63 #[.val (.int p1), .val (.int (1 : Int32)), .val (.ref aF), .val (.int (1 : Int32)), .val (.int (0 : Int32)), .val (.int (1 : Int32))] [(.int (1 : Int32))]))
    refine own_go (XS.iloadN X66.here hx rfl (hb hby at_63) rfl (Steps.refl _)) ?_
    show own_Fin _ _ _ _ (T66.setTop (mkF m 64 #[.val (.int p1), .val (.int (1 : Int32)), .val (.ref aF), .val (.int (1 : Int32)), .val (.int (0 : Int32)), .val (.int (1 : Int32))] [(.int (1 : Int32)), (.int (1 : Int32))]))
    refine own_go (XS.icmpNo X66.here hx rfl (hb hby at_64) rfl (teq (by decide : (1 : Int32) = (1 : Int32))).2 (Steps.refl _)) ?_
    show own_Fin _ _ _ _ (T66.setTop (mkF m 67 #[.val (.int p1), .val (.int (1 : Int32)), .val (.ref aF), .val (.int (1 : Int32)), .val (.int (0 : Int32)), .val (.int (1 : Int32))] []))
    refine own_go (XS.iload X66.here hx rfl (hb hby at_67) rfl (Steps.refl _)) ?_
    show own_Fin _ _ _ _ (T66.setTop (mkF m 69 #[.val (.int p1), .val (.int (1 : Int32)), .val (.ref aF), .val (.int (1 : Int32)), .val (.int (0 : Int32)), .val (.int (1 : Int32))] [(.int (1 : Int32))]))
    refine own_go (XS.iload X66.here hx rfl (hb hby at_69) rfl (Steps.refl _)) ?_
    show own_Fin _ _ _ _ (T66.setTop (mkF m 71 #[.val (.int p1), .val (.int (1 : Int32)), .val (.ref aF), .val (.int (1 : Int32)), .val (.int (0 : Int32)), .val (.int (1 : Int32))] [(.int (0 : Int32)), (.int (1 : Int32))]))
    refine own_go (XS.icmpNo X66.here hx rfl (hb hby at_71) rfl (feq (by decide : ¬ ((1 : Int32) = (0 : Int32)))).1 (Steps.refl _)) ?_
    show own_Fin _ _ _ _ (T66.setTop (mkF m 74 #[.val (.int p1), .val (.int (1 : Int32)), .val (.ref aF), .val (.int (1 : Int32)), .val (.int (0 : Int32)), .val (.int (1 : Int32))] []))
    refine own_go (XS.iconst X66.here hx rfl (hb hby at_74) (Steps.refl _)) ?_
    show own_Fin _ _ _ _ (T66.setTop (mkF m 75 #[.val (.int p1), .val (.int (1 : Int32)), .val (.ref aF), .val (.int (1 : Int32)), .val (.int (0 : Int32)), .val (.int (1 : Int32))] [(.int (1 : Int32))]))
    refine own_go (XS.goto X66.here hx rfl (pc0 := 75) (pc' := 79) rfl (hb hby at_75) (by decide) (by decide) (Steps.refl _)) ?_
    show own_Fin _ _ _ _ (T66.setTop (mkF m 79 #[.val (.int p1), .val (.int (1 : Int32)), .val (.ref aF), .val (.int (1 : Int32)), .val (.int (0 : Int32)), .val (.int (1 : Int32))] [(.int (1 : Int32))]))
    obtain ⟨fs67, hr67, hrun67, hended67, hRW67⟩ := X66.leaveW (s := s) hS64 (n := k64) (by rw [e66]; exact hk64) (v := some (.int (1 : Int32))) (fun h => by rw [Bd.returns] at h; cases h)
    refine own_done (retN X66 hx (t := .boolean) Bd.returns (by simp) (hb hby at_79) hr67) hrun67 hended67 ⟨_, _, rfl, ?_, hRW67.1, hRW67.2.1, hRW67.2.2.1, hRW67.2.2.2.mono (by decide) (by decide)⟩
    show Q0 Z p1 aB lB vB kB aF lF vF kF aP lP vP kP cs h0 n0 _ T66.heap _
    rw [e66]
    exact ⟨rfl, N66⟩
  · show own_Fin _ _ _ _ (s₁.setTop (mkF m 7 #[.val (.int p1), .val (.int (2 : Int32)), .unset, .unset, .unset, .unset] []))
    refine own_go (XS.iloadN X0w.here hx rfl (hb hby at_7) rfl (Steps.refl _)) ?_
    show own_Fin _ _ _ _ (s₁.setTop (mkF m 8 #[.val (.int p1), .val (.int (2 : Int32)), .unset, .unset, .unset, .unset] [(.int (2 : Int32))]))
    refine own_go (XS.ifYes X0w.here hx rfl (pc0 := 8) (pc' := 18) rfl (hb hby at_8) rfl ((if0 _ _).trans (feq (by decide : ¬ ((2 : Int32) = (0 : Int32)))).2) (by decide) (by decide) (Steps.refl _)) ?_
    show own_Fin _ _ _ _ (s₁.setTop (mkF m 18 #[.val (.int p1), .val (.int (2 : Int32)), .unset, .unset, .unset, .unset] []))
    refine own_go (XS.iloadN X0w.here hx rfl (hb hby at_18) rfl (Steps.refl _)) ?_
    show own_Fin _ _ _ _ (s₁.setTop (mkF m 19 #[.val (.int p1), .val (.int (2 : Int32)), .unset, .unset, .unset, .unset] [(.int (2 : Int32))]))
    refine own_go (XS.iconst X0w.here hx rfl (hb hby at_19) (Steps.refl _)) ?_
    show own_Fin _ _ _ _ (s₁.setTop (mkF m 20 #[.val (.int p1), .val (.int (2 : Int32)), .unset, .unset, .unset, .unset] [(.int (1 : Int32)), (.int (2 : Int32))]))
    refine own_go (XS.icmpYes X0w.here hx rfl (pc0 := 20) (pc' := 30) rfl (hb hby at_20) rfl (feq (by decide : ¬ ((2 : Int32) = (1 : Int32)))).2 (by decide) (by decide) (Steps.refl _)) ?_
    show own_Fin _ _ _ _ (s₁.setTop (mkF m 30 #[.val (.int p1), .val (.int (2 : Int32)), .unset, .unset, .unset, .unset] []))
    obtain ⟨T68, X68, e68, st68⟩ := getS2 X0w hx hZ hown (host := "") (Or.inl (hw _ (List.mem_of_getElem? (i := 39) rfl))) Via.refl e0 S_P (g := (mkF m 30 #[.val (.int p1), .val (.int (2 : Int32)), .unset, .unset, .unset, .unset] [])) rfl (hb hby at_30)
    refine own_by st68 ?_
    show own_Fin _ _ _ _ (T68.setTop (mkF m 33 #[.val (.int p1), .val (.int (2 : Int32)), .unset, .unset, .unset, .unset] [(.ref aP)]))
    refine own_go (XS.astoreN X68.here hx rfl (hb hby at_33) rfl rfl (l' := #[.val (.int p1), .val (.int (2 : Int32)), .val (.ref aP), .unset, .unset, .unset]) rfl (Steps.refl _)) ?_
    show own_Fin _ _ _ _ (T68.setTop (mkF m 34 #[.val (.int p1), .val (.int (2 : Int32)), .val (.ref aP), .unset, .unset, .unset] []))
    refine own_go (XS.iloadN X68.here hx rfl (hb hby at_34) rfl (Steps.refl _)) ?_
    show own_Fin _ _ _ _ (T68.setTop (mkF m 35 #[.val (.int p1), .val (.int (2 : Int32)), .val (.ref aP), .unset, .unset, .unset] [(.int (2 : Int32))]))
    refine own_go (XS.ifNo X68.here hx rfl (hb hby at_35) rfl ((if0 _ _).trans (feq (by decide : ¬ ((2 : Int32) = (0 : Int32)))).1) (Steps.refl _)) ?_
    show own_Fin _ _ _ _ (T68.setTop (mkF m 38 #[.val (.int p1), .val (.int (2 : Int32)), .val (.ref aP), .unset, .unset, .unset] []))
    refine own_go (XS.iconst X68.here hx rfl (hb hby at_38) (Steps.refl _)) ?_
    show own_Fin _ _ _ _ (T68.setTop (mkF m 39 #[.val (.int p1), .val (.int (2 : Int32)), .val (.ref aP), .unset, .unset, .unset] [(.int (1 : Int32))]))
    refine own_go (XS.goto X68.here hx rfl (pc0 := 39) (pc' := 43) rfl (hb hby at_39) (by decide) (by decide) (Steps.refl _)) ?_
    show own_Fin _ _ _ _ (T68.setTop (mkF m 43 #[.val (.int p1), .val (.int (2 : Int32)), .val (.ref aP), .unset, .unset, .unset] [(.int (1 : Int32))]))
    refine own_go (XS.istoreN X68.here hx rfl (hb hby at_43) rfl (l' := #[.val (.int p1), .val (.int (2 : Int32)), .val (.ref aP), .val (.int (1 : Int32)), .unset, .unset]) rfl (Steps.refl _)) ?_
    show own_Fin _ _ _ _ (T68.setTop (mkF m 44 #[.val (.int p1), .val (.int (2 : Int32)), .val (.ref aP), .val (.int (1 : Int32)), .unset, .unset] []))
    refine own_go (XS.aloadN X68.here hx rfl (hb hby at_44) rfl rfl (Steps.refl _)) ?_
    show own_Fin _ _ _ _ (T68.setTop (mkF m 45 #[.val (.int p1), .val (.int (2 : Int32)), .val (.ref aP), .val (.int (1 : Int32)), .unset, .unset] [(.ref aP)]))
    obtain ⟨cq69, kq69, q69a, q69b, q69c⟩ := isOf hZ e68 E_aP
    obtain ⟨_, _, ⟨T69, L69, k69, n69⟩, -, X69, ⟨Lc69, hQ69, l69, y69, z69⟩, st69⟩ := X68.virtualBack hx (y := (⟨"com/example/pryority/pryority/Strategy", "label", "()Ljava/lang/String;"⟩ : MethodName)) (z := (⟨"com/example/pryority/pryority/Strategy", "label", "()Ljava/lang/String;"⟩ : MethodName)) hown (mvT hZ (hw _ (List.mem_of_getElem? (i := 4) rfl))) (mvT hZ (hw _ (List.mem_of_getElem? (i := 5) rfl))) (notFace_of_selects (args := #[]) (mvT hZ (hw _ (List.mem_of_getElem? (i := 7) rfl)))) (mvT hZ (hw _ (List.mem_of_getElem? (i := 7) rfl))) (mvT hZ (hw _ (List.mem_of_getElem? (i := 6) rfl))) (by decide) (backOf (W := 0) (rm1 l Z a0 hw [] aP lP h0 n0 Z0 F_label_aP) hZ (hw _ (List.mem_of_getElem? (i := 8) rfl)) (hw _ (List.mem_of_getElem? (i := 2) rfl)) (by decide) (by decide)) q69a q69c (g := (mkF m 45 #[.val (.int p1), .val (.int (2 : Int32)), .val (.ref aP), .val (.int (1 : Int32)), .unset, .unset] [(.ref aP)])) rfl (by rw [hml]; rfl) (Steps.refl _) (argsL := []) (rest := []) (lenOf pd__28__29_Ljava_2f_lang_2f_String_3b_ rfl) rfl (by show 2 * 0 + _ ≤ _; exact Nat.le_of_eq rfl) (hb hby at_45) (fun _ _ => ⟨rfl, e68, (by decide : 0 + 0 ≤ _), (by decide : 0 + 0 ≤ _)⟩)
    dsimp only [Pt.U, Pt.locs, Pt.cells, Pt.slots] at X69 l69 y69 z69 st69 hQ69
    subst l69 y69 z69
    obtain ⟨rfl, Nq69, e69⟩ := hQ69
    refine own_go st69 ?_
    have N69 := Fr.app N0 Nq69
    show own_Fin _ _ _ _ (T69.setTop (mkF m 48 #[.val (.int p1), .val (.int (2 : Int32)), .val (.ref aP), .val (.int (1 : Int32)), .unset, .unset] [(.ref lP)]))
    obtain ⟨a70, T70, h70, k70, b70, kc70, X70, e70, E70, hS70, hk70, hZ70, hown70, Ex70, Fc70, Fv70, Va70, la70, lb70, IB70, st70⟩ := ldcSV (s := s) (vm0 := s.vm) X69 hx hZ hown (hw _ (List.mem_of_getElem? (i := 11) rfl)) wS e69 hS0 hk0 (show Fr s.heap.size _ by rw [es0, ← hn0]; exact N69) (fun b cl q => by rw [← hZs]; exact q) IB0 (by decide) hh1 hcw (vs := [.int (98 : Int32), .int (102 : Int32), .int (115 : Int32)]) (z := (3 : Int32)) ⟨by decide, by decide⟩ (by decide) (by decide) (g := (mkF m 48 #[.val (.int p1), .val (.int (2 : Int32)), .val (.ref aP), .val (.int (1 : Int32)), .unset, .unset] [(.ref lP)])) rfl (hb hby at_48) (n := 12) (by decide) (by decide) (by decide) (by decide)
    refine own_by st70 ?_
    have S_B_70 := S_B.ext E70
    have E_aB_70 := E_aB.ext E70
    have F_label_aB_70 := F_label_aB.ext E70
    have E_lB_70 := E_lB.ext E70
    have F_coder_lB_70 := F_coder_lB.ext E70
    have F_value_lB_70 := F_value_lB.ext E70
    have V_vB_70 := V_vB.ext E70
    have S_F_70 := S_F.ext E70
    have E_aF_70 := E_aF.ext E70
    have F_label_aF_70 := F_label_aF.ext E70
    have E_lF_70 := E_lF.ext E70
    have F_coder_lF_70 := F_coder_lF.ext E70
    have F_value_lF_70 := F_value_lF.ext E70
    have V_vF_70 := V_vF.ext E70
    have S_P_70 := S_P.ext E70
    have E_aP_70 := E_aP.ext E70
    have F_label_aP_70 := F_label_aP.ext E70
    have E_lP_70 := E_lP.ext E70
    have F_coder_lP_70 := F_coder_lP.ext E70
    have F_value_lP_70 := F_value_lP.ext E70
    have V_vP_70 := V_vP.ext E70
    have S_CS_70 := S_CS.ext E70
    have Z70 : n0 ≤ h70.size := Nat.le_trans Z0 E70.1
    show own_Fin _ _ _ _ (T70.setTop (mkF m 50 #[.val (.int p1), .val (.int (2 : Int32)), .val (.ref aP), .val (.int (1 : Int32)), .unset, .unset] [(.ref a70), (.ref lP)]))
    obtain ⟨cq71, kq71, q71a, q71b, q71c⟩ := isOf hZ70 e70 E_lP_70
    obtain ⟨_, _, ⟨T71, L71, k71, n71⟩, -, X71, ⟨Lc71, hQ71, l71, y71, z71⟩, st71⟩ := X70.virtualBack hx (y := (⟨"java/lang/String", "equals", "(Ljava/lang/Object;)Z"⟩ : MethodName)) (z := (⟨"java/lang/String", "equals", "(Ljava/lang/Object;)Z"⟩ : MethodName)) hown70 (mvT hZ70 (hw _ (List.mem_of_getElem? (i := 19) rfl))) (mvT hZ70 (hw _ (List.mem_of_getElem? (i := 20) rfl))) (notFace_of_selects (args := #[]) (mvT hZ70 (hw _ (List.mem_of_getElem? (i := 22) rfl)))) (mvT hZ70 (hw _ (List.mem_of_getElem? (i := 22) rfl))) (mvT hZ70 (hw _ (List.mem_of_getElem? (i := 21) rfl))) (by decide) (backOf (W := 0) (rm2_P l Z a0 hw [] lP a70 vP b70 kP kc70 cs h70 n0 Z70 E_lP_70 F_coder_lP_70 F_value_lP_70 V_vP_70 Ex70 Fc70 Fv70 Va70 S_CS_70 hcs (Fld.ne F_value_lP_70 Fv70 (fun q => arv_ne V_vP_70 Va70 (Or.inl (by decide)) (Value.ref.inj q)))) hZ70 (hw _ (List.mem_of_getElem? (i := 23) rfl)) (hw _ (List.mem_of_getElem? (i := 12) rfl)) (by decide) (by decide)) q71a q71c (g := (mkF m 50 #[.val (.int p1), .val (.int (2 : Int32)), .val (.ref aP), .val (.int (1 : Int32)), .unset, .unset] [(.ref a70), (.ref lP)])) rfl (by rw [hml]; rfl) (Steps.refl _) (argsL := [(.ref a70)]) (rest := []) (lenOf pd__28_Ljava_2f_lang_2f_Object_3b__29_Z rfl) rfl (by show 2 * 0 + _ ≤ _; exact Nat.le_of_eq rfl) (hb hby at_50) (fun _ _ => ⟨rfl, e70, (by decide : 2 + 0 ≤ _), (by decide : 16 + 0 ≤ _)⟩)
    dsimp only [Pt.U, Pt.locs, Pt.cells, Pt.slots] at X71 l71 y71 z71 st71 hQ71
    subst l71 y71 z71
    obtain ⟨rfl, Nq71, e71⟩ := hQ71
    refine own_go st71 ?_
    have N71 := Fr.app N69 Nq71
    show own_Fin _ _ _ _ (T71.setTop (mkF m 53 #[.val (.int p1), .val (.int (2 : Int32)), .val (.ref aP), .val (.int (1 : Int32)), .unset, .unset] [(.int (0 : Int32))]))
    refine own_go (XS.istore X71.here hx rfl (hb hby at_53) rfl (l' := #[.val (.int p1), .val (.int (2 : Int32)), .val (.ref aP), .val (.int (1 : Int32)), .val (.int (0 : Int32)), .unset]) rfl (Steps.refl _)) ?_
    show own_Fin _ _ _ _ (T71.setTop (mkF m 55 #[.val (.int p1), .val (.int (2 : Int32)), .val (.ref aP), .val (.int (1 : Int32)), .val (.int (0 : Int32)), .unset] []))
    refine own_go (XS.aloadN X71.here hx rfl (hb hby at_55) rfl rfl (Steps.refl _)) ?_
    show own_Fin _ _ _ _ (T71.setTop (mkF m 56 #[.val (.int p1), .val (.int (2 : Int32)), .val (.ref aP), .val (.int (1 : Int32)), .val (.int (0 : Int32)), .unset] [(.ref aP)]))
    obtain ⟨cq72, kq72, q72a, q72b, q72c⟩ := isOf hZ70 e71 E_aP_70
    obtain ⟨_, _, ⟨T72, L72, k72, n72⟩, -, X72, ⟨Lc72, hQ72, l72, y72, z72⟩, st72⟩ := X71.virtualBack hx (y := (⟨"com/example/pryority/pryority/Strategy", "hasPriorities", "()Z"⟩ : MethodName)) (z := (⟨"com/example/pryority/pryority/Strategy", "hasPriorities", "()Z"⟩ : MethodName)) hown70 (mvT hZ70 (hw _ (List.mem_of_getElem? (i := 33) rfl))) (mvT hZ70 (hw _ (List.mem_of_getElem? (i := 34) rfl))) (notFace_of_selects (args := #[]) (mvT hZ70 (hw _ (List.mem_of_getElem? (i := 36) rfl)))) (mvT hZ70 (hw _ (List.mem_of_getElem? (i := 36) rfl))) (mvT hZ70 (hw _ (List.mem_of_getElem? (i := 35) rfl))) (by decide) (backOf (W := 0) (rm4_d l Z a0 hw [] aP aB h70 n0 Z70 S_B_70 neP) hZ70 (hw _ (List.mem_of_getElem? (i := 37) rfl)) (hw _ (List.mem_of_getElem? (i := 2) rfl)) (by decide) (by decide)) q72a q72c (g := (mkF m 56 #[.val (.int p1), .val (.int (2 : Int32)), .val (.ref aP), .val (.int (1 : Int32)), .val (.int (0 : Int32)), .unset] [(.ref aP)])) rfl (by rw [hml]; rfl) (Steps.refl _) (argsL := []) (rest := []) (lenOf pd__28__29_Z rfl) rfl (by show 2 * 0 + _ ≤ _; exact Nat.le_of_eq rfl) (hb hby at_56) (fun _ _ => ⟨rfl, e71, (by decide : 2 + 0 ≤ _), (by decide : 16 + 0 ≤ _)⟩)
    dsimp only [Pt.U, Pt.locs, Pt.cells, Pt.slots] at X72 l72 y72 z72 st72 hQ72
    subst l72 y72 z72
    obtain ⟨rfl, Nq72, e72⟩ := hQ72
    refine own_go st72 ?_
    have N72 := Fr.app N71 Nq72
    show own_Fin _ _ _ _ (T72.setTop (mkF m 59 #[.val (.int p1), .val (.int (2 : Int32)), .val (.ref aP), .val (.int (1 : Int32)), .val (.int (0 : Int32)), .unset] [(.int (1 : Int32))]))
    refine own_go (XS.istore X72.here hx rfl (hb hby at_59) rfl (l' := #[.val (.int p1), .val (.int (2 : Int32)), .val (.ref aP), .val (.int (1 : Int32)), .val (.int (0 : Int32)), .val (.int (1 : Int32))]) rfl (Steps.refl _)) ?_
    show own_Fin _ _ _ _ (T72.setTop (mkF m 61 #[.val (.int p1), .val (.int (2 : Int32)), .val (.ref aP), .val (.int (1 : Int32)), .val (.int (0 : Int32)), .val (.int (1 : Int32))] []))
    refine own_go (XS.iload X72.here hx rfl (hb hby at_61) rfl (Steps.refl _)) ?_
    show own_Fin _ _ _ _ (T72.setTop (mkF m 63 #[.val (.int p1), .val (.int (2 : Int32)), .val (.ref aP), .val (.int (1 : Int32)), .val (.int (0 : Int32)), .val (.int (1 : Int32))] [(.int (1 : Int32))]))
    refine own_go (XS.iloadN X72.here hx rfl (hb hby at_63) rfl (Steps.refl _)) ?_
    show own_Fin _ _ _ _ (T72.setTop (mkF m 64 #[.val (.int p1), .val (.int (2 : Int32)), .val (.ref aP), .val (.int (1 : Int32)), .val (.int (0 : Int32)), .val (.int (1 : Int32))] [(.int (1 : Int32)), (.int (1 : Int32))]))
    refine own_go (XS.icmpNo X72.here hx rfl (hb hby at_64) rfl (teq (by decide : (1 : Int32) = (1 : Int32))).2 (Steps.refl _)) ?_
    show own_Fin _ _ _ _ (T72.setTop (mkF m 67 #[.val (.int p1), .val (.int (2 : Int32)), .val (.ref aP), .val (.int (1 : Int32)), .val (.int (0 : Int32)), .val (.int (1 : Int32))] []))
    refine own_go (XS.iload X72.here hx rfl (hb hby at_67) rfl (Steps.refl _)) ?_
    show own_Fin _ _ _ _ (T72.setTop (mkF m 69 #[.val (.int p1), .val (.int (2 : Int32)), .val (.ref aP), .val (.int (1 : Int32)), .val (.int (0 : Int32)), .val (.int (1 : Int32))] [(.int (1 : Int32))]))
    refine own_go (XS.iload X72.here hx rfl (hb hby at_69) rfl (Steps.refl _)) ?_
    show own_Fin _ _ _ _ (T72.setTop (mkF m 71 #[.val (.int p1), .val (.int (2 : Int32)), .val (.ref aP), .val (.int (1 : Int32)), .val (.int (0 : Int32)), .val (.int (1 : Int32))] [(.int (0 : Int32)), (.int (1 : Int32))]))
    refine own_go (XS.icmpNo X72.here hx rfl (hb hby at_71) rfl (feq (by decide : ¬ ((1 : Int32) = (0 : Int32)))).1 (Steps.refl _)) ?_
    show own_Fin _ _ _ _ (T72.setTop (mkF m 74 #[.val (.int p1), .val (.int (2 : Int32)), .val (.ref aP), .val (.int (1 : Int32)), .val (.int (0 : Int32)), .val (.int (1 : Int32))] []))
    refine own_go (XS.iconst X72.here hx rfl (hb hby at_74) (Steps.refl _)) ?_
    show own_Fin _ _ _ _ (T72.setTop (mkF m 75 #[.val (.int p1), .val (.int (2 : Int32)), .val (.ref aP), .val (.int (1 : Int32)), .val (.int (0 : Int32)), .val (.int (1 : Int32))] [(.int (1 : Int32))]))
    refine own_go (XS.goto X72.here hx rfl (pc0 := 75) (pc' := 79) rfl (hb hby at_75) (by decide) (by decide) (Steps.refl _)) ?_
    show own_Fin _ _ _ _ (T72.setTop (mkF m 79 #[.val (.int p1), .val (.int (2 : Int32)), .val (.ref aP), .val (.int (1 : Int32)), .val (.int (0 : Int32)), .val (.int (1 : Int32))] [(.int (1 : Int32))]))
    obtain ⟨fs73, hr73, hrun73, hended73, hRW73⟩ := X72.leaveW (s := s) hS70 (n := k70) (by rw [e72]; exact hk70) (v := some (.int (1 : Int32))) (fun h => by rw [Bd.returns] at h; cases h)
    refine own_done (retN X72 hx (t := .boolean) Bd.returns (by simp) (hb hby at_79) hr73) hrun73 hended73 ⟨_, _, rfl, ?_, hRW73.1, hRW73.2.1, hRW73.2.2.1, hRW73.2.2.2.mono (by decide) (by decide)⟩
    show Q0 Z p1 aB lB vB kB aF lF vF kF aP lP vP kP cs h0 n0 _ T72.heap _
    rw [e72]
    exact ⟨rfl, N72⟩
set_option maxRecDepth 65536 in
set_option maxHeartbeats 40000000 in
theorem comes_1 {Post : Tables → Env → Array Value → State → Outcome → State → Prop} (hpost : ∀ tb e args s v u, (limb_1_1.after args s (.returned v) u = true ∧ limb_1_2.after args s (.returned v) u = true ∧ True) → ReturnedEndW s (.returned v) u (Jvm.fieldLocs frame_1_writes args s ++ Jvm.arrayLocs frame_1_arrays args s ++ Jvm.staticLocs frame_1_statics s) 8 1088 → Post tb e args s (.returned v) u) :
    ArmFor flags0 classFile x code maxLocals ret World_1 tables_1 room_1 Calls_1 rest_1 Pre_1 Post := by
  intro l hfl _ _ p e ha hc hk s m args below hf hA hF happ hP
  obtain ⟨hcalls, hrest, hpre⟩ := hP
  obtain ⟨-, -, -, hnamed, -, -, -, hat⟩ := (Spec.applies_iff hf).mp happ
  obtain ⟨hg, hn⟩ := and_e (Cond.before_iff.mp (show (Jvm.Cond.and given_1 narrow_1).before args s = true from hpre))
  obtain ⟨gg1, gg2⟩ := and_e hg
  obtain ⟨w0, rfl⟩ : ∃ w0 : Value, args = #[w0] := by
    have hs : args.size = 1 := by simpa [Cond.value, given_1] using gg1
    obtain ⟨L⟩ := args
    match L, hs with
    | [w0], _ => exact ⟨w0, rfl⟩
  have hw := fun d (hd : d ∈ tables_1) => atoms_spec (ws := Jvm.Cond.code x code maxLocals ret :: tables_1) hat d (List.mem_cons_of_mem _ hd)
  obtain ⟨i0, ei0⟩ := is_v gg2
  obtain rfl : w0 = (.int i0) := Option.some.inj ei0
  have hfit : Fit s := fun {y c} hc i hi => by
    obtain ⟨ha, rfl⟩ := Array.getElem?_eq_some_iff.mp hc
    have q := List.all_eq_true.mp ((Array.all_eq_true_iff_forall_mem.mp hF) _ (Array.getElem_mem ha)) i (List.mem_range.mpr hi)
    simpa [Array.getElem?_eq_getElem hi] using q
  obtain ⟨nw1, nw2⟩ := and_e hn
  obtain ⟨nw3, nw4⟩ := and_e nw2
  obtain ⟨nw5, nw6⟩ := and_e nw4
  obtain ⟨nw7, nw8⟩ := and_e nw6
  obtain ⟨nw9, nw10⟩ := and_e nw8
  obtain ⟨nw11, nw12⟩ := and_e nw10
  obtain ⟨nw13, nw14⟩ := and_e nw12
  obtain ⟨nw15, nw16⟩ := and_e nw14
  obtain ⟨nw17, nw18⟩ := and_e nw16
  obtain ⟨nw19, nw20⟩ := and_e nw18
  obtain ⟨nw21, nw22⟩ := and_e nw20
  obtain ⟨nw23, nw24⟩ := and_e nw22
  obtain ⟨nw25, nw26⟩ := and_e nw24
  obtain ⟨nw27, nw28⟩ := and_e nw26
  obtain ⟨nw29, nw30⟩ := and_e nw28
  obtain ⟨nw31, nw32⟩ := and_e nw30
  obtain ⟨nw33, nw34⟩ := and_e nw32
  obtain ⟨nw35, nw36⟩ := and_e nw34
  obtain ⟨nw37, nw38⟩ := and_e nw36
  obtain ⟨nw39, nw40⟩ := and_e nw38
  obtain ⟨nw41, nw42⟩ := and_e nw40
  obtain ⟨nw43, nw44⟩ := and_e nw42
  obtain ⟨nw45, nw46⟩ := and_e nw44
  obtain ⟨nw47, nw48⟩ := and_e nw46
  obtain ⟨nw49, nw50⟩ := and_e nw48
  obtain ⟨nw51, nw52⟩ := and_e nw50
  obtain ⟨nw53, nw54⟩ := and_e nw52
  obtain ⟨nw55, nw56⟩ := and_e nw54
  obtain ⟨nw57, nw58⟩ := and_e nw56
  obtain ⟨nw59, nw60⟩ := and_e nw58
  obtain ⟨nw61, nw62⟩ := and_e nw60
  obtain ⟨nw63, nw64⟩ := and_e nw62
  obtain ⟨nw65, nw66⟩ := and_e nw64
  obtain ⟨nw67, nw68⟩ := and_e nw66
  obtain ⟨nw69, nw70⟩ := and_e nw68
  obtain ⟨nw71, nw72⟩ := and_e nw70
  obtain ⟨nw73, nw74⟩ := and_e nw72
  obtain ⟨nw75, nw76⟩ := and_e nw74
  obtain ⟨hsets, hown0⟩ := atoms_of _ (rest_1_c_eq ▸ (show rest_1_c.before _ s = true from hrest))
  obtain ⟨aB, evB⟩ := exa_v nw1
  have S_B := Sta.start evB (Or.inr ⟨(hw _ (List.mem_of_getElem? (i := 2) rfl)), (hw _ (List.mem_of_getElem? (i := 3) rfl))⟩)
  have E_aB := Exa.start evB nw1
  obtain ⟨lB, vB, kB, FlB, ElB, FcB, FvB, VvB⟩ := own_lab hfit (vs := [.int (98 : Int32), .int (102 : Int32), .int (115 : Int32)]) evB nw3 nw5 nw7 nw9 (by decide) (by decide) (fun b cl q1 q2 => ⟨own_el nw11 q1 q2, own_el nw13 q1 q2, own_el nw15 q1 q2, trivial⟩)
  have FoB := own_eqI nw29
  rw [fld_at evB] at FoB
  obtain ⟨aF, evF⟩ := exa_v nw31
  have S_F := Sta.start evF (Or.inr ⟨(hw _ (List.mem_of_getElem? (i := 2) rfl)), (hw _ (List.mem_of_getElem? (i := 42) rfl))⟩)
  have E_aF := Exa.start evF nw31
  obtain ⟨lF, vF, kF, FlF, ElF, FcF, FvF, VvF⟩ := own_lab hfit (vs := [.int (98 : Int32), .int (101 : Int32), .int (115 : Int32), .int (116 : Int32), .int (45 : Int32), .int (102 : Int32), .int (105 : Int32), .int (114 : Int32), .int (115 : Int32), .int (116 : Int32)]) evF nw33 nw35 nw37 nw39 (by decide) (by decide) (fun b cl q1 q2 => ⟨own_el nw59 q1 q2, own_el nw61 q1 q2, own_el nw63 q1 q2, own_el nw65 q1 q2, own_el nw67 q1 q2, own_el nw69 q1 q2, own_el nw71 q1 q2, own_el nw73 q1 q2, own_el nw75 q1 q2, own_el nw76 q1 q2, trivial⟩)
  have FoF := own_eqI nw41
  rw [fld_at evF] at FoF
  obtain ⟨aP, evP⟩ := exa_v nw17
  have S_P := Sta.start evP (Or.inr ⟨(hw _ (List.mem_of_getElem? (i := 2) rfl)), (hw _ (List.mem_of_getElem? (i := 40) rfl))⟩)
  have E_aP := Exa.start evP nw17
  obtain ⟨lP, vP, kP, FlP, ElP, FcP, FvP, VvP⟩ := own_lab hfit (vs := [.int (112 : Int32), .int (114 : Int32), .int (105 : Int32), .int (111 : Int32), .int (114 : Int32), .int (105 : Int32), .int (116 : Int32), .int (121 : Int32)]) evP nw19 nw21 nw23 nw25 (by decide) (by decide) (fun b cl q1 q2 => ⟨own_el nw43 q1 q2, own_el nw45 q1 q2, own_el nw47 q1 q2, own_el nw49 q1 q2, own_el nw51 q1 q2, own_el nw53 q1 q2, own_el nw55 q1 q2, own_el nw57 q1 q2, trivial⟩)
  have FoP := own_eqI nw27
  rw [fld_at evP] at FoP
  obtain ⟨cs, ecs⟩ := is_v (Cond.before_iff.mp (hsets _ (List.mem_of_getElem? (i := 1) rfl)))
  have S_CS := Sta.start ecs (Or.inl (hsets _ (List.mem_of_getElem? (i := 0) rfl)))
  have hcs : ¬ cs = (0 : Int32) := by
    intro q
    subst q
    have h := not_v (Cond.before_iff.mp (hsets _ (List.mem_of_getElem? (i := 2) rfl)))
    have h' := (eq_i ecs (Term.int_eval (0 : Int32)) rfl).symm.trans h
    cases h'
  obtain ⟨n, o, h1, h2, h3, _, L, rfl, ⟨rfl, N⟩, hq⟩ := rm0 l s _ hw tables_1 i0 aB lB vB kB aF lF vF kF aP lP vP kP cs s.heap s.heap.size (Nat.le_refl _) S_B E_aB FlB ElB FcB FvB VvB S_F E_aF FlF ElF FcF FvF VvF S_P E_aP FlP ElP FcP FvP VvP S_CS hcs (Fld.ne (Fld.start FoF) (Fld.start FoB) (by decide)) (Fld.ne (Fld.start FoP) (Fld.start FoB) (by decide)) rfl (hcalls.1 _ (List.mem_of_getElem? (i := 0) rfl)) (hsets _ (List.mem_of_getElem? (i := 2) rfl)) p e ha hc hk s m _ below hf ((Spec.applies_iff_loose hf).mp happ).1 ⟨rfl, ⟨State.Warmed39.refl s, rfl⟩, rfl⟩ trivial
  refine ⟨n, _, h1, h2, h3, hpost _ _ _ _ _ _ ⟨Cond.after_iff.mpr rfl, Cond.after_iff.mpr (eq_i res_at (Term.int_eval (1)) rfl), trivial⟩ ⟨hq.1, hq.2.1, hq.2.2.1, (hq.2.2.2.sift fun y hy => Or.inr (N y hy)).mono (by decide) (by decide)⟩⟩
theorem main_1_1 : Claimed_1_1 := comes_1 fun _ _ _ _ _ _ h hF => ⟨h.1, hF⟩
theorem main_1_2 : Claimed_1_2 := comes_1 fun _ _ _ _ _ _ h hF => ⟨h.2.1, hF⟩
end Jvm.Pilot.@@N@@
namespace Jvm.Pilot.@@N@@
open Jvm Jvm.ClassFile Sem Op Lib Jvm.Free Jvm.Stand Jvm.Pilot.@@N@@.Jvm.D
/-! MADE BY PROGRAM (witnessworld.py) out of the Statement's table words and the real class files: 18 classes; the members and pool entries that the words name. The judged class is class 1, her method 1. -/
namespace start1
open Jvm.ClassFile
def u (s : String) : CpInfo := .utf8 (stringToUtf16 s)
/-- a pool by its gaps: so many unusable entries, then the entry; so many at the end -/
def gap : Nat → List CpInfo → List CpInfo
  | 0, r => r
  | n + 1, r => .unusable :: gap n r
def poolList (es : List (Nat × CpInfo)) (last : Nat) : List CpInfo := es.foldr (fun e r => gap e.1 (e.2 :: r)) (gap last [])
def pool (es : List (Nat × CpInfo)) (last : Nat) : Array CpInfo := ⟨poolList es last⟩
def fileOf (pool : Array CpInfo) (this : Nat) (attrs : Array Attribute := #[]) (ms : Array MethodInfo := #[]) (fl : Nat := 33) (sup : Nat := 0) (ifs : Array Nat := #[]) (fds : Array FieldInfo := #[]) : ClassFile where
  minorVersion := 0
  majorVersion := 65
  constantPool := pool
  accessFlags := fl
  thisClass := this
  superClass := sup
  interfaces := ifs
  fields := fds
  methods := ms
  attributes := attrs
def plain (name : String) (sup : Option ClassId) : Class where
  name := name
  kind := .ordinary
  loader := none
  accessFlags := 33
  super := sup
  interfaces := #[]
  cf := none
  fields := #[]
  methods := #[]
  instanceTypes := #[]
  staticTypes := #[]
  resolved := #[]
  callSites := []
  init := .initialized
  statics := none
  mirror := none

def pool0 : Array CpInfo := pool [(5, u "<init>"), (0, u "()V"), (1, .class_ 10), (1, u "java/lang/Object")] 113

def k0m0 : Method := { name := "<init>", desc := "()V", sig := { parameters := [], returnType := none }, accessFlags := 1, code := none }
/-- java/lang/Object -/
def k0 : Class := { plain "java/lang/Object" none with
  accessFlags := 33
  interfaces := #[]
  cf := some (fileOf pool0 8 #[] #[{ accessFlags := 1, nameIndex := 5, descriptorIndex := 6, attributes := #[] }] 33 0 #[] #[])
  fields := #[]
  methods := #[k0m0]
  instanceTypes := #[]
  staticTypes := #[]
  resolved := Array.replicate 124 none
  statics := none }

def pool1 : Array CpInfo := pool [(2, .class_ 4), (1, u "java/lang/Object"), (0, u "<init>"), (0, u "()V"), (0, .integer 2147483647), (0, .fieldref 9 10), (0, .class_ 11), (0, .nameAndType 12 13), (0, u "com/example/pryority/pryority/Strategy"), (0, u "BFS"), (0, u "Lcom/example/pryority/pryority/Strategy;"), (0, .fieldref 9 15), (0, .nameAndType 16 13), (0, u "BEST_FIRST"), (0, .fieldref 9 18), (0, .nameAndType 19 13), (0, u "PRIORITY"), (0, .methodref 9 21), (0, .nameAndType 22 23), (0, u "label"), (0, u "()Ljava/lang/String;"), (0, .string 25), (0, u "bfs"), (0, .methodref 27 28), (0, .class_ 29), (0, .nameAndType 30 31), (0, u "java/lang/String"), (0, u "equals"), (0, u "(Ljava/lang/Object;)Z"), (0, .methodref 9 33), (0, .nameAndType 34 35), (0, u "hasPriorities"), (0, u "()Z"), (0, .class_ 37), (0, u "com/example/pryority/pryority/StrategyHasPrioritiesPinLaw"), (2, u "law"), (0, u "(I)Z")] 3

def k1m0 : Method := { name := "<init>", desc := "()V", sig := { parameters := [], returnType := none }, accessFlags := 1, code := none }
def k1c1 : Code := { maxStack := 2, maxLocals := 6, code := code, exceptionTable := #[], attributes := #[] }
def k1m1 : Method := { name := "law", desc := "(I)Z", sig := { parameters := [.int], returnType := some .boolean }, accessFlags := 9, code := some k1c1 }
/-- com/example/pryority/pryority/StrategyHasPrioritiesPinLaw -/
def k1 : Class := { plain "com/example/pryority/pryority/StrategyHasPrioritiesPinLaw" (some 0) with
  accessFlags := 49
  interfaces := #[]
  cf := some (fileOf pool1 36 #[] #[{ accessFlags := 1, nameIndex := 5, descriptorIndex := 6, attributes := #[] }, { accessFlags := 9, nameIndex := 40, descriptorIndex := 41, attributes := #[] }] 49 2 #[] #[])
  fields := #[]
  methods := #[k1m0, k1m1]
  instanceTypes := #[]
  staticTypes := #[]
  resolved := Array.replicate 45 none
  statics := none }

def pool2 : Array CpInfo := pool [(1, .class_ 2), (0, u "java/lang/constant/Constable"), (0, .class_ 4), (0, u "java/lang/Object")] 6

/-- java/lang/constant/Constable -/
def k2 : Class := { plain "java/lang/constant/Constable" (some 0) with
  accessFlags := 1537
  interfaces := #[]
  cf := some (fileOf pool2 1 #[] #[] 1537 3 #[] #[])
  fields := #[]
  methods := #[]
  instanceTypes := #[]
  staticTypes := #[]
  resolved := Array.replicate 11 none
  statics := none }

def pool3 : Array CpInfo := pool [(1, .class_ 2), (0, u "java/lang/Comparable"), (0, .class_ 4), (0, u "java/lang/Object")] 7

/-- java/lang/Comparable -/
def k3 : Class := { plain "java/lang/Comparable" (some 0) with
  accessFlags := 1537
  interfaces := #[]
  cf := some (fileOf pool3 1 #[] #[] 1537 3 #[] #[])
  fields := #[]
  methods := #[]
  instanceTypes := #[]
  staticTypes := #[]
  resolved := Array.replicate 12 none
  statics := none }

def pool4 : Array CpInfo := pool [(1, .class_ 2), (0, u "java/io/Serializable"), (0, .class_ 4), (0, u "java/lang/Object")] 2

/-- java/io/Serializable -/
def k4 : Class := { plain "java/io/Serializable" (some 0) with
  accessFlags := 1537
  interfaces := #[]
  cf := some (fileOf pool4 1 #[] #[] 1537 3 #[] #[])
  fields := #[]
  methods := #[]
  instanceTypes := #[]
  staticTypes := #[]
  resolved := Array.replicate 7 none
  statics := none }

def pool5 : Array CpInfo := pool [(2, .class_ 4), (1, u "java/lang/Enum"), (0, u "name"), (0, u "Ljava/lang/String;"), (2, u "ordinal"), (0, u "I"), (1, .class_ 14), (1, u "java/lang/Object"), (4, u "hash"), (86, .class_ 108), (1, u "java/lang/Enum$EnumDesc"), (2, .class_ 112), (0, u "java/lang/constant/Constable"), (0, .class_ 114), (0, u "java/lang/Comparable"), (0, .class_ 116), (0, u "java/io/Serializable")] 87

/-- java/lang/Enum -/
def k5 : Class := { plain "java/lang/Enum" (some 0) with
  accessFlags := 1057
  interfaces := #[2, 3, 4]
  cf := some (fileOf pool5 2 #[.nestMembers #[106]] #[] 1057 12 #[111, 113, 115] #[{ accessFlags := 18, nameIndex := 5, descriptorIndex := 6, attributes := #[] }, { accessFlags := 18, nameIndex := 9, descriptorIndex := 10, attributes := #[] }, { accessFlags := 2, nameIndex := 19, descriptorIndex := 10, attributes := #[] }])
  fields := #[{ name := "name", type := (.object "java/lang/String"), accessFlags := 18, slot := 0, constantValue := 0 }, { name := "ordinal", type := .int, accessFlags := 18, slot := 1, constantValue := 0 }, { name := "hash", type := .int, accessFlags := 2, slot := 2, constantValue := 0 }]
  methods := #[]
  instanceTypes := #[(.object "java/lang/String"), .int, .int]
  staticTypes := #[]
  resolved := Array.replicate 204 none
  statics := none }

def pool6 : Array CpInfo := pool [(1, .class_ 2), (0, u "com/example/pryority/pryority/Strategy"), (0, .fieldref 1 4), (0, .nameAndType 5 6), (0, u "BFS"), (0, u "Lcom/example/pryority/pryority/Strategy;"), (2, u "BEST_FIRST"), (2, u "PRIORITY"), (2, u "$VALUES"), (0, u "[Lcom/example/pryority/pryority/Strategy;"), (6, .class_ 25), (1, u "java/lang/Enum"), (6, .fieldref 1 33), (0, .nameAndType 34 35), (0, u "label"), (0, u "Ljava/lang/String;"), (75, u "PAGE_WEIGHT"), (0, u "D"), (1, u "ANCHOR_WEIGHT"), (0, u "CONTEXT_WEIGHT"), (0, u "STEPS"), (6, u "()Ljava/lang/String;"), (6, u "hasPriorities"), (0, u "()Z")] 5

def k6c0 : Code := { maxStack := 1, maxLocals := 1, code := prog_12_method_4_code, exceptionTable := #[], attributes := #[] }
def k6m0 : Method := { name := "label", desc := "()Ljava/lang/String;", sig := { parameters := [], returnType := some (.object "java/lang/String") }, accessFlags := 0, code := some k6c0 }
def k6c1 : Code := { maxStack := 2, maxLocals := 1, code := prog_12_method_7_code, exceptionTable := #[], attributes := #[] }
def k6m1 : Method := { name := "hasPriorities", desc := "()Z", sig := { parameters := [], returnType := some .boolean }, accessFlags := 0, code := some k6c1 }
/-- com/example/pryority/pryority/Strategy -/
def k6 : Class := { plain "com/example/pryority/pryority/Strategy" (some 5) with
  accessFlags := 16432
  interfaces := #[]
  cf := some (fileOf pool6 1 #[] #[{ accessFlags := 0, nameIndex := 34, descriptorIndex := 123, attributes := #[] }, { accessFlags := 0, nameIndex := 130, descriptorIndex := 131, attributes := #[] }] 16432 23 #[] #[{ accessFlags := 16409, nameIndex := 5, descriptorIndex := 6, attributes := #[] }, { accessFlags := 16409, nameIndex := 9, descriptorIndex := 6, attributes := #[] }, { accessFlags := 16409, nameIndex := 12, descriptorIndex := 6, attributes := #[] }, { accessFlags := 26, nameIndex := 111, descriptorIndex := 112, attributes := #[] }, { accessFlags := 26, nameIndex := 114, descriptorIndex := 112, attributes := #[] }, { accessFlags := 26, nameIndex := 115, descriptorIndex := 112, attributes := #[] }, { accessFlags := 26, nameIndex := 116, descriptorIndex := 112, attributes := #[] }, { accessFlags := 18, nameIndex := 34, descriptorIndex := 35, attributes := #[] }, { accessFlags := 4122, nameIndex := 15, descriptorIndex := 16, attributes := #[] }])
  fields := #[{ name := "BFS", type := (.object "com/example/pryority/pryority/Strategy"), accessFlags := 16409, slot := 0, constantValue := 0 }, { name := "BEST_FIRST", type := (.object "com/example/pryority/pryority/Strategy"), accessFlags := 16409, slot := 1, constantValue := 0 }, { name := "PRIORITY", type := (.object "com/example/pryority/pryority/Strategy"), accessFlags := 16409, slot := 2, constantValue := 0 }, { name := "PAGE_WEIGHT", type := .double, accessFlags := 26, slot := 3, constantValue := 0 }, { name := "ANCHOR_WEIGHT", type := .double, accessFlags := 26, slot := 4, constantValue := 0 }, { name := "CONTEXT_WEIGHT", type := .double, accessFlags := 26, slot := 5, constantValue := 0 }, { name := "STEPS", type := .double, accessFlags := 26, slot := 6, constantValue := 0 }, { name := "label", type := (.object "java/lang/String"), accessFlags := 18, slot := 3, constantValue := 0 }, { name := "$VALUES", type := (.array (.object "com/example/pryority/pryority/Strategy")), accessFlags := 4122, slot := 7, constantValue := 0 }]
  methods := #[k6m0, k6m1]
  instanceTypes := #[(.object "java/lang/String"), .int, .int, (.object "java/lang/String")]
  staticTypes := #[(.object "com/example/pryority/pryority/Strategy"), (.object "com/example/pryority/pryority/Strategy"), (.object "com/example/pryority/pryority/Strategy"), .double, .double, .double, .double, (.array (.object "com/example/pryority/pryority/Strategy"))]
  resolved := Array.replicate 137 none
  statics := some 0 }

def pool7 : Array CpInfo := pool [(2, .class_ 4), (1, u "java/lang/CharSequence"), (42, .class_ 48), (0, u "java/lang/CharSequence$1CodePointIterator"), (10, .class_ 60), (0, u "java/lang/CharSequence$1CharIterator"), (5, .class_ 67), (0, u "java/lang/Object")] 63

/-- java/lang/CharSequence -/
def k7 : Class := { plain "java/lang/CharSequence" (some 0) with
  accessFlags := 1537
  interfaces := #[]
  cf := some (fileOf pool7 2 #[.nestMembers #[47, 59]] #[] 1537 66 #[] #[])
  fields := #[]
  methods := #[]
  instanceTypes := #[]
  staticTypes := #[]
  resolved := Array.replicate 131 none
  statics := none }

def pool8 : Array CpInfo := pool [(1, .class_ 2), (0, u "java/lang/constant/ConstantDesc"), (0, .class_ 4), (0, u "java/lang/Object")] 32

/-- java/lang/constant/ConstantDesc -/
def k8 : Class := { plain "java/lang/constant/ConstantDesc" (some 0) with
  accessFlags := 1537
  interfaces := #[]
  cf := some (fileOf pool8 1 #[] #[] 1537 3 #[] #[])
  fields := #[]
  methods := #[]
  instanceTypes := #[]
  staticTypes := #[]
  resolved := Array.replicate 37 none
  statics := none }

def pool9 : Array CpInfo := pool [(2, .class_ 4), (1, u "java/lang/Object"), (0, u "<init>"), (0, u "()V"), (2, .fieldref 10 11), (0, .class_ 12), (0, .nameAndType 13 14), (0, u "java/lang/String"), (0, u "value"), (0, u "[B"), (0, .fieldref 10 16), (0, .nameAndType 17 18), (0, u "coder"), (0, u "B"), (2, u "hash"), (0, u "I"), (2, u "hashIsZero"), (0, u "Z"), (11, .fieldref 10 39), (0, .nameAndType 40 26), (0, u "COMPACT_STRINGS"), (66, .class_ 109), (1, u "java/lang/StringLatin1"), (431, .methodref 107 542), (0, .nameAndType 543 544), (0, u "equals"), (0, u "([B[B)Z"), (28, u "(Ljava/lang/Object;)Z"), (1, .class_ 576), (0, u "java/lang/CharSequence"), (22, u "CASE_INSENSITIVE_ORDER"), (0, u "Ljava/util/Comparator;"), (500, u "serialPersistentFields"), (0, u "[Ljava/io/ObjectStreamField;"), (0, .class_ 1104), (0, u "java/lang/String$CaseInsensitiveComparator"), (1, .class_ 1107), (0, u "java/io/Serializable"), (0, .class_ 1109), (0, u "java/lang/Comparable"), (0, .class_ 1111), (0, u "java/lang/constant/Constable"), (0, .class_ 1113), (0, u "java/lang/constant/ConstantDesc"), (2, u "serialVersionUID"), (0, u "J"), (3, u "REPL"), (0, u "C"), (2, u "LATIN1"), (1, u "UTF16")] 323

def k9m0 : Method := { name := "<init>", desc := "()V", sig := { parameters := [], returnType := none }, accessFlags := 1, code := none }
def k9c1 : Code := { maxStack := 2, maxLocals := 3, code := jdk_42_method_66_code, exceptionTable := #[], attributes := #[] }
def k9m1 : Method := { name := "equals", desc := "(Ljava/lang/Object;)Z", sig := { parameters := [(.object "java/lang/Object")], returnType := some .boolean }, accessFlags := 1, code := some k9c1 }
/-- java/lang/String -/
def k9 : Class := { plain "java/lang/String" (some 0) with
  accessFlags := 49
  interfaces := #[4, 3, 7, 2, 8]
  cf := some (fileOf pool9 10 #[.nestMembers #[1103]] #[{ accessFlags := 1, nameIndex := 5, descriptorIndex := 6, attributes := #[] }, { accessFlags := 1, nameIndex := 543, descriptorIndex := 573, attributes := #[] }] 49 2 #[1106, 1108, 575, 1110, 1112] #[{ accessFlags := 18, nameIndex := 13, descriptorIndex := 14, attributes := #[] }, { accessFlags := 18, nameIndex := 17, descriptorIndex := 18, attributes := #[] }, { accessFlags := 2, nameIndex := 21, descriptorIndex := 22, attributes := #[] }, { accessFlags := 2, nameIndex := 25, descriptorIndex := 26, attributes := #[] }, { accessFlags := 26, nameIndex := 1116, descriptorIndex := 1117, attributes := #[] }, { accessFlags := 24, nameIndex := 40, descriptorIndex := 26, attributes := #[] }, { accessFlags := 26, nameIndex := 1101, descriptorIndex := 1102, attributes := #[] }, { accessFlags := 26, nameIndex := 1121, descriptorIndex := 1122, attributes := #[] }, { accessFlags := 25, nameIndex := 599, descriptorIndex := 600, attributes := #[] }, { accessFlags := 24, nameIndex := 1125, descriptorIndex := 18, attributes := #[] }, { accessFlags := 24, nameIndex := 1127, descriptorIndex := 18, attributes := #[] }])
  fields := #[{ name := "value", type := (.array .byte), accessFlags := 18, slot := 0, constantValue := 0 }, { name := "coder", type := .byte, accessFlags := 18, slot := 1, constantValue := 0 }, { name := "hash", type := .int, accessFlags := 2, slot := 2, constantValue := 0 }, { name := "hashIsZero", type := .boolean, accessFlags := 2, slot := 3, constantValue := 0 }, { name := "serialVersionUID", type := .long, accessFlags := 26, slot := 0, constantValue := 0 }, { name := "COMPACT_STRINGS", type := .boolean, accessFlags := 24, slot := 1, constantValue := 0 }, { name := "serialPersistentFields", type := (.array (.object "java/io/ObjectStreamField")), accessFlags := 26, slot := 2, constantValue := 0 }, { name := "REPL", type := .char, accessFlags := 26, slot := 3, constantValue := 0 }, { name := "CASE_INSENSITIVE_ORDER", type := (.object "java/util/Comparator"), accessFlags := 25, slot := 4, constantValue := 0 }, { name := "LATIN1", type := .byte, accessFlags := 24, slot := 5, constantValue := 0 }, { name := "UTF16", type := .byte, accessFlags := 24, slot := 6, constantValue := 0 }]
  methods := #[k9m0, k9m1]
  instanceTypes := #[(.array .byte), .byte, .int, .boolean]
  staticTypes := #[.long, .boolean, (.array (.object "java/io/ObjectStreamField")), .char, (.object "java/util/Comparator"), .byte, .byte]
  resolved := Array.replicate 1451 none
  statics := some 1 }

def pool10 : Array CpInfo := pool [(4, .class_ 6), (1, u "java/lang/Object"), (0, u "<init>"), (0, u "()V"), (5, .class_ 16), (1, u "java/lang/StringLatin1"), (104, u "$assertionsDisabled"), (0, u "Z"), (98, .class_ 223), (1, u "java/lang/StringLatin1$LinesSpliterator"), (57, u "equals"), (0, u "([B[B)Z"), (107, .class_ 391), (0, u "java/lang/StringLatin1$CharsSpliterator")] 3

def k10m0 : Method := { name := "<init>", desc := "()V", sig := { parameters := [], returnType := none }, accessFlags := 0, code := none }
def k10c1 : Code := { maxStack := 3, maxLocals := 3, code := jdk_43_method_13_code, exceptionTable := #[], attributes := #[] }
def k10m1 : Method := { name := "equals", desc := "([B[B)Z", sig := { parameters := [(.array .byte), (.array .byte)], returnType := some .boolean }, accessFlags := 9, code := some k10c1 }
/-- java/lang/StringLatin1 -/
def k10 : Class := { plain "java/lang/StringLatin1" (some 0) with
  accessFlags := 48
  interfaces := #[]
  cf := some (fileOf pool10 14 #[.nestMembers #[390, 221]] #[{ accessFlags := 0, nameIndex := 7, descriptorIndex := 8, attributes := #[] }, { accessFlags := 9, nameIndex := 281, descriptorIndex := 282, attributes := #[] }] 48 4 #[] #[{ accessFlags := 4120, nameIndex := 121, descriptorIndex := 122, attributes := #[] }])
  fields := #[{ name := "$assertionsDisabled", type := .boolean, accessFlags := 4120, slot := 0, constantValue := 0 }]
  methods := #[k10m0, k10m1]
  instanceTypes := #[]
  staticTypes := #[.boolean]
  resolved := Array.replicate 395 none
  statics := none }

def pool11 : Array CpInfo := pool [(2, .class_ 4), (1, u "java/lang/Object"), (0, u "<init>"), (0, u "()V"), (17, .class_ 26), (1, u "jdk/internal/util/Preconditions"), (28, .class_ 56), (0, u "jdk/internal/util/Preconditions$4"), (57, .class_ 115), (0, u "jdk/internal/util/Preconditions$1"), (7, u "SIOOBE_FORMATTER"), (0, u "Ljava/util/function/BiFunction;"), (0, .class_ 126), (0, u "jdk/internal/util/Preconditions$2"), (3, u "AIOOBE_FORMATTER"), (0, .class_ 132), (0, u "jdk/internal/util/Preconditions$3"), (3, u "IOOBE_FORMATTER")] 57

def k11m0 : Method := { name := "<init>", desc := "()V", sig := { parameters := [], returnType := none }, accessFlags := 1, code := none }
/-- jdk/internal/util/Preconditions -/
def k11 : Class := { plain "jdk/internal/util/Preconditions" (some 0) with
  accessFlags := 33
  interfaces := #[]
  cf := some (fileOf pool11 24 #[.nestMembers #[55, 131, 125, 114]] #[{ accessFlags := 1, nameIndex := 5, descriptorIndex := 6, attributes := #[] }] 33 2 #[] #[{ accessFlags := 25, nameIndex := 123, descriptorIndex := 124, attributes := #[] }, { accessFlags := 25, nameIndex := 130, descriptorIndex := 124, attributes := #[] }, { accessFlags := 25, nameIndex := 136, descriptorIndex := 124, attributes := #[] }])
  fields := #[{ name := "SIOOBE_FORMATTER", type := (.object "java/util/function/BiFunction"), accessFlags := 25, slot := 0, constantValue := 0 }, { name := "AIOOBE_FORMATTER", type := (.object "java/util/function/BiFunction"), accessFlags := 25, slot := 1, constantValue := 0 }, { name := "IOOBE_FORMATTER", type := (.object "java/util/function/BiFunction"), accessFlags := 25, slot := 2, constantValue := 0 }]
  methods := #[k11m0]
  instanceTypes := #[]
  staticTypes := #[(.object "java/util/function/BiFunction"), (.object "java/util/function/BiFunction"), (.object "java/util/function/BiFunction")]
  resolved := Array.replicate 194 none
  statics := some 2 }

def pool12 : Array CpInfo := pool [(9, u "<init>"), (6, .class_ 18), (1, u "java/lang/Object"), (0, u "()V"), (1, .class_ 23), (1, u "jdk/internal/util/ArraysSupport"), (0, u "LOG2_ARRAY_LONG_INDEX_SCALE"), (0, u "I"), (2, u "U"), (0, u "Ljdk/internal/misc/Unsafe;"), (8, u "BIG_ENDIAN"), (0, u "Z"), (8, u "LOG2_BYTE_BIT_SIZE"), (4, u "LOG2_ARRAY_INT_INDEX_SCALE"), (54, u "JLA"), (0, u "Ljdk/internal/access/JavaLangAccess;"), (11, u "LOG2_ARRAY_BOOLEAN_INDEX_SCALE"), (9, u "LOG2_ARRAY_BYTE_INDEX_SCALE"), (5, u "LOG2_ARRAY_CHAR_INDEX_SCALE"), (5, u "LOG2_ARRAY_SHORT_INDEX_SCALE"), (18, u "LOG2_ARRAY_FLOAT_INDEX_SCALE"), (24, u "LOG2_ARRAY_DOUBLE_INDEX_SCALE"), (89, u "T_BOOLEAN"), (2, u "T_CHAR"), (1, u "T_FLOAT"), (1, u "T_DOUBLE"), (1, u "T_BYTE"), (1, u "T_SHORT"), (1, u "T_INT"), (1, u "T_LONG"), (1, u "SOFT_MAX_ARRAY_LENGTH")] 83

def k12m0 : Method := { name := "<init>", desc := "()V", sig := { parameters := [], returnType := none }, accessFlags := 2, code := none }
/-- jdk/internal/util/ArraysSupport -/
def k12 : Class := { plain "jdk/internal/util/ArraysSupport" (some 0) with
  accessFlags := 33
  interfaces := #[]
  cf := some (fileOf pool12 21 #[] #[{ accessFlags := 2, nameIndex := 9, descriptorIndex := 19, attributes := #[] }] 33 16 #[] #[{ accessFlags := 24, nameIndex := 28, descriptorIndex := 29, attributes := #[] }, { accessFlags := 26, nameIndex := 38, descriptorIndex := 39, attributes := #[] }, { accessFlags := 25, nameIndex := 121, descriptorIndex := 25, attributes := #[] }, { accessFlags := 25, nameIndex := 131, descriptorIndex := 25, attributes := #[] }, { accessFlags := 25, nameIndex := 137, descriptorIndex := 25, attributes := #[] }, { accessFlags := 25, nameIndex := 143, descriptorIndex := 25, attributes := #[] }, { accessFlags := 25, nameIndex := 53, descriptorIndex := 25, attributes := #[] }, { accessFlags := 25, nameIndex := 24, descriptorIndex := 25, attributes := #[] }, { accessFlags := 25, nameIndex := 162, descriptorIndex := 25, attributes := #[] }, { accessFlags := 25, nameIndex := 187, descriptorIndex := 25, attributes := #[] }, { accessFlags := 26, nameIndex := 48, descriptorIndex := 25, attributes := #[] }, { accessFlags := 25, nameIndex := 277, descriptorIndex := 25, attributes := #[] }, { accessFlags := 25, nameIndex := 280, descriptorIndex := 25, attributes := #[] }, { accessFlags := 25, nameIndex := 282, descriptorIndex := 25, attributes := #[] }, { accessFlags := 25, nameIndex := 284, descriptorIndex := 25, attributes := #[] }, { accessFlags := 25, nameIndex := 286, descriptorIndex := 25, attributes := #[] }, { accessFlags := 25, nameIndex := 288, descriptorIndex := 25, attributes := #[] }, { accessFlags := 25, nameIndex := 290, descriptorIndex := 25, attributes := #[] }, { accessFlags := 25, nameIndex := 292, descriptorIndex := 25, attributes := #[] }, { accessFlags := 26, nameIndex := 108, descriptorIndex := 109, attributes := #[] }, { accessFlags := 25, nameIndex := 294, descriptorIndex := 25, attributes := #[] }])
  fields := #[{ name := "U", type := (.object "jdk/internal/misc/Unsafe"), accessFlags := 24, slot := 0, constantValue := 0 }, { name := "BIG_ENDIAN", type := .boolean, accessFlags := 26, slot := 1, constantValue := 0 }, { name := "LOG2_ARRAY_BOOLEAN_INDEX_SCALE", type := .int, accessFlags := 25, slot := 2, constantValue := 0 }, { name := "LOG2_ARRAY_BYTE_INDEX_SCALE", type := .int, accessFlags := 25, slot := 3, constantValue := 0 }, { name := "LOG2_ARRAY_CHAR_INDEX_SCALE", type := .int, accessFlags := 25, slot := 4, constantValue := 0 }, { name := "LOG2_ARRAY_SHORT_INDEX_SCALE", type := .int, accessFlags := 25, slot := 5, constantValue := 0 }, { name := "LOG2_ARRAY_INT_INDEX_SCALE", type := .int, accessFlags := 25, slot := 6, constantValue := 0 }, { name := "LOG2_ARRAY_LONG_INDEX_SCALE", type := .int, accessFlags := 25, slot := 7, constantValue := 0 }, { name := "LOG2_ARRAY_FLOAT_INDEX_SCALE", type := .int, accessFlags := 25, slot := 8, constantValue := 0 }, { name := "LOG2_ARRAY_DOUBLE_INDEX_SCALE", type := .int, accessFlags := 25, slot := 9, constantValue := 0 }, { name := "LOG2_BYTE_BIT_SIZE", type := .int, accessFlags := 26, slot := 10, constantValue := 0 }, { name := "T_BOOLEAN", type := .int, accessFlags := 25, slot := 11, constantValue := 0 }, { name := "T_CHAR", type := .int, accessFlags := 25, slot := 12, constantValue := 0 }, { name := "T_FLOAT", type := .int, accessFlags := 25, slot := 13, constantValue := 0 }, { name := "T_DOUBLE", type := .int, accessFlags := 25, slot := 14, constantValue := 0 }, { name := "T_BYTE", type := .int, accessFlags := 25, slot := 15, constantValue := 0 }, { name := "T_SHORT", type := .int, accessFlags := 25, slot := 16, constantValue := 0 }, { name := "T_INT", type := .int, accessFlags := 25, slot := 17, constantValue := 0 }, { name := "T_LONG", type := .int, accessFlags := 25, slot := 18, constantValue := 0 }, { name := "JLA", type := (.object "jdk/internal/access/JavaLangAccess"), accessFlags := 26, slot := 19, constantValue := 0 }, { name := "SOFT_MAX_ARRAY_LENGTH", type := .int, accessFlags := 25, slot := 20, constantValue := 0 }]
  methods := #[k12m0]
  instanceTypes := #[]
  staticTypes := #[(.object "jdk/internal/misc/Unsafe"), .boolean, .int, .int, .int, .int, .int, .int, .int, .int, .int, .int, .int, .int, .int, .int, .int, .int, .int, (.object "jdk/internal/access/JavaLangAccess"), .int]
  resolved := Array.replicate 378 none
  statics := none }

def pool13 : Array CpInfo := pool [(1, u "java/lang/Cloneable"), (0, .class_ 1), (0, u "java/lang/Object"), (0, .class_ 3)] 3

/-- java/lang/Cloneable -/
def k13 : Class := { plain "java/lang/Cloneable" (some 0) with
  accessFlags := 1537
  interfaces := #[]
  cf := some (fileOf pool13 2 #[] #[] 1537 4 #[] #[])
  fields := #[]
  methods := #[]
  instanceTypes := #[]
  staticTypes := #[]
  resolved := Array.replicate 8 none
  statics := none }

/-- the primitive byte -/
def k14 : Class := { plain "byte" none with kind := .primitive 'B', accessFlags := 0x411 }
/-- [B -/
def k15 : Class := { plain "[B" (some 0) with kind := .array 14 .byte, interfaces := #[13, 4], accessFlags := 1041 }

/-- the primitive int -/
def k16 : Class := { plain "int" none with kind := .primitive 'I', accessFlags := 0x411 }
/-- [I -/
def k17 : Class := { plain "[I" (some 0) with kind := .array 16 .int, interfaces := #[13, 4], accessFlags := 1041 }

def heap : Heap := #[{ cls := 6, slots := #[.ref 9, .ref 10, .ref 11, .double 0, .double 0, .double 0, .double 0, .null], vm := .statics 6 },
  { cls := 9, slots := #[.long 0, .int 1, .null, .int 0, .null, .int 0, .int 0], vm := .statics 9 },
  { cls := 11, slots := #[.null, .null, .null], vm := .statics 11 },
  { cls := 15, slots := #[.int 98, .int 102, .int 115], vm := .none },
  { cls := 15, slots := #[.int 98, .int 101, .int 115, .int 116, .int 45, .int 102, .int 105, .int 114, .int 115, .int 116], vm := .none },
  { cls := 15, slots := #[.int 112, .int 114, .int 105, .int 111, .int 114, .int 105, .int 116, .int 121], vm := .none },
  { cls := 9, slots := #[.ref 3, .int 0, .int 0, .int 0], vm := .none },
  { cls := 9, slots := #[.ref 4, .int 0, .int 0, .int 0], vm := .none },
  { cls := 9, slots := #[.ref 5, .int 0, .int 0, .int 0], vm := .none },
  { cls := 6, slots := #[.null, .int 0, .int 0, .ref 6], vm := .none },
  { cls := 6, slots := #[.null, .int 1, .int 0, .ref 7], vm := .none },
  { cls := 6, slots := #[.null, .int 2, .int 0, .ref 8], vm := .none }]
def classes : Array Class := #[k0, k1, k2, k3, k4, k5, k6, k7, k8, k9, k10, k11, k12, k13, k14, k15, k16, k17]
def interned : List (Array UInt16 × Addr) := []
def slotsUsed : Nat := 63
def theMethod : MethodId := ⟨1, 1⟩
def args0 : Array Value := #[.int 5]
def aboutOver (below : List Frame) : State where
  vm := { classes := classes, interned := interned.toArray }
  heap := heap
  slotsUsed := slotsUsed
  threads := #[{ frames := .invoking theMethod args0 :: below }]
def below0 : List Frame := [.native { method := ⟨0, 0⟩, args := #[] }]
def about1 : State := aboutOver below0
def p0 : Program := .bare "" "" ""
def e0 : Env := launch0.env 0 0 0
theorem w_frames : about1.frames = Frame.invoking theMethod args0 :: below0 := rfl
set_option maxRecDepth 65536 in
theorem w_args : argsFit about1.vm theMethod args0 = true := by decide +kernel
set_option maxRecDepth 65536 in
theorem w_heap : heapFits about1 = true := by decide +kernel
set_option maxRecDepth 65536 in
theorem w_runnable : about1.curStatus? = some .runnable := by decide +kernel
set_option maxRecDepth 65536 in
theorem w_alone : about1.alone = true := by decide +kernel
set_option maxRecDepth 65536 in
theorem w_named : about1.methodNamed? x = some theMethod := by decide +kernel
set_option maxRecDepth 65536 in
theorem w_hears : about1.hears theMethod below0 = true := by decide +kernel
set_option maxRecDepth 65536 in
theorem w_ripe : about1.ripe theMethod args0 below0 = true := by decide +kernel
theorem w_running : about1.status = .running := rfl
set_option maxRecDepth 65536 in
theorem w_room : about1.hasRoom e0.platform room_1 = true :=
  launch0.hasRoom_least _ room_1 (by decide +kernel) (by decide +kernel) (by decide +kernel) (by decide +kernel) (by decide +kernel) (by decide +kernel)
theorem allAtoms_all (ts : List Jvm.Cond) (a : Array Jvm.Value) (st : Jvm.State) : (allAtoms ts).before a st = ts.all (fun c => c.before a st) := by
  induction ts with
  | nil => rfl
  | cons c t ih =>
    show (Jvm.Cond.and c (allAtoms t)).before a st = _
    rw [Jvm.Cond.before_and, ih, List.all_cons]
def words1 : List Jvm.Cond := Jvm.Cond.code x code maxLocals ret :: tables_1
/-- a 'code' word, met by the world's own term for the bytes: nothing is compared byte by byte -/
theorem code_word {y : MethodName} {bytes : ByteArray} {mx : Nat} {rt : Option FieldType} {a : Array Value} {s : State} {m : MethodId} {meth : Method} {c : Code} (h1 : s.methodNamed? y = some m) (h2 : s.vm.method? m = some meth) (h3 : meth.code = some c) (h4 : c.code = bytes)
    (h5 : (c.maxLocals == mx && c.exceptionTable.isEmpty && decide (c.maxStack ≤ mostOperands) && decide (meth.sig.returnType = rt) && !meth.locks && decide (parseMethodDescriptor y.desc = some meth.sig)) = true) : (Jvm.Cond.code y bytes mx rt).before a s = true := by
  simp only [Bool.and_eq_true, beq_iff_eq, Bool.not_eq_true', decide_eq_true_eq] at h5
  obtain ⟨⟨⟨⟨⟨g1, g2⟩, g3⟩, g4⟩, g5⟩, g6⟩ := h5
  simp [Cond.before, Cond.holds, Cond.value, h1, h2, h3, h4, g1, g2, g3, g4, g5, g6]
def isCode : Jvm.Cond → Bool
  | .code _ _ _ _ => true
  | _ => false
theorem all_split {L : List Jvm.Cond} {P : Jvm.Cond → Bool} (h1 : L.all (fun c => isCode c || P c) = true) (h2 : ∀ c ∈ L.filter isCode, P c = true) : L.all P = true := by
  refine List.all_eq_true.mpr fun c hc => ?_
  have h := List.all_eq_true.mp h1 c hc
  rcases Bool.eq_false_or_eq_true (isCode c) with hi | hi
  · exact h2 c (List.mem_filter.mpr ⟨hc, hi⟩)
  · simpa [hi] using h
set_option maxRecDepth 65536 in
theorem w_c0 : (Jvm.Cond.code x code maxLocals ret).before args0 about1 = true := code_word (m := ⟨1, 1⟩) (meth := k1m1) (c := k1c1) (by decide +kernel) rfl rfl rfl (by decide +kernel)
set_option maxRecDepth 65536 in
theorem w_c1 : (Jvm.Cond.code ({ cls := "com/example/pryority/pryority/Strategy", name := "label", desc := "()Ljava/lang/String;" } : Jvm.MethodName) prog_12_method_4_code (1 : Nat) (Option.some (Jvm.ClassFile.FieldType.object "java/lang/String"))).before args0 about1 = true := code_word (m := ⟨6, 0⟩) (meth := k6m0) (c := k6c0) (by decide +kernel) rfl rfl rfl (by decide +kernel)
set_option maxRecDepth 65536 in
theorem w_c2 : (Jvm.Cond.code ({ cls := "java/lang/String", name := "equals", desc := "(Ljava/lang/Object;)Z" } : Jvm.MethodName) jdk_42_method_66_code (3 : Nat) (Option.some Jvm.ClassFile.FieldType.boolean)).before args0 about1 = true := code_word (m := ⟨9, 1⟩) (meth := k9m1) (c := k9c1) (by decide +kernel) rfl rfl rfl (by decide +kernel)
set_option maxRecDepth 65536 in
theorem w_c3 : (Jvm.Cond.code ({ cls := "java/lang/StringLatin1", name := "equals", desc := "([B[B)Z" } : Jvm.MethodName) jdk_43_method_13_code (3 : Nat) (Option.some Jvm.ClassFile.FieldType.boolean)).before args0 about1 = true := code_word (m := ⟨10, 1⟩) (meth := k10m1) (c := k10c1) (by decide +kernel) rfl rfl rfl (by decide +kernel)
set_option maxRecDepth 65536 in
theorem w_c4 : (Jvm.Cond.code ({ cls := "com/example/pryority/pryority/Strategy", name := "hasPriorities", desc := "()Z" } : Jvm.MethodName) prog_12_method_7_code (1 : Nat) (Option.some Jvm.ClassFile.FieldType.boolean)).before args0 about1 = true := code_word (m := ⟨6, 1⟩) (meth := k6m1) (c := k6c1) (by decide +kernel) rfl rfl rfl (by decide +kernel)
def codes1 : List Jvm.Cond := [Jvm.Cond.code x code maxLocals ret, Jvm.Cond.code ({ cls := "com/example/pryority/pryority/Strategy", name := "label", desc := "()Ljava/lang/String;" } : Jvm.MethodName) prog_12_method_4_code (1 : Nat) (Option.some (Jvm.ClassFile.FieldType.object "java/lang/String")), Jvm.Cond.code ({ cls := "java/lang/String", name := "equals", desc := "(Ljava/lang/Object;)Z" } : Jvm.MethodName) jdk_42_method_66_code (3 : Nat) (Option.some Jvm.ClassFile.FieldType.boolean), Jvm.Cond.code ({ cls := "java/lang/StringLatin1", name := "equals", desc := "([B[B)Z" } : Jvm.MethodName) jdk_43_method_13_code (3 : Nat) (Option.some Jvm.ClassFile.FieldType.boolean), Jvm.Cond.code ({ cls := "com/example/pryority/pryority/Strategy", name := "hasPriorities", desc := "()Z" } : Jvm.MethodName) prog_12_method_7_code (1 : Nat) (Option.some Jvm.ClassFile.FieldType.boolean)]
set_option maxRecDepth 65536 in
theorem codes_eq : words1.filter isCode = codes1 := rfl
theorem w_codes : ∀ c ∈ words1.filter isCode, c.before args0 about1 = true := by
  rw [codes_eq]
  intro c hc
  simp only [codes1, List.mem_cons, List.not_mem_nil, or_false] at hc
  rcases hc with rfl | rfl | rfl | rfl | rfl
  · exact w_c0
  · exact w_c1
  · exact w_c2
  · exact w_c3
  · exact w_c4
set_option maxRecDepth 65536 in
theorem w_t1 : (words1.take 24).all (fun c => isCode c || c.before args0 about1) = true := by decide +kernel
set_option maxRecDepth 65536 in
theorem w_t2 : (words1.drop 24).all (fun c => isCode c || c.before args0 about1) = true := by decide +kernel
theorem w_tables : (allAtoms (Jvm.Cond.code x code maxLocals ret :: tables_1)).before args0 about1 = true := by
  rw [allAtoms_all]
  show words1.all (fun c => c.before args0 about1) = true
  refine all_split ?_ w_codes
  rw [← List.take_append_drop 24 words1, List.all_append, w_t1, w_t2]
  rfl
set_option maxRecDepth 65536 in
theorem w_rest : rest_1_c.before args0 about1 = true := by decide +kernel
set_option maxRecDepth 65536 in
theorem w_case : (Jvm.Cond.and given_1 narrow_1).before args0 about1 = true := by decide +kernel
set_option maxRecDepth 65536 in
theorem w_consts : constsHeld consts_1 about1 := Jvm.Lit.constsHeldB_iff.mp (by decide +kernel)
theorem w_applies : (headSpec (Jvm.Cond.code x code maxLocals ret :: tables_1) room_1).applies x e0.platform about1 = true :=
  (Spec.applies_iff w_frames).mpr ⟨w_running, w_runnable, w_alone, w_named, w_hears, w_ripe, w_room, w_tables⟩
theorem atStart : AtStart classFile x code maxLocals ret World_1 tables_1 room_1 Calls_1 rest_1 Pre_1 launch0 p0 e0 about1 theMethod args0 below0 :=
  ⟨lists_1, trivial, launch0.admits_env _ _ _, launch0.least_env, fairChoices_fair.cas, fairChoices_fair.clock, w_frames, w_args, w_heap, w_applies, ⟨w_consts, trivial⟩, w_rest, w_case⟩
end start1
theorem witness_1 : WitnessClaimed_1 := ⟨start1.p0, start1.e0, start1.about1, start1.theMethod, start1.args0, start1.below0, start1.atStart⟩
end Jvm.Pilot.@@N@@
