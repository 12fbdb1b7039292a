import JvmDerived
import JvmDerived.Pilot.@@N@@Statement
import JvmDerived.Pilot.@@N@@Code
set_option linter.unusedVariables false
set_option linter.unusedSimpArgs false
namespace Jvm.Pilot.@@N@@
open Jvm Jvm.ClassFile Sem Op Lib Jvm.Free Jvm.Stand Jvm.LawKit Jvm.RoadKit Bundle Jvm.Pilot.@@N@@.Jvm.D
/-- the run from S ends as G says -/
def own_Fin (p : Program) (e : Env) (below : List Frame) (G : Outcome → State → Prop) (S : State) : Prop :=
  ∃ t o, Steps p.tables e below S t ∧ t.status = .running ∧ Ended t below o ∧ G o t
theorem own_go {p : Program} {e : Env} {below : List Frame} {G : Outcome → State → Prop} {S S' : State} (h : Steps p.tables e below S S') (k : own_Fin p e below G S') : own_Fin p e below G S := by
  obtain ⟨t, o, h1, h2, h3, h4⟩ := k
  exact ⟨t, o, h.trans h1, h2, h3, h4⟩
theorem own_by {p : Program} {e : Env} {below : List Frame} {G : Outcome → State → Prop} {S S' : State} (h : ∀ t, Steps p.tables e below S' t → Steps p.tables e below S t) (k : own_Fin p e below G S') : own_Fin p e below G S := by
  obtain ⟨t, o, h1, h2, h3, h4⟩ := k
  exact ⟨t, o, h t h1, h2, h3, h4⟩
theorem own_done {p : Program} {e : Env} {below : List Frame} {G : Outcome → State → Prop} {S t : State} {o : Outcome} (h1 : Steps p.tables e below S t) (h2 : t.status = .running) (h3 : Ended t below o) (h4 : G o t) : own_Fin p e below G S := ⟨t, o, h1, h2, h3, h4⟩
def own_get (rs : List Int32) (j : Int32) : Int32 := rs.getD j.toNatClampNeg 0
theorem own_getD (rs : List Int32) (j : Int32) : (rs.map Value.int).getD j.toNatClampNeg (.int (0 : Int32)) = .int (own_get rs j) := by
  unfold own_get
  rw [List.getD_eq_getElem?_getD, List.getD_eq_getElem?_getD, List.getElem?_map]
  cases rs[j.toNatClampNeg]? <;> rfl
theorem own_retI {p : Program} {l : Launch} {e : Env} {R : Room} {s : State} {m : MethodId} {args : Array Value} {below : List Frame} {meth : Method} {c : Code} {T : State} {locs : List Loc} {cells slots : Nat} (X : Stand p l e R s m args below meth c T locs cells slots) (hx : p.tables.exec = Jvm.exec) {pc : Nat} {Ls : Array Slot} {z : Int32} {rest : List Value} (hret : meth.sig.returnType = some .int) (hd : decode c.code pc = .ok (.ireturn, 1)) {fs : List Frame}
    (hl : ∀ (f : JFrame) (acts : List Action), f.method = m → f.locked = none → f.entered = [] → (doReturn e (T.setTop f) acts (some (.int z))).1 = T.setFrames fs) : Steps p.tables e below (T.setTop (mkF m pc Ls (.int z :: rest))) (T.setFrames fs) :=
  retOut X hx hret rfl (Or.inl ⟨rfl, Or.inl rfl, z, rfl⟩) hd hl
def own_var (x : Int32) : Int32 := if x < (0 : Int32) then (-1 : Int32) else x
theorem own_varneg (x : Int32) : decide (own_var x < (0 : Int32)) = decide (x < (0 : Int32)) := by
  unfold own_var
  by_cases h : x < (0 : Int32)
  · rw [if_pos h, decide_eq_true h]; decide
  · rw [if_neg h]
theorem own_n5 (x : Int32) : (x &&& (2147483647 : Int32)) % (5 : Int32) = 0 ∨ (x &&& (2147483647 : Int32)) % (5 : Int32) = 1 ∨ (x &&& (2147483647 : Int32)) % (5 : Int32) = 2 ∨ (x &&& (2147483647 : Int32)) % (5 : Int32) = 3 ∨ (x &&& (2147483647 : Int32)) % (5 : Int32) = 4 := by
  have h1 : (x &&& (2147483647 : Int32)).toInt = x.toInt % (2 ^ 31 : Nat) := c_mask x 2147483647 31 (by decide) (by decide)
  have h2 := (c_irem (x &&& (2147483647 : Int32)) 5 5 rfl).1 (by omega)
  generalize (x &&& (2147483647 : Int32)) % (5 : Int32) = y at h2 ⊢
  have h3 : y.toInt = (0 : Int32).toInt ∨ y.toInt = (1 : Int32).toInt ∨ y.toInt = (2 : Int32).toInt ∨ y.toInt = (3 : Int32).toInt ∨ y.toInt = (4 : Int32).toInt := by
    simp only [Int32.reduceToInt]; omega
  simpa only [Int32.toInt_inj] using h3
theorem d4_0 : decode method_2_code 0 = .ok (.iload_n 0, 1) := by decide +kernel
theorem d4_1 : decode method_2_code 1 = .ok (.ifCond .ge 7, 3) := by decide +kernel
theorem d4_4 : decode method_2_code 4 = .ok (.iconst (-1), 1) := by decide +kernel
theorem d4_5 : decode method_2_code 5 = .ok (.goto 4, 3) := by decide +kernel
theorem d4_8 : decode method_2_code 8 = .ok (.iload_n 0, 1) := by decide +kernel
theorem d4_9 : decode method_2_code 9 = .ok (.ireturn, 1) := by decide +kernel
theorem pn_com_example_nosto_nosto_ArgumentsNamesConstantPinLaw : plainName "com/example/nosto/nosto/ArgumentsNamesConstantPinLaw" = true := by first | (simp [plainName, overriddenIn]; done) | decide +kernel
theorem ef_4 (m : MethodId) (x0 : Int32) : entryFrame m #[(.int x0)] 1 = mkF m 0 #[.val (.int x0)] [] := by first | (simp [entryFrame, mkF, argsToLocals, Value.category]; done) | rfl
def Q4 (Z : State) (p1 : Int32) (h0 : Heap) (n0 : Nat) (v : Option Value) (h : Heap) (L : List Loc) : Prop := v = some (.int (own_var p1)) ∧ Fr n0 L ∧ h = h0
abbrev G4 (Z : State) (p1 : Int32) (h0 : Heap) (n0 : Nat) (s : State) : Outcome → State → Prop := fun o U' => ∃ v L, o = .returned v ∧ Q4 Z p1 h0 n0 v U'.heap L ∧ FrameEnd s o U' L ({ frames := 0, cells := 0, slots := 0, locals := 0 } : Room).cells ({ frames := 0, cells := 0, slots := 0, locals := 0 } : Room).slots
set_option maxRecDepth 65536 in
set_option maxHeartbeats 40000000 in
theorem rm4 (l : Launch) (Z : State) (a0 : Array Value) (hw : ∀ d ∈ tables_1, d.before a0 Z = true) (ws : List Jvm.Cond) (p1 : Int32) (h0 : Heap) (n0 : Nat) (Z0 : n0 ≤ h0.size)  :
    MetFree l (⟨"com/example/nosto/nosto/ArgumentsNamesConstantPinLaw", "var", "(I)I"⟩ : MethodName) (head1 (Jvm.Cond.code (⟨"com/example/nosto/nosto/ArgumentsNamesConstantPinLaw", "var", "(I)I"⟩ : MethodName) method_2_code 1 (some .int) :: ws) ({ frames := 0, cells := 0, slots := 0, locals := 0 } : Room)) (fun a U => a = #[(.int p1)] ∧ Z.Warmed39 U.vm ∧ U.heap = h0) (fun _ _ _ _ _ => True) (fun _ U o U' => ∃ v L, o = .returned v ∧ Q4 Z p1 h0 n0 v U'.heap L ∧ FrameEnd U o U' L ({ frames := 0, cells := 0, slots := 0, locals := 0 } : Room).cells ({ frames := 0, cells := 0, slots := 0, locals := 0 } : Room).slots) := by
  refine MetFree.of_bodySF (plainFor_of_name pn_com_example_nosto_nosto_ArgumentsNamesConstantPinLaw) hisR ?_
  intro p e s m args below meth c s₁ Bd hml0 hP hK
  obtain ⟨rfl, hZ, hh⟩ := hP
  have hx := Bd.exec
  have hby := Bd.bytes
  have hml : c.maxLocals = 1 := hml0
  have hown : s.vm.findClass "com/example/nosto/nosto/ArgumentsNamesConstantPinLaw" = some m.cls := findClass_of_methodNamed Bd.named
  have hnm := (name_of_methodNamed Bd.named Bd.method).1
  have X0 : Stand p l e ({ frames := 0, cells := 0, slots := 0, locals := 0 } : Room) s m #[(.int p1)] below meth c s₁ [] 0 0 := Stand.of_body Bd
  have e0 : s₁.heap = h0 := by rw [← hh, Bd.state]; rfl
  have es0 : s.heap = h0 := hh
  have N0 := Fr.nil n0
  show own_Fin p e below (G4 Z p1 h0 n0 s) (s₁.setTop (entryFrame m #[(.int p1)] 1))
  rw [ef_4 m p1]
  refine own_go (XS.iloadN X0.here hx rfl (hb hby d4_0) rfl (Steps.refl _)) ?_
  show own_Fin _ _ _ _ (s₁.setTop (mkF m 1 #[.val (.int p1)] [(.int p1)]))
  by_cases c1_1 : p1 < (0 : Int32)
  · refine own_go (XS.ifNo X0.here hx rfl (hb hby d4_1) rfl ((if0 _ _).trans (tlt c1_1).2.1) (Steps.refl _)) ?_
    show own_Fin _ _ _ _ (s₁.setTop (mkF m 4 #[.val (.int p1)] []))
    refine own_go (XS.iconst X0.here hx rfl (hb hby d4_4) (Steps.refl _)) ?_
    show own_Fin _ _ _ _ (s₁.setTop (mkF m 5 #[.val (.int p1)] [(.int (-1 : Int32))]))
    refine own_go (XS.goto X0.here hx rfl (pc0 := 5) (pc' := 9) rfl (hb hby d4_5) (by decide) (by decide) (Steps.refl _)) ?_
    show own_Fin _ _ _ _ (s₁.setTop (mkF m 9 #[.val (.int p1)] [(.int (-1 : Int32))]))
    obtain ⟨fs2, hr2, hrun2, hended2, hW2, hsame2⟩ := X0.leave (v := some (.int (-1 : Int32))) (fun h => by rw [Bd.returns] at h; cases h)
    refine own_done (own_retI X0 hx Bd.returns (hb hby d4_9) hr2) hrun2 hended2 ⟨_, _, rfl, ?_, ⟨_, rfl⟩, hW2, hsame2.mono (by decide) (by decide)⟩
    show Q4 Z p1 h0 n0 _ s₁.heap _
    rw [e0]
    exact ⟨by simp [own_var, c1_1], N0, rfl⟩
  · refine own_go (XS.ifYes X0.here hx rfl (pc0 := 1) (pc' := 8) rfl (hb hby d4_1) rfl ((if0 _ _).trans (flt c1_1).2.1) (by decide) (by decide) (Steps.refl _)) ?_
    show own_Fin _ _ _ _ (s₁.setTop (mkF m 8 #[.val (.int p1)] []))
    refine own_go (XS.iloadN X0.here hx rfl (hb hby d4_8) rfl (Steps.refl _)) ?_
    show own_Fin _ _ _ _ (s₁.setTop (mkF m 9 #[.val (.int p1)] [(.int p1)]))
    obtain ⟨fs3, hr3, hrun3, hended3, hW3, hsame3⟩ := X0.leave (v := some (.int p1)) (fun h => by rw [Bd.returns] at h; cases h)
    refine own_done (own_retI X0 hx Bd.returns (hb hby d4_9) hr3) hrun3 hended3 ⟨_, _, rfl, ?_, ⟨_, rfl⟩, hW3, hsame3.mono (by decide) (by decide)⟩
    show Q4 Z p1 h0 n0 _ s₁.heap _
    rw [e0]
    exact ⟨by simp [own_var, c1_1], N0, rfl⟩
theorem d1_0 : decode prog_1_method_1_code 0 = .ok (.aload_n 0, 1) := by decide +kernel
theorem d1_1 : decode prog_1_method_1_code 1 = .ok (.invokespecial 1, 3) := by decide +kernel
theorem d1_4 : decode prog_1_method_1_code 4 = .ok (.aload_n 0, 1) := by decide +kernel
theorem d1_5 : decode prog_1_method_1_code 5 = .ok (.aload_n 1, 1) := by decide +kernel
theorem d1_6 : decode prog_1_method_1_code 6 = .ok (.invokevirtual 7, 3) := by decide +kernel
theorem d1_9 : decode prog_1_method_1_code 9 = .ok (.checkcast 8, 3) := by decide +kernel
theorem d1_12 : decode prog_1_method_1_code 12 = .ok (.putfield 13, 3) := by decide +kernel
theorem d1_15 : decode prog_1_method_1_code 15 = .ok (.aload_n 0, 1) := by decide +kernel
theorem d1_16 : decode prog_1_method_1_code 16 = .ok (.aload_n 2, 1) := by decide +kernel
theorem d1_17 : decode prog_1_method_1_code 17 = .ok (.invokevirtual 7, 3) := by decide +kernel
theorem d1_20 : decode prog_1_method_1_code 20 = .ok (.checkcast 8, 3) := by decide +kernel
theorem d1_23 : decode prog_1_method_1_code 23 = .ok (.putfield 18, 3) := by decide +kernel
theorem d1_26 : decode prog_1_method_1_code 26 = .ok (.return_, 1) := by decide +kernel
theorem pn_com_example_nosto_nosto_Arguments : plainName "com/example/nosto/nosto/Arguments" = true := by first | (simp [plainName, overriddenIn]; done) | decide +kernel
theorem ef_1 (m : MethodId) (x0 : Addr) (x1 : Addr) (x2 : Addr) : entryFrame m #[(.ref x0), (.ref x1), (.ref x2)] 3 = mkF m 0 #[.val (.ref x0), .val (.ref x1), .val (.ref x2)] [] := by first | (simp [entryFrame, mkF, argsToLocals, Value.category]; done) | rfl
def Q1 (Z : State) (a1 : Addr) (a2 : Addr) (a3 : Addr) (k2 : ClassId) (z2 : Int32) (vs2 : List Value) (dv2 : Value) (k3 : ClassId) (z3 : Int32) (vs3 : List Value) (dv3 : Value) (h0 : Heap) (n0 : Nat) (v : Option Value) (h : Heap) (L : List Loc) : Prop := v = none ∧ Fr n0 L ∧ Keep h0 h [a1] ∧ Exa Z h a1 "com/example/nosto/nosto/Arguments" ∧ ∃ b : Addr, n0 ≤ b ∧ Fld Z h a1 "com/example/nosto/nosto/Arguments" "variables" "[I" (.ref b) ∧ Arv Z h b k2 .int z2 vs2 dv2
abbrev G1 (Z : State) (a1 : Addr) (a2 : Addr) (a3 : Addr) (k2 : ClassId) (z2 : Int32) (vs2 : List Value) (dv2 : Value) (k3 : ClassId) (z3 : Int32) (vs3 : List Value) (dv3 : Value) (h0 : Heap) (n0 : Nat) (s : State) : Outcome → State → Prop := fun o U' => ∃ v L, o = .returned v ∧ Q1 Z a1 a2 a3 k2 z2 vs2 dv2 k3 z3 vs3 dv3 h0 n0 v U'.heap L ∧ FrameEnd s o U' L ({ frames := 1, cells := 2, slots := 8, locals := 20 } : Room).cells ({ frames := 1, cells := 2, slots := 8, locals := 20 } : Room).slots
set_option maxRecDepth 65536 in
set_option maxHeartbeats 40000000 in
theorem rm1 (l : Launch) (Z : State) (a0 : Array Value) (hw : ∀ d ∈ tables_1, d.before a0 Z = true) (ws : List Jvm.Cond) (a1 : Addr) (a2 : Addr) (a3 : Addr) (k2 : ClassId) (z2 : Int32) (vs2 : List Value) (dv2 : Value) (k3 : ClassId) (z3 : Int32) (vs3 : List Value) (dv3 : Value) (h0 : Heap) (n0 : Nat) (Z0 : n0 ≤ h0.size) (E_a1 : Exa Z h0 a1 "com/example/nosto/nosto/Arguments") (F_variables_a1 : Fld Z h0 a1 "com/example/nosto/nosto/Arguments" "variables" "[I" .null) (F_constants_a1 : Fld Z h0 a1 "com/example/nosto/nosto/Arguments" "constants" "[I" .null) (g_a1 : n0 ≤ a1) (ne_a2_a1 : a2 ≠ a1) (ne_a3_a1 : a3 ≠ a1) (V_a2 : Arv Z h0 a2 k2 .int z2 vs2 dv2) (E_a2 : Exa Z h0 a2 "[I") (hz2 : z2.toNatClampNeg ≤ 4) (V_a3 : Arv Z h0 a3 k3 .int z3 vs3 dv3) (E_a3 : Exa Z h0 a3 "[I") (hz3 : z3.toNatClampNeg ≤ 4) :
    MetFree l (⟨"com/example/nosto/nosto/Arguments", "<init>", "([I[I)V"⟩ : MethodName) (head1 (Jvm.Cond.code (⟨"com/example/nosto/nosto/Arguments", "<init>", "([I[I)V"⟩ : MethodName) prog_1_method_1_code 3 none :: ws) ({ frames := 1, cells := 2, slots := 8, locals := 20 } : Room)) (fun a U => a = #[(.ref a1), (.ref a2), (.ref a3)] ∧ Z.Warmed39 U.vm ∧ U.heap = h0) (fun _ _ _ _ _ => True) (fun _ U o U' => ∃ v L, o = .returned v ∧ Q1 Z a1 a2 a3 k2 z2 vs2 dv2 k3 z3 vs3 dv3 h0 n0 v U'.heap L ∧ FrameEnd U o U' L ({ frames := 1, cells := 2, slots := 8, locals := 20 } : Room).cells ({ frames := 1, cells := 2, slots := 8, locals := 20 } : Room).slots) := by
  refine MetFree.of_bodySF (plainFor_of_name pn_com_example_nosto_nosto_Arguments) hisR ?_
  intro p e s m args below meth c s₁ Bd hml0 hP hK
  obtain ⟨rfl, hZ, hh⟩ := hP
  have hx := Bd.exec
  have hby := Bd.bytes
  have hml : c.maxLocals = 3 := hml0
  have hown : s.vm.findClass "com/example/nosto/nosto/Arguments" = some m.cls := findClass_of_methodNamed Bd.named
  have hnm := (name_of_methodNamed Bd.named Bd.method).1
  have X0 : Stand p l e ({ frames := 1, cells := 2, slots := 8, locals := 20 } : Room) s m #[(.ref a1), (.ref a2), (.ref a3)] below meth c s₁ [] 0 0 := Stand.of_body Bd
  have e0 : s₁.heap = h0 := by rw [← hh, Bd.state]; rfl
  have es0 : s.heap = h0 := hh
  have N0 := Fr.nil n0
  show own_Fin p e below (G1 Z a1 a2 a3 k2 z2 vs2 dv2 k3 z3 vs3 dv3 h0 n0 s) (s₁.setTop (entryFrame m #[(.ref a1), (.ref a2), (.ref a3)] 3))
  rw [ef_1 m a1 a2 a3]
  have Kz := Keep.refl h0 [a1]
  refine own_go (XS.aloadN X0.here hx rfl (hb hby d1_0) rfl rfl (Steps.refl _)) ?_
  show own_Fin _ _ _ _ (s₁.setTop (mkF m 1 #[.val (.ref a1), .val (.ref a2), .val (.ref a3)] [(.ref a1)]))
  obtain ⟨T4, X4, e4, st4⟩ := initO X0 hx hZ hown (hw _ (List.mem_of_getElem? (i := 8) rfl)) (hw _ (List.mem_of_getElem? (i := 9) rfl)) (hw _ (List.mem_of_getElem? (i := 10) rfl)) e0 (g := (mkF m 1 #[.val (.ref a1), .val (.ref a2), .val (.ref a3)] [(.ref a1)])) rfl (by rw [hml]; rfl) rfl (hb hby d1_1) (by decide) (W := 0) (by show 2 * 0 + _ ≤ _; exact Nat.le_of_eq rfl) (by decide)
  refine own_by st4 ?_
  show own_Fin _ _ _ _ (T4.setTop (mkF m 4 #[.val (.ref a1), .val (.ref a2), .val (.ref a3)] []))
  refine own_go (XS.aloadN X4.here hx rfl (hb hby d1_4) rfl rfl (Steps.refl _)) ?_
  show own_Fin _ _ _ _ (T4.setTop (mkF m 5 #[.val (.ref a1), .val (.ref a2), .val (.ref a3)] [(.ref a1)]))
  refine own_go (XS.aloadN X4.here hx rfl (hb hby d1_5) rfl rfl (Steps.refl _)) ?_
  show own_Fin _ _ _ _ (T4.setTop (mkF m 6 #[.val (.ref a1), .val (.ref a2), .val (.ref a3)] [(.ref a2), (.ref a1)]))
  obtain ⟨T5, h5, X5, e5, E5, V5, B5, st5⟩ := cloneH X4 hx hZ hown (hw _ (List.mem_of_getElem? (i := 11) rfl)) (hw _ (List.mem_of_getElem? (i := 12) rfl)) (hw _ (List.mem_of_getElem? (i := 16) rfl)) (hw _ (List.mem_of_getElem? (i := 14) rfl)) (hw _ (List.mem_of_getElem? (i := 15) rfl)) (hw _ (List.mem_of_getElem? (i := 17) rfl)) e4 (Arv.arh V_a2) E_a2 (g := (mkF m 6 #[.val (.ref a1), .val (.ref a2), .val (.ref a3)] [(.ref a2), (.ref a1)])) rfl (by rw [hml]; rfl) rfl (hb hby d1_6) (by decide) (W := 1) (by show 2 * 0 + _ ≤ _; exact Nat.le_of_eq rfl) (by decide) (cap := 4) (by first | decide | assumption) (by decide) (by decide)
  obtain ⟨b5, g5⟩ : ∃ z, z = h0.size := ⟨_, rfl⟩
  rw [← g5] at V5 B5 st5
  refine own_by st5 ?_
  have ne_a2_b5 : a2 ≠ b5 := Nat.ne_of_lt (Nat.lt_of_lt_of_eq V_a2.lt g5.symm)
  have ne_a3_b5 : a3 ≠ b5 := Nat.ne_of_lt (Nat.lt_of_lt_of_eq V_a3.lt g5.symm)
  have ne_a1_b5 : a1 ≠ b5 := Nat.ne_of_lt (Nat.lt_of_lt_of_eq E_a1.lt g5.symm)
  have V_a2_5 := V_a2.ext E5
  have E_a2_5 := E_a2.ext E5
  have V_a3_5 := V_a3.ext E5
  have E_a3_5 := E_a3.ext E5
  have E_a1_5 := E_a1.ext E5
  have F_variables_a1_5 := F_variables_a1.ext E5
  have F_constants_a1_5 := F_constants_a1.ext E5
  have g_b5 : n0 ≤ b5 := Nat.le_trans Z0 (Nat.le_of_eq g5.symm)
  have sz_b5 : h0.size ≤ b5 := Nat.le_trans Kz.1 (Nat.le_of_eq g5.symm)
  have K5 := Kz.ext E5
  have Z5 : n0 ≤ h5.size := Nat.le_trans Z0 E5.1
  have V_b5 : Arv Z h5 b5 k2 .int z2 vs2 dv2 := V5
  have E_b5 := B5
  show own_Fin _ _ _ _ (T5.setTop (mkF m 9 #[.val (.ref a1), .val (.ref a2), .val (.ref a3)] [(.ref b5), (.ref a1)]))
  obtain ⟨T6, X6, e6, st6⟩ := castY X5 hx hZ hown (hw _ (List.mem_of_getElem? (i := 18) rfl)) e5 (Ins.self E_b5) (g := (mkF m 9 #[.val (.ref a1), .val (.ref a2), .val (.ref a3)] [(.ref b5), (.ref a1)])) rfl rfl (hb hby d1_9)
  refine own_by st6 ?_
  show own_Fin _ _ _ _ (T6.setTop (mkF m 12 #[.val (.ref a1), .val (.ref a2), .val (.ref a3)] [(.ref b5), (.ref a1)]))
  obtain ⟨T7, h7, X7, e7, W7, st7⟩ := putF X6 hx hZ hown (host := "") (Or.inl (hw _ (List.mem_of_getElem? (i := 20) rfl))) Via.refl e6 F_variables_a1_5 E_a1_5 (Or.inr ⟨(hw _ (List.mem_of_getElem? (i := 21) rfl)), rfl, hnm⟩) (hw _ (List.mem_of_getElem? (i := 3) rfl)) (ty := (.array .int)) (by decide) rfl rfl (g := (mkF m 12 #[.val (.ref a1), .val (.ref a2), .val (.ref a3)] [(.ref b5), (.ref a1)])) rfl rfl (hb hby d1_12)
  refine own_by st7 ?_
  have F_variables_a1_7 := F_variables_a1_5.same W7
  have V_a2_7 := V_a2_5.other W7 ne_a2_a1
  have E_a2_7 := E_a2_5.wr W7
  have V_a3_7 := V_a3_5.other W7 ne_a3_a1
  have E_a3_7 := E_a3_5.wr W7
  have E_a1_7 := E_a1_5.wr W7
  have F_constants_a1_7 := F_constants_a1_5.other W7 (Or.inr (slot_ne (Or.inr (hw _ (List.mem_of_getElem? (i := 23) rfl))) (Or.inr (hw _ (List.mem_of_getElem? (i := 21) rfl))) (by decide) (t := (.array .int)) (t' := (.array .int)) (by decide) (by decide)))
  have V_b5_7 := V_b5.other W7 (Ne.symm ne_a1_b5)
  have E_b5_7 := E_b5.wr W7
  have N7 := Fr.snoc X7 N0 g_a1
  have Z7 : n0 ≤ h7.size := Nat.le_trans Z5 (Keep.of_wr W7).1
  have K7 := K5.wr W7 (Or.inl (List.mem_of_getElem? (i := 0) rfl))
  show own_Fin _ _ _ _ (T7.setTop (mkF m 15 #[.val (.ref a1), .val (.ref a2), .val (.ref a3)] []))
  refine own_go (XS.aloadN X7.here hx rfl (hb hby d1_15) rfl rfl (Steps.refl _)) ?_
  show own_Fin _ _ _ _ (T7.setTop (mkF m 16 #[.val (.ref a1), .val (.ref a2), .val (.ref a3)] [(.ref a1)]))
  refine own_go (XS.aloadN X7.here hx rfl (hb hby d1_16) rfl rfl (Steps.refl _)) ?_
  show own_Fin _ _ _ _ (T7.setTop (mkF m 17 #[.val (.ref a1), .val (.ref a2), .val (.ref a3)] [(.ref a3), (.ref a1)]))
  obtain ⟨T8, h8, X8, e8, E8, V8, B8, st8⟩ := cloneH X7 hx hZ hown (hw _ (List.mem_of_getElem? (i := 11) rfl)) (hw _ (List.mem_of_getElem? (i := 12) rfl)) (hw _ (List.mem_of_getElem? (i := 16) rfl)) (hw _ (List.mem_of_getElem? (i := 14) rfl)) (hw _ (List.mem_of_getElem? (i := 15) rfl)) (hw _ (List.mem_of_getElem? (i := 17) rfl)) e7 (Arv.arh V_a3_7) E_a3_7 (g := (mkF m 17 #[.val (.ref a1), .val (.ref a2), .val (.ref a3)] [(.ref a3), (.ref a1)])) rfl (by rw [hml]; rfl) rfl (hb hby d1_17) (by decide) (W := 1) (by show 2 * 0 + _ ≤ _; exact Nat.le_of_eq rfl) (by decide) (cap := 4) (by first | decide | assumption) (by decide) (by decide)
  obtain ⟨b8, g8⟩ : ∃ z, z = h7.size := ⟨_, rfl⟩
  rw [← g8] at V8 B8 st8
  refine own_by st8 ?_
  have ne_a2_b8 : a2 ≠ b8 := Nat.ne_of_lt (Nat.lt_of_lt_of_eq V_a2_7.lt g8.symm)
  have ne_a3_b8 : a3 ≠ b8 := Nat.ne_of_lt (Nat.lt_of_lt_of_eq V_a3_7.lt g8.symm)
  have ne_a1_b8 : a1 ≠ b8 := Nat.ne_of_lt (Nat.lt_of_lt_of_eq E_a1_7.lt g8.symm)
  have ne_b5_b8 : b5 ≠ b8 := Nat.ne_of_lt (Nat.lt_of_lt_of_eq V_b5_7.lt g8.symm)
  have V_a2_8 := V_a2_7.ext E8
  have E_a2_8 := E_a2_7.ext E8
  have V_a3_8 := V_a3_7.ext E8
  have E_a3_8 := E_a3_7.ext E8
  have E_a1_8 := E_a1_7.ext E8
  have F_variables_a1_8 := F_variables_a1_7.ext E8
  have F_constants_a1_8 := F_constants_a1_7.ext E8
  have V_b5_8 := V_b5_7.ext E8
  have E_b5_8 := E_b5_7.ext E8
  have g_b8 : n0 ≤ b8 := Nat.le_trans Z7 (Nat.le_of_eq g8.symm)
  have sz_b8 : h0.size ≤ b8 := Nat.le_trans K7.1 (Nat.le_of_eq g8.symm)
  have K8 := K7.ext E8
  have Z8 : n0 ≤ h8.size := Nat.le_trans Z7 E8.1
  have V_b8 : Arv Z h8 b8 k3 .int z3 vs3 dv3 := V8
  have E_b8 := B8
  show own_Fin _ _ _ _ (T8.setTop (mkF m 20 #[.val (.ref a1), .val (.ref a2), .val (.ref a3)] [(.ref b8), (.ref a1)]))
  obtain ⟨T9, X9, e9, st9⟩ := castY X8 hx hZ hown (hw _ (List.mem_of_getElem? (i := 18) rfl)) e8 (Ins.self E_b8) (g := (mkF m 20 #[.val (.ref a1), .val (.ref a2), .val (.ref a3)] [(.ref b8), (.ref a1)])) rfl rfl (hb hby d1_20)
  refine own_by st9 ?_
  show own_Fin _ _ _ _ (T9.setTop (mkF m 23 #[.val (.ref a1), .val (.ref a2), .val (.ref a3)] [(.ref b8), (.ref a1)]))
  obtain ⟨T10, h10, X10, e10, W10, st10⟩ := putF X9 hx hZ hown (host := "") (Or.inl (hw _ (List.mem_of_getElem? (i := 22) rfl))) Via.refl e9 F_constants_a1_8 E_a1_8 (Or.inr ⟨(hw _ (List.mem_of_getElem? (i := 23) rfl)), rfl, hnm⟩) (hw _ (List.mem_of_getElem? (i := 3) rfl)) (ty := (.array .int)) (by decide) rfl rfl (g := (mkF m 23 #[.val (.ref a1), .val (.ref a2), .val (.ref a3)] [(.ref b8), (.ref a1)])) rfl rfl (hb hby d1_23)
  refine own_by st10 ?_
  have F_constants_a1_10 := F_constants_a1_8.same W10
  have V_a2_10 := V_a2_8.other W10 ne_a2_a1
  have E_a2_10 := E_a2_8.wr W10
  have V_a3_10 := V_a3_8.other W10 ne_a3_a1
  have E_a3_10 := E_a3_8.wr W10
  have E_a1_10 := E_a1_8.wr W10
  have F_variables_a1_10 := F_variables_a1_8.other W10 (Or.inr (slot_ne (Or.inr (hw _ (List.mem_of_getElem? (i := 21) rfl))) (Or.inr (hw _ (List.mem_of_getElem? (i := 23) rfl))) (by decide) (t := (.array .int)) (t' := (.array .int)) (by decide) (by decide)))
  have V_b5_10 := V_b5_8.other W10 (Ne.symm ne_a1_b5)
  have E_b5_10 := E_b5_8.wr W10
  have V_b8_10 := V_b8.other W10 (Ne.symm ne_a1_b8)
  have E_b8_10 := E_b8.wr W10
  have N10 := Fr.snoc X10 N7 g_a1
  have Z10 : n0 ≤ h10.size := Nat.le_trans Z8 (Keep.of_wr W10).1
  have K10 := K8.wr W10 (Or.inl (List.mem_of_getElem? (i := 0) rfl))
  show own_Fin _ _ _ _ (T10.setTop (mkF m 26 #[.val (.ref a1), .val (.ref a2), .val (.ref a3)] []))
  obtain ⟨fs11, hr11, hrun11, hended11, hW11, hsame11⟩ := X10.leave (v := none) (fun _ => rfl)
  refine own_done (X10.returnOut hx Bd.returns (hb hby d1_26) hr11) hrun11 hended11 ⟨_, _, rfl, ?_, ⟨_, rfl⟩, hW11, hsame11.mono (by decide) (by decide)⟩
  show Q1 Z a1 a2 a3 k2 z2 vs2 dv2 k3 z3 vs3 dv3 h0 n0 _ T10.heap _
  rw [e10]
  exact ⟨rfl, N10, K10, E_a1_10, b5, g_b5, F_variables_a1_10, V_b5_10⟩
theorem d3_0 : decode prog_1_method_6_code 0 = .ok (.iconst 0, 1) := by decide +kernel
theorem d3_1 : decode prog_1_method_6_code 1 = .ok (.istore_n 1, 1) := by decide +kernel
theorem d3_2 : decode prog_1_method_6_code 2 = .ok (.aload_n 0, 1) := by decide +kernel
theorem d3_3 : decode prog_1_method_6_code 3 = .ok (.getfield 13, 3) := by decide +kernel
theorem d3_6 : decode prog_1_method_6_code 6 = .ok (.astore_n 2, 1) := by decide +kernel
theorem d3_7 : decode prog_1_method_6_code 7 = .ok (.aload_n 2, 1) := by decide +kernel
theorem d3_8 : decode prog_1_method_6_code 8 = .ok (.arraylength, 1) := by decide +kernel
theorem d3_9 : decode prog_1_method_6_code 9 = .ok (.istore_n 3, 1) := by decide +kernel
theorem d3_10 : decode prog_1_method_6_code 10 = .ok (.iconst 0, 1) := by decide +kernel
theorem d3_11 : decode prog_1_method_6_code 11 = .ok (.istore 4, 2) := by decide +kernel
theorem d3_13 : decode prog_1_method_6_code 13 = .ok (.iload 4, 2) := by decide +kernel
theorem d3_15 : decode prog_1_method_6_code 15 = .ok (.iload_n 3, 1) := by decide +kernel
theorem d3_16 : decode prog_1_method_6_code 16 = .ok (.if_icmp .ge 30, 3) := by decide +kernel
theorem d3_19 : decode prog_1_method_6_code 19 = .ok (.aload_n 2, 1) := by decide +kernel
theorem d3_20 : decode prog_1_method_6_code 20 = .ok (.iload 4, 2) := by decide +kernel
theorem d3_22 : decode prog_1_method_6_code 22 = .ok (.iaload, 1) := by decide +kernel
theorem d3_23 : decode prog_1_method_6_code 23 = .ok (.istore 5, 2) := by decide +kernel
theorem d3_25 : decode prog_1_method_6_code 25 = .ok (.iload_n 1, 1) := by decide +kernel
theorem d3_26 : decode prog_1_method_6_code 26 = .ok (.ifCond .ne 8, 3) := by decide +kernel
theorem d3_29 : decode prog_1_method_6_code 29 = .ok (.iload 5, 2) := by decide +kernel
theorem d3_31 : decode prog_1_method_6_code 31 = .ok (.ifCond .ge 7, 3) := by decide +kernel
theorem d3_34 : decode prog_1_method_6_code 34 = .ok (.iconst 1, 1) := by decide +kernel
theorem d3_35 : decode prog_1_method_6_code 35 = .ok (.goto 4, 3) := by decide +kernel
theorem d3_38 : decode prog_1_method_6_code 38 = .ok (.iconst 0, 1) := by decide +kernel
theorem d3_39 : decode prog_1_method_6_code 39 = .ok (.istore_n 1, 1) := by decide +kernel
theorem d3_40 : decode prog_1_method_6_code 40 = .ok (.iinc 4 1, 3) := by decide +kernel
theorem d3_43 : decode prog_1_method_6_code 43 = .ok (.goto (-30), 3) := by decide +kernel
theorem d3_46 : decode prog_1_method_6_code 46 = .ok (.iload_n 1, 1) := by decide +kernel
theorem d3_47 : decode prog_1_method_6_code 47 = .ok (.ireturn, 1) := by decide +kernel
theorem ef_3_0 (m : MethodId) (x0 : Addr) : entryFrame m #[(.ref x0)] 6 = mkF m 0 #[.val (.ref x0), .unset, .unset, .unset, .unset, .unset] [] := by first | (simp [entryFrame, mkF, argsToLocals, Value.category]; done) | rfl
def Q3_0 (Z : State) (a1 : Addr) (av : Addr) (k : ClassId) (h0 : Heap) (n0 : Nat) (v : Option Value) (h : Heap) (L : List Loc) : Prop := v = some (.int (0 : Int32)) ∧ Fr n0 L ∧ h = h0
abbrev G3_0 (Z : State) (a1 : Addr) (av : Addr) (k : ClassId) (h0 : Heap) (n0 : Nat) (s : State) : Outcome → State → Prop := fun o U' => ∃ v L, o = .returned v ∧ Q3_0 Z a1 av k h0 n0 v U'.heap L ∧ FrameEnd s o U' L ({ frames := 0, cells := 0, slots := 0, locals := 0 } : Room).cells ({ frames := 0, cells := 0, slots := 0, locals := 0 } : Room).slots
set_option maxRecDepth 65536 in
set_option maxHeartbeats 40000000 in
theorem rm3_0 (l : Launch) (Z : State) (a0 : Array Value) (hw : ∀ d ∈ tables_1, d.before a0 Z = true) (ws : List Jvm.Cond) (a1 : Addr) (av : Addr) (k : ClassId) (h0 : Heap) (n0 : Nat) (Z0 : n0 ≤ h0.size) (F_variables_a1 : Fld Z h0 a1 "com/example/nosto/nosto/Arguments" "variables" "[I" (.ref av)) (V_av : Arv Z h0 av k .int (0 : Int32) [] (.int (0 : Int32))) :
    MetFree l (⟨"com/example/nosto/nosto/Arguments", "namesConstant", "()Z"⟩ : MethodName) (head1 (Jvm.Cond.code (⟨"com/example/nosto/nosto/Arguments", "namesConstant", "()Z"⟩ : MethodName) prog_1_method_6_code 6 (some .boolean) :: ws) ({ frames := 0, cells := 0, slots := 0, locals := 0 } : Room)) (fun a U => a = #[(.ref a1)] ∧ Z.Warmed39 U.vm ∧ U.heap = h0) (fun _ _ _ _ _ => True) (fun _ U o U' => ∃ v L, o = .returned v ∧ Q3_0 Z a1 av k h0 n0 v U'.heap L ∧ FrameEnd U o U' L ({ frames := 0, cells := 0, slots := 0, locals := 0 } : Room).cells ({ frames := 0, cells := 0, slots := 0, locals := 0 } : Room).slots) := by
  refine MetFree.of_bodySF (plainFor_of_name pn_com_example_nosto_nosto_Arguments) hisR ?_
  intro p e s m args below meth c s₁ Bd hml0 hP hK
  obtain ⟨rfl, hZ, hh⟩ := hP
  have hx := Bd.exec
  have hby := Bd.bytes
  have hml : c.maxLocals = 6 := hml0
  have hown : s.vm.findClass "com/example/nosto/nosto/Arguments" = some m.cls := findClass_of_methodNamed Bd.named
  have hnm := (name_of_methodNamed Bd.named Bd.method).1
  have X0 : Stand p l e ({ frames := 0, cells := 0, slots := 0, locals := 0 } : Room) s m #[(.ref a1)] below meth c s₁ [] 0 0 := Stand.of_body Bd
  have e0 : s₁.heap = h0 := by rw [← hh, Bd.state]; rfl
  have es0 : s.heap = h0 := hh
  have N0 := Fr.nil n0
  show own_Fin p e below (G3_0 Z a1 av k h0 n0 s) (s₁.setTop (entryFrame m #[(.ref a1)] 6))
  rw [ef_3_0 m a1]
  refine own_go (XS.iconst X0.here hx rfl (hb hby d3_0) (Steps.refl _)) ?_
  show own_Fin _ _ _ _ (s₁.setTop (mkF m 1 #[.val (.ref a1), .unset, .unset, .unset, .unset, .unset] [(.int (0 : Int32))]))
  refine own_go (XS.istoreN X0.here hx rfl (hb hby d3_1) rfl (l' := #[.val (.ref a1), .val (.int (0 : Int32)), .unset, .unset, .unset, .unset]) rfl (Steps.refl _)) ?_
  show own_Fin _ _ _ _ (s₁.setTop (mkF m 2 #[.val (.ref a1), .val (.int (0 : Int32)), .unset, .unset, .unset, .unset] []))
  refine own_go (XS.aloadN X0.here hx rfl (hb hby d3_2) rfl rfl (Steps.refl _)) ?_
  show own_Fin _ _ _ _ (s₁.setTop (mkF m 3 #[.val (.ref a1), .val (.int (0 : Int32)), .unset, .unset, .unset, .unset] [(.ref a1)]))
  obtain ⟨T12, X12, e12, st12⟩ := getF X0 hx hZ hown (host := "") (Or.inl (hw _ (List.mem_of_getElem? (i := 20) rfl))) Via.refl e0 F_variables_a1 (g := (mkF m 3 #[.val (.ref a1), .val (.int (0 : Int32)), .unset, .unset, .unset, .unset] [(.ref a1)])) rfl rfl (hb hby d3_3)
  refine own_by st12 ?_
  show own_Fin _ _ _ _ (T12.setTop (mkF m 6 #[.val (.ref a1), .val (.int (0 : Int32)), .unset, .unset, .unset, .unset] [(.ref av)]))
  refine own_go (XS.astoreN X12.here hx rfl (hb hby d3_6) rfl rfl (l' := #[.val (.ref a1), .val (.int (0 : Int32)), .val (.ref av), .unset, .unset, .unset]) rfl (Steps.refl _)) ?_
  show own_Fin _ _ _ _ (T12.setTop (mkF m 7 #[.val (.ref a1), .val (.int (0 : Int32)), .val (.ref av), .unset, .unset, .unset] []))
  refine own_go (XS.aloadN X12.here hx rfl (hb hby d3_7) rfl rfl (Steps.refl _)) ?_
  show own_Fin _ _ _ _ (T12.setTop (mkF m 8 #[.val (.ref a1), .val (.int (0 : Int32)), .val (.ref av), .unset, .unset, .unset] [(.ref av)]))
  obtain ⟨cl13, Ar13, qa13, Sa13, Na13, Ha13, Ga13⟩ := id V_av
  refine own_by (X12.arraylength hx (by rw [e12]; exact Ar13.1) (State.isArrayOf_alike hZ.alike Ar13.2.1) (g := (mkF m 8 #[.val (.ref a1), .val (.int (0 : Int32)), .val (.ref av), .unset, .unset, .unset] [(.ref av)])) rfl rfl (hb hby d3_8)) ?_
  rw [len_of Sa13 Na13]
  show own_Fin _ _ _ _ (T12.setTop (mkF m 9 #[.val (.ref a1), .val (.int (0 : Int32)), .val (.ref av), .unset, .unset, .unset] [(.int (0 : Int32))]))
  refine own_go (XS.istoreN X12.here hx rfl (hb hby d3_9) rfl (l' := #[.val (.ref a1), .val (.int (0 : Int32)), .val (.ref av), .val (.int (0 : Int32)), .unset, .unset]) rfl (Steps.refl _)) ?_
  show own_Fin _ _ _ _ (T12.setTop (mkF m 10 #[.val (.ref a1), .val (.int (0 : Int32)), .val (.ref av), .val (.int (0 : Int32)), .unset, .unset] []))
  refine own_go (XS.iconst X12.here hx rfl (hb hby d3_10) (Steps.refl _)) ?_
  show own_Fin _ _ _ _ (T12.setTop (mkF m 11 #[.val (.ref a1), .val (.int (0 : Int32)), .val (.ref av), .val (.int (0 : Int32)), .unset, .unset] [(.int (0 : Int32))]))
  refine own_go (XS.istore X12.here hx rfl (hb hby d3_11) rfl (l' := #[.val (.ref a1), .val (.int (0 : Int32)), .val (.ref av), .val (.int (0 : Int32)), .val (.int (0 : Int32)), .unset]) rfl (Steps.refl _)) ?_
  show own_Fin _ _ _ _ (T12.setTop (mkF m 13 #[.val (.ref a1), .val (.int (0 : Int32)), .val (.ref av), .val (.int (0 : Int32)), .val (.int (0 : Int32)), .unset] []))
  refine own_go (XS.iload X12.here hx rfl (hb hby d3_13) rfl (Steps.refl _)) ?_
  show own_Fin _ _ _ _ (T12.setTop (mkF m 15 #[.val (.ref a1), .val (.int (0 : Int32)), .val (.ref av), .val (.int (0 : Int32)), .val (.int (0 : Int32)), .unset] [(.int (0 : Int32))]))
  refine own_go (XS.iloadN X12.here hx rfl (hb hby d3_15) rfl (Steps.refl _)) ?_
  show own_Fin _ _ _ _ (T12.setTop (mkF m 16 #[.val (.ref a1), .val (.int (0 : Int32)), .val (.ref av), .val (.int (0 : Int32)), .val (.int (0 : Int32)), .unset] [(.int (0 : Int32)), (.int (0 : Int32))]))
  refine own_go (XS.icmpYes X12.here hx rfl (pc0 := 16) (pc' := 46) rfl (hb hby d3_16) rfl (flt (by decide : ¬ ((0 : Int32) < (0 : Int32)))).2.1 (by decide) (by decide) (Steps.refl _)) ?_
  show own_Fin _ _ _ _ (T12.setTop (mkF m 46 #[.val (.ref a1), .val (.int (0 : Int32)), .val (.ref av), .val (.int (0 : Int32)), .val (.int (0 : Int32)), .unset] []))
  refine own_go (XS.iloadN X12.here hx rfl (hb hby d3_46) rfl (Steps.refl _)) ?_
  show own_Fin _ _ _ _ (T12.setTop (mkF m 47 #[.val (.ref a1), .val (.int (0 : Int32)), .val (.ref av), .val (.int (0 : Int32)), .val (.int (0 : Int32)), .unset] [(.int (0 : Int32))]))
  obtain ⟨fs14, hr14, hrun14, hended14, hW14, hsame14⟩ := X12.leave (v := some (.int (0 : Int32))) (fun h => by rw [Bd.returns] at h; cases h)
  refine own_done (retN X12 hx (t := .boolean) Bd.returns (by simp) (hb hby d3_47) hr14) hrun14 hended14 ⟨_, _, rfl, ?_, ⟨_, rfl⟩, hW14, hsame14.mono (by decide) (by decide)⟩
  show Q3_0 Z a1 av k h0 n0 _ T12.heap _
  rw [e12]
  exact ⟨rfl, N0, rfl⟩
theorem ef_3_1 (m : MethodId) (x0 : Addr) : entryFrame m #[(.ref x0)] 6 = mkF m 0 #[.val (.ref x0), .unset, .unset, .unset, .unset, .unset] [] := by first | (simp [entryFrame, mkF, argsToLocals, Value.category]; done) | rfl
def Q3_1 (Z : State) (a1 : Addr) (av : Addr) (k : ClassId) (b0 : Int32) (h0 : Heap) (n0 : Nat) (v : Option Value) (h : Heap) (L : List Loc) : Prop := v = some (.int (if (decide (b0 < (0 : Int32))) then (1 : Int32) else 0)) ∧ Fr n0 L ∧ h = h0
abbrev G3_1 (Z : State) (a1 : Addr) (av : Addr) (k : ClassId) (b0 : Int32) (h0 : Heap) (n0 : Nat) (s : State) : Outcome → State → Prop := fun o U' => ∃ v L, o = .returned v ∧ Q3_1 Z a1 av k b0 h0 n0 v U'.heap L ∧ FrameEnd s o U' L ({ frames := 0, cells := 0, slots := 0, locals := 0 } : Room).cells ({ frames := 0, cells := 0, slots := 0, locals := 0 } : Room).slots
set_option maxRecDepth 65536 in
set_option maxHeartbeats 40000000 in
theorem rm3_1 (l : Launch) (Z : State) (a0 : Array Value) (hw : ∀ d ∈ tables_1, d.before a0 Z = true) (ws : List Jvm.Cond) (a1 : Addr) (av : Addr) (k : ClassId) (b0 : Int32) (h0 : Heap) (n0 : Nat) (Z0 : n0 ≤ h0.size) (F_variables_a1 : Fld Z h0 a1 "com/example/nosto/nosto/Arguments" "variables" "[I" (.ref av)) (V_av : Arv Z h0 av k .int (1 : Int32) [.int b0] (.int (0 : Int32))) :
    MetFree l (⟨"com/example/nosto/nosto/Arguments", "namesConstant", "()Z"⟩ : MethodName) (head1 (Jvm.Cond.code (⟨"com/example/nosto/nosto/Arguments", "namesConstant", "()Z"⟩ : MethodName) prog_1_method_6_code 6 (some .boolean) :: ws) ({ frames := 0, cells := 0, slots := 0, locals := 0 } : Room)) (fun a U => a = #[(.ref a1)] ∧ Z.Warmed39 U.vm ∧ U.heap = h0) (fun _ _ _ _ _ => True) (fun _ U o U' => ∃ v L, o = .returned v ∧ Q3_1 Z a1 av k b0 h0 n0 v U'.heap L ∧ FrameEnd U o U' L ({ frames := 0, cells := 0, slots := 0, locals := 0 } : Room).cells ({ frames := 0, cells := 0, slots := 0, locals := 0 } : Room).slots) := by
  refine MetFree.of_bodySF (plainFor_of_name pn_com_example_nosto_nosto_Arguments) hisR ?_
  intro p e s m args below meth c s₁ Bd hml0 hP hK
  obtain ⟨rfl, hZ, hh⟩ := hP
  have hx := Bd.exec
  have hby := Bd.bytes
  have hml : c.maxLocals = 6 := hml0
  have hown : s.vm.findClass "com/example/nosto/nosto/Arguments" = some m.cls := findClass_of_methodNamed Bd.named
  have hnm := (name_of_methodNamed Bd.named Bd.method).1
  have X0 : Stand p l e ({ frames := 0, cells := 0, slots := 0, locals := 0 } : Room) s m #[(.ref a1)] below meth c s₁ [] 0 0 := Stand.of_body Bd
  have e0 : s₁.heap = h0 := by rw [← hh, Bd.state]; rfl
  have es0 : s.heap = h0 := hh
  have N0 := Fr.nil n0
  show own_Fin p e below (G3_1 Z a1 av k b0 h0 n0 s) (s₁.setTop (entryFrame m #[(.ref a1)] 6))
  rw [ef_3_1 m a1]
  refine own_go (XS.iconst X0.here hx rfl (hb hby d3_0) (Steps.refl _)) ?_
  show own_Fin _ _ _ _ (s₁.setTop (mkF m 1 #[.val (.ref a1), .unset, .unset, .unset, .unset, .unset] [(.int (0 : Int32))]))
  refine own_go (XS.istoreN X0.here hx rfl (hb hby d3_1) rfl (l' := #[.val (.ref a1), .val (.int (0 : Int32)), .unset, .unset, .unset, .unset]) rfl (Steps.refl _)) ?_
  show own_Fin _ _ _ _ (s₁.setTop (mkF m 2 #[.val (.ref a1), .val (.int (0 : Int32)), .unset, .unset, .unset, .unset] []))
  refine own_go (XS.aloadN X0.here hx rfl (hb hby d3_2) rfl rfl (Steps.refl _)) ?_
  show own_Fin _ _ _ _ (s₁.setTop (mkF m 3 #[.val (.ref a1), .val (.int (0 : Int32)), .unset, .unset, .unset, .unset] [(.ref a1)]))
  obtain ⟨T15, X15, e15, st15⟩ := getF X0 hx hZ hown (host := "") (Or.inl (hw _ (List.mem_of_getElem? (i := 20) rfl))) Via.refl e0 F_variables_a1 (g := (mkF m 3 #[.val (.ref a1), .val (.int (0 : Int32)), .unset, .unset, .unset, .unset] [(.ref a1)])) rfl rfl (hb hby d3_3)
  refine own_by st15 ?_
  show own_Fin _ _ _ _ (T15.setTop (mkF m 6 #[.val (.ref a1), .val (.int (0 : Int32)), .unset, .unset, .unset, .unset] [(.ref av)]))
  refine own_go (XS.astoreN X15.here hx rfl (hb hby d3_6) rfl rfl (l' := #[.val (.ref a1), .val (.int (0 : Int32)), .val (.ref av), .unset, .unset, .unset]) rfl (Steps.refl _)) ?_
  show own_Fin _ _ _ _ (T15.setTop (mkF m 7 #[.val (.ref a1), .val (.int (0 : Int32)), .val (.ref av), .unset, .unset, .unset] []))
  refine own_go (XS.aloadN X15.here hx rfl (hb hby d3_7) rfl rfl (Steps.refl _)) ?_
  show own_Fin _ _ _ _ (T15.setTop (mkF m 8 #[.val (.ref a1), .val (.int (0 : Int32)), .val (.ref av), .unset, .unset, .unset] [(.ref av)]))
  obtain ⟨cl16, Ar16, qa16, Sa16, Na16, Ha16, Ga16⟩ := id V_av
  refine own_by (X15.arraylength hx (by rw [e15]; exact Ar16.1) (State.isArrayOf_alike hZ.alike Ar16.2.1) (g := (mkF m 8 #[.val (.ref a1), .val (.int (0 : Int32)), .val (.ref av), .unset, .unset, .unset] [(.ref av)])) rfl rfl (hb hby d3_8)) ?_
  rw [len_of Sa16 Na16]
  show own_Fin _ _ _ _ (T15.setTop (mkF m 9 #[.val (.ref a1), .val (.int (0 : Int32)), .val (.ref av), .unset, .unset, .unset] [(.int (1 : Int32))]))
  refine own_go (XS.istoreN X15.here hx rfl (hb hby d3_9) rfl (l' := #[.val (.ref a1), .val (.int (0 : Int32)), .val (.ref av), .val (.int (1 : Int32)), .unset, .unset]) rfl (Steps.refl _)) ?_
  show own_Fin _ _ _ _ (T15.setTop (mkF m 10 #[.val (.ref a1), .val (.int (0 : Int32)), .val (.ref av), .val (.int (1 : Int32)), .unset, .unset] []))
  refine own_go (XS.iconst X15.here hx rfl (hb hby d3_10) (Steps.refl _)) ?_
  show own_Fin _ _ _ _ (T15.setTop (mkF m 11 #[.val (.ref a1), .val (.int (0 : Int32)), .val (.ref av), .val (.int (1 : Int32)), .unset, .unset] [(.int (0 : Int32))]))
  refine own_go (XS.istore X15.here hx rfl (hb hby d3_11) rfl (l' := #[.val (.ref a1), .val (.int (0 : Int32)), .val (.ref av), .val (.int (1 : Int32)), .val (.int (0 : Int32)), .unset]) rfl (Steps.refl _)) ?_
  show own_Fin _ _ _ _ (T15.setTop (mkF m 13 #[.val (.ref a1), .val (.int (0 : Int32)), .val (.ref av), .val (.int (1 : Int32)), .val (.int (0 : Int32)), .unset] []))
  refine own_go (XS.iload X15.here hx rfl (hb hby d3_13) rfl (Steps.refl _)) ?_
  show own_Fin _ _ _ _ (T15.setTop (mkF m 15 #[.val (.ref a1), .val (.int (0 : Int32)), .val (.ref av), .val (.int (1 : Int32)), .val (.int (0 : Int32)), .unset] [(.int (0 : Int32))]))
  refine own_go (XS.iloadN X15.here hx rfl (hb hby d3_15) rfl (Steps.refl _)) ?_
  show own_Fin _ _ _ _ (T15.setTop (mkF m 16 #[.val (.ref a1), .val (.int (0 : Int32)), .val (.ref av), .val (.int (1 : Int32)), .val (.int (0 : Int32)), .unset] [(.int (1 : Int32)), (.int (0 : Int32))]))
  refine own_go (XS.icmpNo X15.here hx rfl (hb hby d3_16) rfl (tlt (by decide : (0 : Int32) < (1 : Int32))).2.1 (Steps.refl _)) ?_
  show own_Fin _ _ _ _ (T15.setTop (mkF m 19 #[.val (.ref a1), .val (.int (0 : Int32)), .val (.ref av), .val (.int (1 : Int32)), .val (.int (0 : Int32)), .unset] []))
  refine own_go (XS.aloadN X15.here hx rfl (hb hby d3_19) rfl rfl (Steps.refl _)) ?_
  show own_Fin _ _ _ _ (T15.setTop (mkF m 20 #[.val (.ref a1), .val (.int (0 : Int32)), .val (.ref av), .val (.int (1 : Int32)), .val (.int (0 : Int32)), .unset] [(.ref av)]))
  refine own_go (XS.iload X15.here hx rfl (hb hby d3_20) rfl (Steps.refl _)) ?_
  show own_Fin _ _ _ _ (T15.setTop (mkF m 22 #[.val (.ref a1), .val (.int (0 : Int32)), .val (.ref av), .val (.int (1 : Int32)), .val (.int (0 : Int32)), .unset] [(.int (0 : Int32)), (.ref av)]))
  obtain ⟨cl17, Ar17, qa17, Sa17, Na17, Ha17, Ga17⟩ := id V_av
  have hin17 : ¬ ((0 : Int32) < 0 ∨ cl17.slots.size ≤ ((0 : Int32)).toNatClampNeg) := inb_of Sa17 ⟨by decide, by decide⟩
  have hat17 : cl17.slots[((0 : Int32)).toNatClampNeg]? = some (.int b0) := Has.at Ha17 hin17 rfl
  refine own_by (X15.iaload hx (j := (0 : Int32)) (v := (.int b0)) (by rw [e15]; exact Ar17.1) (State.isArrayOf_alike hZ.alike Ar17.2.1) Ar17.2.2 hin17 hat17 (g := (mkF m 22 #[.val (.ref a1), .val (.int (0 : Int32)), .val (.ref av), .val (.int (1 : Int32)), .val (.int (0 : Int32)), .unset] [(.int (0 : Int32)), (.ref av)])) rfl rfl (hb hby d3_22)) ?_
  show own_Fin _ _ _ _ (T15.setTop (mkF m 23 #[.val (.ref a1), .val (.int (0 : Int32)), .val (.ref av), .val (.int (1 : Int32)), .val (.int (0 : Int32)), .unset] [(.int b0)]))
  refine own_go (XS.istore X15.here hx rfl (hb hby d3_23) rfl (l' := #[.val (.ref a1), .val (.int (0 : Int32)), .val (.ref av), .val (.int (1 : Int32)), .val (.int (0 : Int32)), .val (.int b0)]) rfl (Steps.refl _)) ?_
  show own_Fin _ _ _ _ (T15.setTop (mkF m 25 #[.val (.ref a1), .val (.int (0 : Int32)), .val (.ref av), .val (.int (1 : Int32)), .val (.int (0 : Int32)), .val (.int b0)] []))
  refine own_go (XS.iloadN X15.here hx rfl (hb hby d3_25) rfl (Steps.refl _)) ?_
  show own_Fin _ _ _ _ (T15.setTop (mkF m 26 #[.val (.ref a1), .val (.int (0 : Int32)), .val (.ref av), .val (.int (1 : Int32)), .val (.int (0 : Int32)), .val (.int b0)] [(.int (0 : Int32))]))
  refine own_go (XS.ifNo X15.here hx rfl (hb hby d3_26) rfl ((if0 _ _).trans (teq (by decide : (0 : Int32) = (0 : Int32))).2) (Steps.refl _)) ?_
  show own_Fin _ _ _ _ (T15.setTop (mkF m 29 #[.val (.ref a1), .val (.int (0 : Int32)), .val (.ref av), .val (.int (1 : Int32)), .val (.int (0 : Int32)), .val (.int b0)] []))
  refine own_go (XS.iload X15.here hx rfl (hb hby d3_29) rfl (Steps.refl _)) ?_
  show own_Fin _ _ _ _ (T15.setTop (mkF m 31 #[.val (.ref a1), .val (.int (0 : Int32)), .val (.ref av), .val (.int (1 : Int32)), .val (.int (0 : Int32)), .val (.int b0)] [(.int b0)]))
  by_cases c31_18 : b0 < (0 : Int32)
  · refine own_go (XS.ifNo X15.here hx rfl (hb hby d3_31) rfl ((if0 _ _).trans (tlt c31_18).2.1) (Steps.refl _)) ?_
    show own_Fin _ _ _ _ (T15.setTop (mkF m 34 #[.val (.ref a1), .val (.int (0 : Int32)), .val (.ref av), .val (.int (1 : Int32)), .val (.int (0 : Int32)), .val (.int b0)] []))
    refine own_go (XS.iconst X15.here hx rfl (hb hby d3_34) (Steps.refl _)) ?_
    show own_Fin _ _ _ _ (T15.setTop (mkF m 35 #[.val (.ref a1), .val (.int (0 : Int32)), .val (.ref av), .val (.int (1 : Int32)), .val (.int (0 : Int32)), .val (.int b0)] [(.int (1 : Int32))]))
    refine own_go (XS.goto X15.here hx rfl (pc0 := 35) (pc' := 39) rfl (hb hby d3_35) (by decide) (by decide) (Steps.refl _)) ?_
    show own_Fin _ _ _ _ (T15.setTop (mkF m 39 #[.val (.ref a1), .val (.int (0 : Int32)), .val (.ref av), .val (.int (1 : Int32)), .val (.int (0 : Int32)), .val (.int b0)] [(.int (1 : Int32))]))
    refine own_go (XS.istoreN X15.here hx rfl (hb hby d3_39) rfl (l' := #[.val (.ref a1), .val (.int (1 : Int32)), .val (.ref av), .val (.int (1 : Int32)), .val (.int (0 : Int32)), .val (.int b0)]) rfl (Steps.refl _)) ?_
    show own_Fin _ _ _ _ (T15.setTop (mkF m 40 #[.val (.ref a1), .val (.int (1 : Int32)), .val (.ref av), .val (.int (1 : Int32)), .val (.int (0 : Int32)), .val (.int b0)] []))
    refine own_go (XS.iinc X15.here hx rfl (hb hby d3_40) rfl (l' := #[.val (.ref a1), .val (.int (1 : Int32)), .val (.ref av), .val (.int (1 : Int32)), .val (.int (1 : Int32)), .val (.int b0)]) rfl (Steps.refl _)) ?_
    show own_Fin _ _ _ _ (T15.setTop (mkF m 43 #[.val (.ref a1), .val (.int (1 : Int32)), .val (.ref av), .val (.int (1 : Int32)), .val (.int (1 : Int32)), .val (.int b0)] []))
    refine own_go (XS.goto X15.here hx rfl (pc0 := 43) (pc' := 13) rfl (hb hby d3_43) (by decide) (by decide) (Steps.refl _)) ?_
    show own_Fin _ _ _ _ (T15.setTop (mkF m 13 #[.val (.ref a1), .val (.int (1 : Int32)), .val (.ref av), .val (.int (1 : Int32)), .val (.int (1 : Int32)), .val (.int b0)] []))
    refine own_go (XS.iload X15.here hx rfl (hb hby d3_13) rfl (Steps.refl _)) ?_
    show own_Fin _ _ _ _ (T15.setTop (mkF m 15 #[.val (.ref a1), .val (.int (1 : Int32)), .val (.ref av), .val (.int (1 : Int32)), .val (.int (1 : Int32)), .val (.int b0)] [(.int (1 : Int32))]))
    refine own_go (XS.iloadN X15.here hx rfl (hb hby d3_15) rfl (Steps.refl _)) ?_
    show own_Fin _ _ _ _ (T15.setTop (mkF m 16 #[.val (.ref a1), .val (.int (1 : Int32)), .val (.ref av), .val (.int (1 : Int32)), .val (.int (1 : Int32)), .val (.int b0)] [(.int (1 : Int32)), (.int (1 : Int32))]))
    refine own_go (XS.icmpYes X15.here hx rfl (pc0 := 16) (pc' := 46) rfl (hb hby d3_16) rfl (flt (by decide : ¬ ((1 : Int32) < (1 : Int32)))).2.1 (by decide) (by decide) (Steps.refl _)) ?_
    show own_Fin _ _ _ _ (T15.setTop (mkF m 46 #[.val (.ref a1), .val (.int (1 : Int32)), .val (.ref av), .val (.int (1 : Int32)), .val (.int (1 : Int32)), .val (.int b0)] []))
    refine own_go (XS.iloadN X15.here hx rfl (hb hby d3_46) rfl (Steps.refl _)) ?_
    show own_Fin _ _ _ _ (T15.setTop (mkF m 47 #[.val (.ref a1), .val (.int (1 : Int32)), .val (.ref av), .val (.int (1 : Int32)), .val (.int (1 : Int32)), .val (.int b0)] [(.int (1 : Int32))]))
    obtain ⟨fs19, hr19, hrun19, hended19, hW19, hsame19⟩ := X15.leave (v := some (.int (1 : Int32))) (fun h => by rw [Bd.returns] at h; cases h)
    refine own_done (retN X15 hx (t := .boolean) Bd.returns (by simp) (hb hby d3_47) hr19) hrun19 hended19 ⟨_, _, rfl, ?_, ⟨_, rfl⟩, hW19, hsame19.mono (by decide) (by decide)⟩
    show Q3_1 Z a1 av k b0 h0 n0 _ T15.heap _
    rw [e15]
    exact ⟨by simp [c31_18], N0, rfl⟩
  · refine own_go (XS.ifYes X15.here hx rfl (pc0 := 31) (pc' := 38) rfl (hb hby d3_31) rfl ((if0 _ _).trans (flt c31_18).2.1) (by decide) (by decide) (Steps.refl _)) ?_
    show own_Fin _ _ _ _ (T15.setTop (mkF m 38 #[.val (.ref a1), .val (.int (0 : Int32)), .val (.ref av), .val (.int (1 : Int32)), .val (.int (0 : Int32)), .val (.int b0)] []))
    refine own_go (XS.iconst X15.here hx rfl (hb hby d3_38) (Steps.refl _)) ?_
    show own_Fin _ _ _ _ (T15.setTop (mkF m 39 #[.val (.ref a1), .val (.int (0 : Int32)), .val (.ref av), .val (.int (1 : Int32)), .val (.int (0 : Int32)), .val (.int b0)] [(.int (0 : Int32))]))
    refine own_go (XS.istoreN X15.here hx rfl (hb hby d3_39) rfl (l' := #[.val (.ref a1), .val (.int (0 : Int32)), .val (.ref av), .val (.int (1 : Int32)), .val (.int (0 : Int32)), .val (.int b0)]) rfl (Steps.refl _)) ?_
    show own_Fin _ _ _ _ (T15.setTop (mkF m 40 #[.val (.ref a1), .val (.int (0 : Int32)), .val (.ref av), .val (.int (1 : Int32)), .val (.int (0 : Int32)), .val (.int b0)] []))
    refine own_go (XS.iinc X15.here hx rfl (hb hby d3_40) rfl (l' := #[.val (.ref a1), .val (.int (0 : Int32)), .val (.ref av), .val (.int (1 : Int32)), .val (.int (1 : Int32)), .val (.int b0)]) rfl (Steps.refl _)) ?_
    show own_Fin _ _ _ _ (T15.setTop (mkF m 43 #[.val (.ref a1), .val (.int (0 : Int32)), .val (.ref av), .val (.int (1 : Int32)), .val (.int (1 : Int32)), .val (.int b0)] []))
    refine own_go (XS.goto X15.here hx rfl (pc0 := 43) (pc' := 13) rfl (hb hby d3_43) (by decide) (by decide) (Steps.refl _)) ?_
    show own_Fin _ _ _ _ (T15.setTop (mkF m 13 #[.val (.ref a1), .val (.int (0 : Int32)), .val (.ref av), .val (.int (1 : Int32)), .val (.int (1 : Int32)), .val (.int b0)] []))
    refine own_go (XS.iload X15.here hx rfl (hb hby d3_13) rfl (Steps.refl _)) ?_
    show own_Fin _ _ _ _ (T15.setTop (mkF m 15 #[.val (.ref a1), .val (.int (0 : Int32)), .val (.ref av), .val (.int (1 : Int32)), .val (.int (1 : Int32)), .val (.int b0)] [(.int (1 : Int32))]))
    refine own_go (XS.iloadN X15.here hx rfl (hb hby d3_15) rfl (Steps.refl _)) ?_
    show own_Fin _ _ _ _ (T15.setTop (mkF m 16 #[.val (.ref a1), .val (.int (0 : Int32)), .val (.ref av), .val (.int (1 : Int32)), .val (.int (1 : Int32)), .val (.int b0)] [(.int (1 : Int32)), (.int (1 : Int32))]))
    refine own_go (XS.icmpYes X15.here hx rfl (pc0 := 16) (pc' := 46) rfl (hb hby d3_16) rfl (flt (by decide : ¬ ((1 : Int32) < (1 : Int32)))).2.1 (by decide) (by decide) (Steps.refl _)) ?_
    show own_Fin _ _ _ _ (T15.setTop (mkF m 46 #[.val (.ref a1), .val (.int (0 : Int32)), .val (.ref av), .val (.int (1 : Int32)), .val (.int (1 : Int32)), .val (.int b0)] []))
    refine own_go (XS.iloadN X15.here hx rfl (hb hby d3_46) rfl (Steps.refl _)) ?_
    show own_Fin _ _ _ _ (T15.setTop (mkF m 47 #[.val (.ref a1), .val (.int (0 : Int32)), .val (.ref av), .val (.int (1 : Int32)), .val (.int (1 : Int32)), .val (.int b0)] [(.int (0 : Int32))]))
    obtain ⟨fs20, hr20, hrun20, hended20, hW20, hsame20⟩ := X15.leave (v := some (.int (0 : Int32))) (fun h => by rw [Bd.returns] at h; cases h)
    refine own_done (retN X15 hx (t := .boolean) Bd.returns (by simp) (hb hby d3_47) hr20) hrun20 hended20 ⟨_, _, rfl, ?_, ⟨_, rfl⟩, hW20, hsame20.mono (by decide) (by decide)⟩
    show Q3_1 Z a1 av k b0 h0 n0 _ T15.heap _
    rw [e15]
    exact ⟨by simp [c31_18], N0, rfl⟩
theorem ef_3_2 (m : MethodId) (x0 : Addr) : entryFrame m #[(.ref x0)] 6 = mkF m 0 #[.val (.ref x0), .unset, .unset, .unset, .unset, .unset] [] := by first | (simp [entryFrame, mkF, argsToLocals, Value.category]; done) | rfl
def Q3_2 (Z : State) (a1 : Addr) (av : Addr) (k : ClassId) (b0 : Int32) (b1 : Int32) (h0 : Heap) (n0 : Nat) (v : Option Value) (h : Heap) (L : List Loc) : Prop := v = some (.int (if (decide (b0 < (0 : Int32)) || decide (b1 < (0 : Int32))) then (1 : Int32) else 0)) ∧ Fr n0 L ∧ h = h0
abbrev G3_2 (Z : State) (a1 : Addr) (av : Addr) (k : ClassId) (b0 : Int32) (b1 : Int32) (h0 : Heap) (n0 : Nat) (s : State) : Outcome → State → Prop := fun o U' => ∃ v L, o = .returned v ∧ Q3_2 Z a1 av k b0 b1 h0 n0 v U'.heap L ∧ FrameEnd s o U' L ({ frames := 0, cells := 0, slots := 0, locals := 0 } : Room).cells ({ frames := 0, cells := 0, slots := 0, locals := 0 } : Room).slots
set_option maxRecDepth 65536 in
set_option maxHeartbeats 40000000 in
theorem rm3_2 (l : Launch) (Z : State) (a0 : Array Value) (hw : ∀ d ∈ tables_1, d.before a0 Z = true) (ws : List Jvm.Cond) (a1 : Addr) (av : Addr) (k : ClassId) (b0 : Int32) (b1 : Int32) (h0 : Heap) (n0 : Nat) (Z0 : n0 ≤ h0.size) (F_variables_a1 : Fld Z h0 a1 "com/example/nosto/nosto/Arguments" "variables" "[I" (.ref av)) (V_av : Arv Z h0 av k .int (2 : Int32) [.int b0, .int b1] (.int (0 : Int32))) :
    MetFree l (⟨"com/example/nosto/nosto/Arguments", "namesConstant", "()Z"⟩ : MethodName) (head1 (Jvm.Cond.code (⟨"com/example/nosto/nosto/Arguments", "namesConstant", "()Z"⟩ : MethodName) prog_1_method_6_code 6 (some .boolean) :: ws) ({ frames := 0, cells := 0, slots := 0, locals := 0 } : Room)) (fun a U => a = #[(.ref a1)] ∧ Z.Warmed39 U.vm ∧ U.heap = h0) (fun _ _ _ _ _ => True) (fun _ U o U' => ∃ v L, o = .returned v ∧ Q3_2 Z a1 av k b0 b1 h0 n0 v U'.heap L ∧ FrameEnd U o U' L ({ frames := 0, cells := 0, slots := 0, locals := 0 } : Room).cells ({ frames := 0, cells := 0, slots := 0, locals := 0 } : Room).slots) := by
  refine MetFree.of_bodySF (plainFor_of_name pn_com_example_nosto_nosto_Arguments) hisR ?_
  intro p e s m args below meth c s₁ Bd hml0 hP hK
  obtain ⟨rfl, hZ, hh⟩ := hP
  have hx := Bd.exec
  have hby := Bd.bytes
  have hml : c.maxLocals = 6 := hml0
  have hown : s.vm.findClass "com/example/nosto/nosto/Arguments" = some m.cls := findClass_of_methodNamed Bd.named
  have hnm := (name_of_methodNamed Bd.named Bd.method).1
  have X0 : Stand p l e ({ frames := 0, cells := 0, slots := 0, locals := 0 } : Room) s m #[(.ref a1)] below meth c s₁ [] 0 0 := Stand.of_body Bd
  have e0 : s₁.heap = h0 := by rw [← hh, Bd.state]; rfl
  have es0 : s.heap = h0 := hh
  have N0 := Fr.nil n0
  show own_Fin p e below (G3_2 Z a1 av k b0 b1 h0 n0 s) (s₁.setTop (entryFrame m #[(.ref a1)] 6))
  rw [ef_3_2 m a1]
  refine own_go (XS.iconst X0.here hx rfl (hb hby d3_0) (Steps.refl _)) ?_
  show own_Fin _ _ _ _ (s₁.setTop (mkF m 1 #[.val (.ref a1), .unset, .unset, .unset, .unset, .unset] [(.int (0 : Int32))]))
  refine own_go (XS.istoreN X0.here hx rfl (hb hby d3_1) rfl (l' := #[.val (.ref a1), .val (.int (0 : Int32)), .unset, .unset, .unset, .unset]) rfl (Steps.refl _)) ?_
  show own_Fin _ _ _ _ (s₁.setTop (mkF m 2 #[.val (.ref a1), .val (.int (0 : Int32)), .unset, .unset, .unset, .unset] []))
  refine own_go (XS.aloadN X0.here hx rfl (hb hby d3_2) rfl rfl (Steps.refl _)) ?_
  show own_Fin _ _ _ _ (s₁.setTop (mkF m 3 #[.val (.ref a1), .val (.int (0 : Int32)), .unset, .unset, .unset, .unset] [(.ref a1)]))
  obtain ⟨T21, X21, e21, st21⟩ := getF X0 hx hZ hown (host := "") (Or.inl (hw _ (List.mem_of_getElem? (i := 20) rfl))) Via.refl e0 F_variables_a1 (g := (mkF m 3 #[.val (.ref a1), .val (.int (0 : Int32)), .unset, .unset, .unset, .unset] [(.ref a1)])) rfl rfl (hb hby d3_3)
  refine own_by st21 ?_
  show own_Fin _ _ _ _ (T21.setTop (mkF m 6 #[.val (.ref a1), .val (.int (0 : Int32)), .unset, .unset, .unset, .unset] [(.ref av)]))
  refine own_go (XS.astoreN X21.here hx rfl (hb hby d3_6) rfl rfl (l' := #[.val (.ref a1), .val (.int (0 : Int32)), .val (.ref av), .unset, .unset, .unset]) rfl (Steps.refl _)) ?_
  show own_Fin _ _ _ _ (T21.setTop (mkF m 7 #[.val (.ref a1), .val (.int (0 : Int32)), .val (.ref av), .unset, .unset, .unset] []))
  refine own_go (XS.aloadN X21.here hx rfl (hb hby d3_7) rfl rfl (Steps.refl _)) ?_
  show own_Fin _ _ _ _ (T21.setTop (mkF m 8 #[.val (.ref a1), .val (.int (0 : Int32)), .val (.ref av), .unset, .unset, .unset] [(.ref av)]))
  obtain ⟨cl22, Ar22, qa22, Sa22, Na22, Ha22, Ga22⟩ := id V_av
  refine own_by (X21.arraylength hx (by rw [e21]; exact Ar22.1) (State.isArrayOf_alike hZ.alike Ar22.2.1) (g := (mkF m 8 #[.val (.ref a1), .val (.int (0 : Int32)), .val (.ref av), .unset, .unset, .unset] [(.ref av)])) rfl rfl (hb hby d3_8)) ?_
  rw [len_of Sa22 Na22]
  show own_Fin _ _ _ _ (T21.setTop (mkF m 9 #[.val (.ref a1), .val (.int (0 : Int32)), .val (.ref av), .unset, .unset, .unset] [(.int (2 : Int32))]))
  refine own_go (XS.istoreN X21.here hx rfl (hb hby d3_9) rfl (l' := #[.val (.ref a1), .val (.int (0 : Int32)), .val (.ref av), .val (.int (2 : Int32)), .unset, .unset]) rfl (Steps.refl _)) ?_
  show own_Fin _ _ _ _ (T21.setTop (mkF m 10 #[.val (.ref a1), .val (.int (0 : Int32)), .val (.ref av), .val (.int (2 : Int32)), .unset, .unset] []))
  refine own_go (XS.iconst X21.here hx rfl (hb hby d3_10) (Steps.refl _)) ?_
  show own_Fin _ _ _ _ (T21.setTop (mkF m 11 #[.val (.ref a1), .val (.int (0 : Int32)), .val (.ref av), .val (.int (2 : Int32)), .unset, .unset] [(.int (0 : Int32))]))
  refine own_go (XS.istore X21.here hx rfl (hb hby d3_11) rfl (l' := #[.val (.ref a1), .val (.int (0 : Int32)), .val (.ref av), .val (.int (2 : Int32)), .val (.int (0 : Int32)), .unset]) rfl (Steps.refl _)) ?_
  show own_Fin _ _ _ _ (T21.setTop (mkF m 13 #[.val (.ref a1), .val (.int (0 : Int32)), .val (.ref av), .val (.int (2 : Int32)), .val (.int (0 : Int32)), .unset] []))
  refine own_go (XS.iload X21.here hx rfl (hb hby d3_13) rfl (Steps.refl _)) ?_
  show own_Fin _ _ _ _ (T21.setTop (mkF m 15 #[.val (.ref a1), .val (.int (0 : Int32)), .val (.ref av), .val (.int (2 : Int32)), .val (.int (0 : Int32)), .unset] [(.int (0 : Int32))]))
  refine own_go (XS.iloadN X21.here hx rfl (hb hby d3_15) rfl (Steps.refl _)) ?_
  show own_Fin _ _ _ _ (T21.setTop (mkF m 16 #[.val (.ref a1), .val (.int (0 : Int32)), .val (.ref av), .val (.int (2 : Int32)), .val (.int (0 : Int32)), .unset] [(.int (2 : Int32)), (.int (0 : Int32))]))
  refine own_go (XS.icmpNo X21.here hx rfl (hb hby d3_16) rfl (tlt (by decide : (0 : Int32) < (2 : Int32))).2.1 (Steps.refl _)) ?_
  show own_Fin _ _ _ _ (T21.setTop (mkF m 19 #[.val (.ref a1), .val (.int (0 : Int32)), .val (.ref av), .val (.int (2 : Int32)), .val (.int (0 : Int32)), .unset] []))
  refine own_go (XS.aloadN X21.here hx rfl (hb hby d3_19) rfl rfl (Steps.refl _)) ?_
  show own_Fin _ _ _ _ (T21.setTop (mkF m 20 #[.val (.ref a1), .val (.int (0 : Int32)), .val (.ref av), .val (.int (2 : Int32)), .val (.int (0 : Int32)), .unset] [(.ref av)]))
  refine own_go (XS.iload X21.here hx rfl (hb hby d3_20) rfl (Steps.refl _)) ?_
  show own_Fin _ _ _ _ (T21.setTop (mkF m 22 #[.val (.ref a1), .val (.int (0 : Int32)), .val (.ref av), .val (.int (2 : Int32)), .val (.int (0 : Int32)), .unset] [(.int (0 : Int32)), (.ref av)]))
  obtain ⟨cl23, Ar23, qa23, Sa23, Na23, Ha23, Ga23⟩ := id V_av
  have hin23 : ¬ ((0 : Int32) < 0 ∨ cl23.slots.size ≤ ((0 : Int32)).toNatClampNeg) := inb_of Sa23 ⟨by decide, by decide⟩
  have hat23 : cl23.slots[((0 : Int32)).toNatClampNeg]? = some (.int b0) := Has.at Ha23 hin23 rfl
  refine own_by (X21.iaload hx (j := (0 : Int32)) (v := (.int b0)) (by rw [e21]; exact Ar23.1) (State.isArrayOf_alike hZ.alike Ar23.2.1) Ar23.2.2 hin23 hat23 (g := (mkF m 22 #[.val (.ref a1), .val (.int (0 : Int32)), .val (.ref av), .val (.int (2 : Int32)), .val (.int (0 : Int32)), .unset] [(.int (0 : Int32)), (.ref av)])) rfl rfl (hb hby d3_22)) ?_
  show own_Fin _ _ _ _ (T21.setTop (mkF m 23 #[.val (.ref a1), .val (.int (0 : Int32)), .val (.ref av), .val (.int (2 : Int32)), .val (.int (0 : Int32)), .unset] [(.int b0)]))
  refine own_go (XS.istore X21.here hx rfl (hb hby d3_23) rfl (l' := #[.val (.ref a1), .val (.int (0 : Int32)), .val (.ref av), .val (.int (2 : Int32)), .val (.int (0 : Int32)), .val (.int b0)]) rfl (Steps.refl _)) ?_
  show own_Fin _ _ _ _ (T21.setTop (mkF m 25 #[.val (.ref a1), .val (.int (0 : Int32)), .val (.ref av), .val (.int (2 : Int32)), .val (.int (0 : Int32)), .val (.int b0)] []))
  refine own_go (XS.iloadN X21.here hx rfl (hb hby d3_25) rfl (Steps.refl _)) ?_
  show own_Fin _ _ _ _ (T21.setTop (mkF m 26 #[.val (.ref a1), .val (.int (0 : Int32)), .val (.ref av), .val (.int (2 : Int32)), .val (.int (0 : Int32)), .val (.int b0)] [(.int (0 : Int32))]))
  refine own_go (XS.ifNo X21.here hx rfl (hb hby d3_26) rfl ((if0 _ _).trans (teq (by decide : (0 : Int32) = (0 : Int32))).2) (Steps.refl _)) ?_
  show own_Fin _ _ _ _ (T21.setTop (mkF m 29 #[.val (.ref a1), .val (.int (0 : Int32)), .val (.ref av), .val (.int (2 : Int32)), .val (.int (0 : Int32)), .val (.int b0)] []))
  refine own_go (XS.iload X21.here hx rfl (hb hby d3_29) rfl (Steps.refl _)) ?_
  show own_Fin _ _ _ _ (T21.setTop (mkF m 31 #[.val (.ref a1), .val (.int (0 : Int32)), .val (.ref av), .val (.int (2 : Int32)), .val (.int (0 : Int32)), .val (.int b0)] [(.int b0)]))
  by_cases c31_24 : b0 < (0 : Int32)
  · refine own_go (XS.ifNo X21.here hx rfl (hb hby d3_31) rfl ((if0 _ _).trans (tlt c31_24).2.1) (Steps.refl _)) ?_
    show own_Fin _ _ _ _ (T21.setTop (mkF m 34 #[.val (.ref a1), .val (.int (0 : Int32)), .val (.ref av), .val (.int (2 : Int32)), .val (.int (0 : Int32)), .val (.int b0)] []))
    refine own_go (XS.iconst X21.here hx rfl (hb hby d3_34) (Steps.refl _)) ?_
    show own_Fin _ _ _ _ (T21.setTop (mkF m 35 #[.val (.ref a1), .val (.int (0 : Int32)), .val (.ref av), .val (.int (2 : Int32)), .val (.int (0 : Int32)), .val (.int b0)] [(.int (1 : Int32))]))
    refine own_go (XS.goto X21.here hx rfl (pc0 := 35) (pc' := 39) rfl (hb hby d3_35) (by decide) (by decide) (Steps.refl _)) ?_
    show own_Fin _ _ _ _ (T21.setTop (mkF m 39 #[.val (.ref a1), .val (.int (0 : Int32)), .val (.ref av), .val (.int (2 : Int32)), .val (.int (0 : Int32)), .val (.int b0)] [(.int (1 : Int32))]))
    refine own_go (XS.istoreN X21.here hx rfl (hb hby d3_39) rfl (l' := #[.val (.ref a1), .val (.int (1 : Int32)), .val (.ref av), .val (.int (2 : Int32)), .val (.int (0 : Int32)), .val (.int b0)]) rfl (Steps.refl _)) ?_
    show own_Fin _ _ _ _ (T21.setTop (mkF m 40 #[.val (.ref a1), .val (.int (1 : Int32)), .val (.ref av), .val (.int (2 : Int32)), .val (.int (0 : Int32)), .val (.int b0)] []))
    refine own_go (XS.iinc X21.here hx rfl (hb hby d3_40) rfl (l' := #[.val (.ref a1), .val (.int (1 : Int32)), .val (.ref av), .val (.int (2 : Int32)), .val (.int (1 : Int32)), .val (.int b0)]) rfl (Steps.refl _)) ?_
    show own_Fin _ _ _ _ (T21.setTop (mkF m 43 #[.val (.ref a1), .val (.int (1 : Int32)), .val (.ref av), .val (.int (2 : Int32)), .val (.int (1 : Int32)), .val (.int b0)] []))
    refine own_go (XS.goto X21.here hx rfl (pc0 := 43) (pc' := 13) rfl (hb hby d3_43) (by decide) (by decide) (Steps.refl _)) ?_
    show own_Fin _ _ _ _ (T21.setTop (mkF m 13 #[.val (.ref a1), .val (.int (1 : Int32)), .val (.ref av), .val (.int (2 : Int32)), .val (.int (1 : Int32)), .val (.int b0)] []))
    refine own_go (XS.iload X21.here hx rfl (hb hby d3_13) rfl (Steps.refl _)) ?_
    show own_Fin _ _ _ _ (T21.setTop (mkF m 15 #[.val (.ref a1), .val (.int (1 : Int32)), .val (.ref av), .val (.int (2 : Int32)), .val (.int (1 : Int32)), .val (.int b0)] [(.int (1 : Int32))]))
    refine own_go (XS.iloadN X21.here hx rfl (hb hby d3_15) rfl (Steps.refl _)) ?_
    show own_Fin _ _ _ _ (T21.setTop (mkF m 16 #[.val (.ref a1), .val (.int (1 : Int32)), .val (.ref av), .val (.int (2 : Int32)), .val (.int (1 : Int32)), .val (.int b0)] [(.int (2 : Int32)), (.int (1 : Int32))]))
    refine own_go (XS.icmpNo X21.here hx rfl (hb hby d3_16) rfl (tlt (by decide : (1 : Int32) < (2 : Int32))).2.1 (Steps.refl _)) ?_
    show own_Fin _ _ _ _ (T21.setTop (mkF m 19 #[.val (.ref a1), .val (.int (1 : Int32)), .val (.ref av), .val (.int (2 : Int32)), .val (.int (1 : Int32)), .val (.int b0)] []))
    refine own_go (XS.aloadN X21.here hx rfl (hb hby d3_19) rfl rfl (Steps.refl _)) ?_
    show own_Fin _ _ _ _ (T21.setTop (mkF m 20 #[.val (.ref a1), .val (.int (1 : Int32)), .val (.ref av), .val (.int (2 : Int32)), .val (.int (1 : Int32)), .val (.int b0)] [(.ref av)]))
    refine own_go (XS.iload X21.here hx rfl (hb hby d3_20) rfl (Steps.refl _)) ?_
    show own_Fin _ _ _ _ (T21.setTop (mkF m 22 #[.val (.ref a1), .val (.int (1 : Int32)), .val (.ref av), .val (.int (2 : Int32)), .val (.int (1 : Int32)), .val (.int b0)] [(.int (1 : Int32)), (.ref av)]))
    obtain ⟨cl25, Ar25, qa25, Sa25, Na25, Ha25, Ga25⟩ := id V_av
    have hin25 : ¬ ((1 : Int32) < 0 ∨ cl25.slots.size ≤ ((1 : Int32)).toNatClampNeg) := inb_of Sa25 ⟨by decide, by decide⟩
    have hat25 : cl25.slots[((1 : Int32)).toNatClampNeg]? = some (.int b1) := Has.at Ha25 hin25 rfl
    refine own_by (X21.iaload hx (j := (1 : Int32)) (v := (.int b1)) (by rw [e21]; exact Ar25.1) (State.isArrayOf_alike hZ.alike Ar25.2.1) Ar25.2.2 hin25 hat25 (g := (mkF m 22 #[.val (.ref a1), .val (.int (1 : Int32)), .val (.ref av), .val (.int (2 : Int32)), .val (.int (1 : Int32)), .val (.int b0)] [(.int (1 : Int32)), (.ref av)])) rfl rfl (hb hby d3_22)) ?_
    show own_Fin _ _ _ _ (T21.setTop (mkF m 23 #[.val (.ref a1), .val (.int (1 : Int32)), .val (.ref av), .val (.int (2 : Int32)), .val (.int (1 : Int32)), .val (.int b0)] [(.int b1)]))
    refine own_go (XS.istore X21.here hx rfl (hb hby d3_23) rfl (l' := #[.val (.ref a1), .val (.int (1 : Int32)), .val (.ref av), .val (.int (2 : Int32)), .val (.int (1 : Int32)), .val (.int b1)]) rfl (Steps.refl _)) ?_
    show own_Fin _ _ _ _ (T21.setTop (mkF m 25 #[.val (.ref a1), .val (.int (1 : Int32)), .val (.ref av), .val (.int (2 : Int32)), .val (.int (1 : Int32)), .val (.int b1)] []))
    refine own_go (XS.iloadN X21.here hx rfl (hb hby d3_25) rfl (Steps.refl _)) ?_
    show own_Fin _ _ _ _ (T21.setTop (mkF m 26 #[.val (.ref a1), .val (.int (1 : Int32)), .val (.ref av), .val (.int (2 : Int32)), .val (.int (1 : Int32)), .val (.int b1)] [(.int (1 : Int32))]))
    refine own_go (XS.ifYes X21.here hx rfl (pc0 := 26) (pc' := 34) rfl (hb hby d3_26) rfl ((if0 _ _).trans (feq (by decide : ¬ ((1 : Int32) = (0 : Int32)))).2) (by decide) (by decide) (Steps.refl _)) ?_
    show own_Fin _ _ _ _ (T21.setTop (mkF m 34 #[.val (.ref a1), .val (.int (1 : Int32)), .val (.ref av), .val (.int (2 : Int32)), .val (.int (1 : Int32)), .val (.int b1)] []))
    refine own_go (XS.iconst X21.here hx rfl (hb hby d3_34) (Steps.refl _)) ?_
    show own_Fin _ _ _ _ (T21.setTop (mkF m 35 #[.val (.ref a1), .val (.int (1 : Int32)), .val (.ref av), .val (.int (2 : Int32)), .val (.int (1 : Int32)), .val (.int b1)] [(.int (1 : Int32))]))
    refine own_go (XS.goto X21.here hx rfl (pc0 := 35) (pc' := 39) rfl (hb hby d3_35) (by decide) (by decide) (Steps.refl _)) ?_
    show own_Fin _ _ _ _ (T21.setTop (mkF m 39 #[.val (.ref a1), .val (.int (1 : Int32)), .val (.ref av), .val (.int (2 : Int32)), .val (.int (1 : Int32)), .val (.int b1)] [(.int (1 : Int32))]))
    refine own_go (XS.istoreN X21.here hx rfl (hb hby d3_39) rfl (l' := #[.val (.ref a1), .val (.int (1 : Int32)), .val (.ref av), .val (.int (2 : Int32)), .val (.int (1 : Int32)), .val (.int b1)]) rfl (Steps.refl _)) ?_
    show own_Fin _ _ _ _ (T21.setTop (mkF m 40 #[.val (.ref a1), .val (.int (1 : Int32)), .val (.ref av), .val (.int (2 : Int32)), .val (.int (1 : Int32)), .val (.int b1)] []))
    refine own_go (XS.iinc X21.here hx rfl (hb hby d3_40) rfl (l' := #[.val (.ref a1), .val (.int (1 : Int32)), .val (.ref av), .val (.int (2 : Int32)), .val (.int (2 : Int32)), .val (.int b1)]) rfl (Steps.refl _)) ?_
    show own_Fin _ _ _ _ (T21.setTop (mkF m 43 #[.val (.ref a1), .val (.int (1 : Int32)), .val (.ref av), .val (.int (2 : Int32)), .val (.int (2 : Int32)), .val (.int b1)] []))
    refine own_go (XS.goto X21.here hx rfl (pc0 := 43) (pc' := 13) rfl (hb hby d3_43) (by decide) (by decide) (Steps.refl _)) ?_
    show own_Fin _ _ _ _ (T21.setTop (mkF m 13 #[.val (.ref a1), .val (.int (1 : Int32)), .val (.ref av), .val (.int (2 : Int32)), .val (.int (2 : Int32)), .val (.int b1)] []))
    refine own_go (XS.iload X21.here hx rfl (hb hby d3_13) rfl (Steps.refl _)) ?_
    show own_Fin _ _ _ _ (T21.setTop (mkF m 15 #[.val (.ref a1), .val (.int (1 : Int32)), .val (.ref av), .val (.int (2 : Int32)), .val (.int (2 : Int32)), .val (.int b1)] [(.int (2 : Int32))]))
    refine own_go (XS.iloadN X21.here hx rfl (hb hby d3_15) rfl (Steps.refl _)) ?_
    show own_Fin _ _ _ _ (T21.setTop (mkF m 16 #[.val (.ref a1), .val (.int (1 : Int32)), .val (.ref av), .val (.int (2 : Int32)), .val (.int (2 : Int32)), .val (.int b1)] [(.int (2 : Int32)), (.int (2 : Int32))]))
    refine own_go (XS.icmpYes X21.here hx rfl (pc0 := 16) (pc' := 46) rfl (hb hby d3_16) rfl (flt (by decide : ¬ ((2 : Int32) < (2 : Int32)))).2.1 (by decide) (by decide) (Steps.refl _)) ?_
    show own_Fin _ _ _ _ (T21.setTop (mkF m 46 #[.val (.ref a1), .val (.int (1 : Int32)), .val (.ref av), .val (.int (2 : Int32)), .val (.int (2 : Int32)), .val (.int b1)] []))
    refine own_go (XS.iloadN X21.here hx rfl (hb hby d3_46) rfl (Steps.refl _)) ?_
    show own_Fin _ _ _ _ (T21.setTop (mkF m 47 #[.val (.ref a1), .val (.int (1 : Int32)), .val (.ref av), .val (.int (2 : Int32)), .val (.int (2 : Int32)), .val (.int b1)] [(.int (1 : Int32))]))
    obtain ⟨fs26, hr26, hrun26, hended26, hW26, hsame26⟩ := X21.leave (v := some (.int (1 : Int32))) (fun h => by rw [Bd.returns] at h; cases h)
    refine own_done (retN X21 hx (t := .boolean) Bd.returns (by simp) (hb hby d3_47) hr26) hrun26 hended26 ⟨_, _, rfl, ?_, ⟨_, rfl⟩, hW26, hsame26.mono (by decide) (by decide)⟩
    show Q3_2 Z a1 av k b0 b1 h0 n0 _ T21.heap _
    rw [e21]
    exact ⟨by simp [c31_24], N0, rfl⟩
  · refine own_go (XS.ifYes X21.here hx rfl (pc0 := 31) (pc' := 38) rfl (hb hby d3_31) rfl ((if0 _ _).trans (flt c31_24).2.1) (by decide) (by decide) (Steps.refl _)) ?_
    show own_Fin _ _ _ _ (T21.setTop (mkF m 38 #[.val (.ref a1), .val (.int (0 : Int32)), .val (.ref av), .val (.int (2 : Int32)), .val (.int (0 : Int32)), .val (.int b0)] []))
    refine own_go (XS.iconst X21.here hx rfl (hb hby d3_38) (Steps.refl _)) ?_
    show own_Fin _ _ _ _ (T21.setTop (mkF m 39 #[.val (.ref a1), .val (.int (0 : Int32)), .val (.ref av), .val (.int (2 : Int32)), .val (.int (0 : Int32)), .val (.int b0)] [(.int (0 : Int32))]))
    refine own_go (XS.istoreN X21.here hx rfl (hb hby d3_39) rfl (l' := #[.val (.ref a1), .val (.int (0 : Int32)), .val (.ref av), .val (.int (2 : Int32)), .val (.int (0 : Int32)), .val (.int b0)]) rfl (Steps.refl _)) ?_
    show own_Fin _ _ _ _ (T21.setTop (mkF m 40 #[.val (.ref a1), .val (.int (0 : Int32)), .val (.ref av), .val (.int (2 : Int32)), .val (.int (0 : Int32)), .val (.int b0)] []))
    refine own_go (XS.iinc X21.here hx rfl (hb hby d3_40) rfl (l' := #[.val (.ref a1), .val (.int (0 : Int32)), .val (.ref av), .val (.int (2 : Int32)), .val (.int (1 : Int32)), .val (.int b0)]) rfl (Steps.refl _)) ?_
    show own_Fin _ _ _ _ (T21.setTop (mkF m 43 #[.val (.ref a1), .val (.int (0 : Int32)), .val (.ref av), .val (.int (2 : Int32)), .val (.int (1 : Int32)), .val (.int b0)] []))
    refine own_go (XS.goto X21.here hx rfl (pc0 := 43) (pc' := 13) rfl (hb hby d3_43) (by decide) (by decide) (Steps.refl _)) ?_
    show own_Fin _ _ _ _ (T21.setTop (mkF m 13 #[.val (.ref a1), .val (.int (0 : Int32)), .val (.ref av), .val (.int (2 : Int32)), .val (.int (1 : Int32)), .val (.int b0)] []))
    refine own_go (XS.iload X21.here hx rfl (hb hby d3_13) rfl (Steps.refl _)) ?_
    show own_Fin _ _ _ _ (T21.setTop (mkF m 15 #[.val (.ref a1), .val (.int (0 : Int32)), .val (.ref av), .val (.int (2 : Int32)), .val (.int (1 : Int32)), .val (.int b0)] [(.int (1 : Int32))]))
    refine own_go (XS.iloadN X21.here hx rfl (hb hby d3_15) rfl (Steps.refl _)) ?_
    show own_Fin _ _ _ _ (T21.setTop (mkF m 16 #[.val (.ref a1), .val (.int (0 : Int32)), .val (.ref av), .val (.int (2 : Int32)), .val (.int (1 : Int32)), .val (.int b0)] [(.int (2 : Int32)), (.int (1 : Int32))]))
    refine own_go (XS.icmpNo X21.here hx rfl (hb hby d3_16) rfl (tlt (by decide : (1 : Int32) < (2 : Int32))).2.1 (Steps.refl _)) ?_
    show own_Fin _ _ _ _ (T21.setTop (mkF m 19 #[.val (.ref a1), .val (.int (0 : Int32)), .val (.ref av), .val (.int (2 : Int32)), .val (.int (1 : Int32)), .val (.int b0)] []))
    refine own_go (XS.aloadN X21.here hx rfl (hb hby d3_19) rfl rfl (Steps.refl _)) ?_
    show own_Fin _ _ _ _ (T21.setTop (mkF m 20 #[.val (.ref a1), .val (.int (0 : Int32)), .val (.ref av), .val (.int (2 : Int32)), .val (.int (1 : Int32)), .val (.int b0)] [(.ref av)]))
    refine own_go (XS.iload X21.here hx rfl (hb hby d3_20) rfl (Steps.refl _)) ?_
    show own_Fin _ _ _ _ (T21.setTop (mkF m 22 #[.val (.ref a1), .val (.int (0 : Int32)), .val (.ref av), .val (.int (2 : Int32)), .val (.int (1 : Int32)), .val (.int b0)] [(.int (1 : Int32)), (.ref av)]))
    obtain ⟨cl27, Ar27, qa27, Sa27, Na27, Ha27, Ga27⟩ := id V_av
    have hin27 : ¬ ((1 : Int32) < 0 ∨ cl27.slots.size ≤ ((1 : Int32)).toNatClampNeg) := inb_of Sa27 ⟨by decide, by decide⟩
    have hat27 : cl27.slots[((1 : Int32)).toNatClampNeg]? = some (.int b1) := Has.at Ha27 hin27 rfl
    refine own_by (X21.iaload hx (j := (1 : Int32)) (v := (.int b1)) (by rw [e21]; exact Ar27.1) (State.isArrayOf_alike hZ.alike Ar27.2.1) Ar27.2.2 hin27 hat27 (g := (mkF m 22 #[.val (.ref a1), .val (.int (0 : Int32)), .val (.ref av), .val (.int (2 : Int32)), .val (.int (1 : Int32)), .val (.int b0)] [(.int (1 : Int32)), (.ref av)])) rfl rfl (hb hby d3_22)) ?_
    show own_Fin _ _ _ _ (T21.setTop (mkF m 23 #[.val (.ref a1), .val (.int (0 : Int32)), .val (.ref av), .val (.int (2 : Int32)), .val (.int (1 : Int32)), .val (.int b0)] [(.int b1)]))
    refine own_go (XS.istore X21.here hx rfl (hb hby d3_23) rfl (l' := #[.val (.ref a1), .val (.int (0 : Int32)), .val (.ref av), .val (.int (2 : Int32)), .val (.int (1 : Int32)), .val (.int b1)]) rfl (Steps.refl _)) ?_
    show own_Fin _ _ _ _ (T21.setTop (mkF m 25 #[.val (.ref a1), .val (.int (0 : Int32)), .val (.ref av), .val (.int (2 : Int32)), .val (.int (1 : Int32)), .val (.int b1)] []))
    refine own_go (XS.iloadN X21.here hx rfl (hb hby d3_25) rfl (Steps.refl _)) ?_
    show own_Fin _ _ _ _ (T21.setTop (mkF m 26 #[.val (.ref a1), .val (.int (0 : Int32)), .val (.ref av), .val (.int (2 : Int32)), .val (.int (1 : Int32)), .val (.int b1)] [(.int (0 : Int32))]))
    refine own_go (XS.ifNo X21.here hx rfl (hb hby d3_26) rfl ((if0 _ _).trans (teq (by decide : (0 : Int32) = (0 : Int32))).2) (Steps.refl _)) ?_
    show own_Fin _ _ _ _ (T21.setTop (mkF m 29 #[.val (.ref a1), .val (.int (0 : Int32)), .val (.ref av), .val (.int (2 : Int32)), .val (.int (1 : Int32)), .val (.int b1)] []))
    refine own_go (XS.iload X21.here hx rfl (hb hby d3_29) rfl (Steps.refl _)) ?_
    show own_Fin _ _ _ _ (T21.setTop (mkF m 31 #[.val (.ref a1), .val (.int (0 : Int32)), .val (.ref av), .val (.int (2 : Int32)), .val (.int (1 : Int32)), .val (.int b1)] [(.int b1)]))
    by_cases c31_28 : b1 < (0 : Int32)
    · refine own_go (XS.ifNo X21.here hx rfl (hb hby d3_31) rfl ((if0 _ _).trans (tlt c31_28).2.1) (Steps.refl _)) ?_
      show own_Fin _ _ _ _ (T21.setTop (mkF m 34 #[.val (.ref a1), .val (.int (0 : Int32)), .val (.ref av), .val (.int (2 : Int32)), .val (.int (1 : Int32)), .val (.int b1)] []))
      refine own_go (XS.iconst X21.here hx rfl (hb hby d3_34) (Steps.refl _)) ?_
      show own_Fin _ _ _ _ (T21.setTop (mkF m 35 #[.val (.ref a1), .val (.int (0 : Int32)), .val (.ref av), .val (.int (2 : Int32)), .val (.int (1 : Int32)), .val (.int b1)] [(.int (1 : Int32))]))
      refine own_go (XS.goto X21.here hx rfl (pc0 := 35) (pc' := 39) rfl (hb hby d3_35) (by decide) (by decide) (Steps.refl _)) ?_
      show own_Fin _ _ _ _ (T21.setTop (mkF m 39 #[.val (.ref a1), .val (.int (0 : Int32)), .val (.ref av), .val (.int (2 : Int32)), .val (.int (1 : Int32)), .val (.int b1)] [(.int (1 : Int32))]))
      refine own_go (XS.istoreN X21.here hx rfl (hb hby d3_39) rfl (l' := #[.val (.ref a1), .val (.int (1 : Int32)), .val (.ref av), .val (.int (2 : Int32)), .val (.int (1 : Int32)), .val (.int b1)]) rfl (Steps.refl _)) ?_
      show own_Fin _ _ _ _ (T21.setTop (mkF m 40 #[.val (.ref a1), .val (.int (1 : Int32)), .val (.ref av), .val (.int (2 : Int32)), .val (.int (1 : Int32)), .val (.int b1)] []))
      refine own_go (XS.iinc X21.here hx rfl (hb hby d3_40) rfl (l' := #[.val (.ref a1), .val (.int (1 : Int32)), .val (.ref av), .val (.int (2 : Int32)), .val (.int (2 : Int32)), .val (.int b1)]) rfl (Steps.refl _)) ?_
      show own_Fin _ _ _ _ (T21.setTop (mkF m 43 #[.val (.ref a1), .val (.int (1 : Int32)), .val (.ref av), .val (.int (2 : Int32)), .val (.int (2 : Int32)), .val (.int b1)] []))
      refine own_go (XS.goto X21.here hx rfl (pc0 := 43) (pc' := 13) rfl (hb hby d3_43) (by decide) (by decide) (Steps.refl _)) ?_
      show own_Fin _ _ _ _ (T21.setTop (mkF m 13 #[.val (.ref a1), .val (.int (1 : Int32)), .val (.ref av), .val (.int (2 : Int32)), .val (.int (2 : Int32)), .val (.int b1)] []))
      refine own_go (XS.iload X21.here hx rfl (hb hby d3_13) rfl (Steps.refl _)) ?_
      show own_Fin _ _ _ _ (T21.setTop (mkF m 15 #[.val (.ref a1), .val (.int (1 : Int32)), .val (.ref av), .val (.int (2 : Int32)), .val (.int (2 : Int32)), .val (.int b1)] [(.int (2 : Int32))]))
      refine own_go (XS.iloadN X21.here hx rfl (hb hby d3_15) rfl (Steps.refl _)) ?_
      show own_Fin _ _ _ _ (T21.setTop (mkF m 16 #[.val (.ref a1), .val (.int (1 : Int32)), .val (.ref av), .val (.int (2 : Int32)), .val (.int (2 : Int32)), .val (.int b1)] [(.int (2 : Int32)), (.int (2 : Int32))]))
      refine own_go (XS.icmpYes X21.here hx rfl (pc0 := 16) (pc' := 46) rfl (hb hby d3_16) rfl (flt (by decide : ¬ ((2 : Int32) < (2 : Int32)))).2.1 (by decide) (by decide) (Steps.refl _)) ?_
      show own_Fin _ _ _ _ (T21.setTop (mkF m 46 #[.val (.ref a1), .val (.int (1 : Int32)), .val (.ref av), .val (.int (2 : Int32)), .val (.int (2 : Int32)), .val (.int b1)] []))
      refine own_go (XS.iloadN X21.here hx rfl (hb hby d3_46) rfl (Steps.refl _)) ?_
      show own_Fin _ _ _ _ (T21.setTop (mkF m 47 #[.val (.ref a1), .val (.int (1 : Int32)), .val (.ref av), .val (.int (2 : Int32)), .val (.int (2 : Int32)), .val (.int b1)] [(.int (1 : Int32))]))
      obtain ⟨fs29, hr29, hrun29, hended29, hW29, hsame29⟩ := X21.leave (v := some (.int (1 : Int32))) (fun h => by rw [Bd.returns] at h; cases h)
      refine own_done (retN X21 hx (t := .boolean) Bd.returns (by simp) (hb hby d3_47) hr29) hrun29 hended29 ⟨_, _, rfl, ?_, ⟨_, rfl⟩, hW29, hsame29.mono (by decide) (by decide)⟩
      show Q3_2 Z a1 av k b0 b1 h0 n0 _ T21.heap _
      rw [e21]
      exact ⟨by simp [c31_24, c31_28], N0, rfl⟩
    · refine own_go (XS.ifYes X21.here hx rfl (pc0 := 31) (pc' := 38) rfl (hb hby d3_31) rfl ((if0 _ _).trans (flt c31_28).2.1) (by decide) (by decide) (Steps.refl _)) ?_
      show own_Fin _ _ _ _ (T21.setTop (mkF m 38 #[.val (.ref a1), .val (.int (0 : Int32)), .val (.ref av), .val (.int (2 : Int32)), .val (.int (1 : Int32)), .val (.int b1)] []))
      refine own_go (XS.iconst X21.here hx rfl (hb hby d3_38) (Steps.refl _)) ?_
      show own_Fin _ _ _ _ (T21.setTop (mkF m 39 #[.val (.ref a1), .val (.int (0 : Int32)), .val (.ref av), .val (.int (2 : Int32)), .val (.int (1 : Int32)), .val (.int b1)] [(.int (0 : Int32))]))
      refine own_go (XS.istoreN X21.here hx rfl (hb hby d3_39) rfl (l' := #[.val (.ref a1), .val (.int (0 : Int32)), .val (.ref av), .val (.int (2 : Int32)), .val (.int (1 : Int32)), .val (.int b1)]) rfl (Steps.refl _)) ?_
      show own_Fin _ _ _ _ (T21.setTop (mkF m 40 #[.val (.ref a1), .val (.int (0 : Int32)), .val (.ref av), .val (.int (2 : Int32)), .val (.int (1 : Int32)), .val (.int b1)] []))
      refine own_go (XS.iinc X21.here hx rfl (hb hby d3_40) rfl (l' := #[.val (.ref a1), .val (.int (0 : Int32)), .val (.ref av), .val (.int (2 : Int32)), .val (.int (2 : Int32)), .val (.int b1)]) rfl (Steps.refl _)) ?_
      show own_Fin _ _ _ _ (T21.setTop (mkF m 43 #[.val (.ref a1), .val (.int (0 : Int32)), .val (.ref av), .val (.int (2 : Int32)), .val (.int (2 : Int32)), .val (.int b1)] []))
      refine own_go (XS.goto X21.here hx rfl (pc0 := 43) (pc' := 13) rfl (hb hby d3_43) (by decide) (by decide) (Steps.refl _)) ?_
      show own_Fin _ _ _ _ (T21.setTop (mkF m 13 #[.val (.ref a1), .val (.int (0 : Int32)), .val (.ref av), .val (.int (2 : Int32)), .val (.int (2 : Int32)), .val (.int b1)] []))
      refine own_go (XS.iload X21.here hx rfl (hb hby d3_13) rfl (Steps.refl _)) ?_
      show own_Fin _ _ _ _ (T21.setTop (mkF m 15 #[.val (.ref a1), .val (.int (0 : Int32)), .val (.ref av), .val (.int (2 : Int32)), .val (.int (2 : Int32)), .val (.int b1)] [(.int (2 : Int32))]))
      refine own_go (XS.iloadN X21.here hx rfl (hb hby d3_15) rfl (Steps.refl _)) ?_
      show own_Fin _ _ _ _ (T21.setTop (mkF m 16 #[.val (.ref a1), .val (.int (0 : Int32)), .val (.ref av), .val (.int (2 : Int32)), .val (.int (2 : Int32)), .val (.int b1)] [(.int (2 : Int32)), (.int (2 : Int32))]))
      refine own_go (XS.icmpYes X21.here hx rfl (pc0 := 16) (pc' := 46) rfl (hb hby d3_16) rfl (flt (by decide : ¬ ((2 : Int32) < (2 : Int32)))).2.1 (by decide) (by decide) (Steps.refl _)) ?_
      show own_Fin _ _ _ _ (T21.setTop (mkF m 46 #[.val (.ref a1), .val (.int (0 : Int32)), .val (.ref av), .val (.int (2 : Int32)), .val (.int (2 : Int32)), .val (.int b1)] []))
      refine own_go (XS.iloadN X21.here hx rfl (hb hby d3_46) rfl (Steps.refl _)) ?_
      show own_Fin _ _ _ _ (T21.setTop (mkF m 47 #[.val (.ref a1), .val (.int (0 : Int32)), .val (.ref av), .val (.int (2 : Int32)), .val (.int (2 : Int32)), .val (.int b1)] [(.int (0 : Int32))]))
      obtain ⟨fs30, hr30, hrun30, hended30, hW30, hsame30⟩ := X21.leave (v := some (.int (0 : Int32))) (fun h => by rw [Bd.returns] at h; cases h)
      refine own_done (retN X21 hx (t := .boolean) Bd.returns (by simp) (hb hby d3_47) hr30) hrun30 hended30 ⟨_, _, rfl, ?_, ⟨_, rfl⟩, hW30, hsame30.mono (by decide) (by decide)⟩
      show Q3_2 Z a1 av k b0 b1 h0 n0 _ T21.heap _
      rw [e21]
      exact ⟨by simp [c31_24, c31_28], N0, rfl⟩
theorem ef_3_3 (m : MethodId) (x0 : Addr) : entryFrame m #[(.ref x0)] 6 = mkF m 0 #[.val (.ref x0), .unset, .unset, .unset, .unset, .unset] [] := by first | (simp [entryFrame, mkF, argsToLocals, Value.category]; done) | rfl
def Q3_3 (Z : State) (a1 : Addr) (av : Addr) (k : ClassId) (b0 : Int32) (b1 : Int32) (b2 : Int32) (h0 : Heap) (n0 : Nat) (v : Option Value) (h : Heap) (L : List Loc) : Prop := v = some (.int (if (decide (b0 < (0 : Int32)) || decide (b1 < (0 : Int32)) || decide (b2 < (0 : Int32))) then (1 : Int32) else 0)) ∧ Fr n0 L ∧ h = h0
abbrev G3_3 (Z : State) (a1 : Addr) (av : Addr) (k : ClassId) (b0 : Int32) (b1 : Int32) (b2 : Int32) (h0 : Heap) (n0 : Nat) (s : State) : Outcome → State → Prop := fun o U' => ∃ v L, o = .returned v ∧ Q3_3 Z a1 av k b0 b1 b2 h0 n0 v U'.heap L ∧ FrameEnd s o U' L ({ frames := 0, cells := 0, slots := 0, locals := 0 } : Room).cells ({ frames := 0, cells := 0, slots := 0, locals := 0 } : Room).slots
set_option maxRecDepth 65536 in
set_option maxHeartbeats 40000000 in
theorem rm3_3 (l : Launch) (Z : State) (a0 : Array Value) (hw : ∀ d ∈ tables_1, d.before a0 Z = true) (ws : List Jvm.Cond) (a1 : Addr) (av : Addr) (k : ClassId) (b0 : Int32) (b1 : Int32) (b2 : Int32) (h0 : Heap) (n0 : Nat) (Z0 : n0 ≤ h0.size) (F_variables_a1 : Fld Z h0 a1 "com/example/nosto/nosto/Arguments" "variables" "[I" (.ref av)) (V_av : Arv Z h0 av k .int (3 : Int32) [.int b0, .int b1, .int b2] (.int (0 : Int32))) :
    MetFree l (⟨"com/example/nosto/nosto/Arguments", "namesConstant", "()Z"⟩ : MethodName) (head1 (Jvm.Cond.code (⟨"com/example/nosto/nosto/Arguments", "namesConstant", "()Z"⟩ : MethodName) prog_1_method_6_code 6 (some .boolean) :: ws) ({ frames := 0, cells := 0, slots := 0, locals := 0 } : Room)) (fun a U => a = #[(.ref a1)] ∧ Z.Warmed39 U.vm ∧ U.heap = h0) (fun _ _ _ _ _ => True) (fun _ U o U' => ∃ v L, o = .returned v ∧ Q3_3 Z a1 av k b0 b1 b2 h0 n0 v U'.heap L ∧ FrameEnd U o U' L ({ frames := 0, cells := 0, slots := 0, locals := 0 } : Room).cells ({ frames := 0, cells := 0, slots := 0, locals := 0 } : Room).slots) := by
  refine MetFree.of_bodySF (plainFor_of_name pn_com_example_nosto_nosto_Arguments) hisR ?_
  intro p e s m args below meth c s₁ Bd hml0 hP hK
  obtain ⟨rfl, hZ, hh⟩ := hP
  have hx := Bd.exec
  have hby := Bd.bytes
  have hml : c.maxLocals = 6 := hml0
  have hown : s.vm.findClass "com/example/nosto/nosto/Arguments" = some m.cls := findClass_of_methodNamed Bd.named
  have hnm := (name_of_methodNamed Bd.named Bd.method).1
  have X0 : Stand p l e ({ frames := 0, cells := 0, slots := 0, locals := 0 } : Room) s m #[(.ref a1)] below meth c s₁ [] 0 0 := Stand.of_body Bd
  have e0 : s₁.heap = h0 := by rw [← hh, Bd.state]; rfl
  have es0 : s.heap = h0 := hh
  have N0 := Fr.nil n0
  show own_Fin p e below (G3_3 Z a1 av k b0 b1 b2 h0 n0 s) (s₁.setTop (entryFrame m #[(.ref a1)] 6))
  rw [ef_3_3 m a1]
  refine own_go (XS.iconst X0.here hx rfl (hb hby d3_0) (Steps.refl _)) ?_
  show own_Fin _ _ _ _ (s₁.setTop (mkF m 1 #[.val (.ref a1), .unset, .unset, .unset, .unset, .unset] [(.int (0 : Int32))]))
  refine own_go (XS.istoreN X0.here hx rfl (hb hby d3_1) rfl (l' := #[.val (.ref a1), .val (.int (0 : Int32)), .unset, .unset, .unset, .unset]) rfl (Steps.refl _)) ?_
  show own_Fin _ _ _ _ (s₁.setTop (mkF m 2 #[.val (.ref a1), .val (.int (0 : Int32)), .unset, .unset, .unset, .unset] []))
  refine own_go (XS.aloadN X0.here hx rfl (hb hby d3_2) rfl rfl (Steps.refl _)) ?_
  show own_Fin _ _ _ _ (s₁.setTop (mkF m 3 #[.val (.ref a1), .val (.int (0 : Int32)), .unset, .unset, .unset, .unset] [(.ref a1)]))
  obtain ⟨T31, X31, e31, st31⟩ := getF X0 hx hZ hown (host := "") (Or.inl (hw _ (List.mem_of_getElem? (i := 20) rfl))) Via.refl e0 F_variables_a1 (g := (mkF m 3 #[.val (.ref a1), .val (.int (0 : Int32)), .unset, .unset, .unset, .unset] [(.ref a1)])) rfl rfl (hb hby d3_3)
  refine own_by st31 ?_
  show own_Fin _ _ _ _ (T31.setTop (mkF m 6 #[.val (.ref a1), .val (.int (0 : Int32)), .unset, .unset, .unset, .unset] [(.ref av)]))
  refine own_go (XS.astoreN X31.here hx rfl (hb hby d3_6) rfl rfl (l' := #[.val (.ref a1), .val (.int (0 : Int32)), .val (.ref av), .unset, .unset, .unset]) rfl (Steps.refl _)) ?_
  show own_Fin _ _ _ _ (T31.setTop (mkF m 7 #[.val (.ref a1), .val (.int (0 : Int32)), .val (.ref av), .unset, .unset, .unset] []))
  refine own_go (XS.aloadN X31.here hx rfl (hb hby d3_7) rfl rfl (Steps.refl _)) ?_
  show own_Fin _ _ _ _ (T31.setTop (mkF m 8 #[.val (.ref a1), .val (.int (0 : Int32)), .val (.ref av), .unset, .unset, .unset] [(.ref av)]))
  obtain ⟨cl32, Ar32, qa32, Sa32, Na32, Ha32, Ga32⟩ := id V_av
  refine own_by (X31.arraylength hx (by rw [e31]; exact Ar32.1) (State.isArrayOf_alike hZ.alike Ar32.2.1) (g := (mkF m 8 #[.val (.ref a1), .val (.int (0 : Int32)), .val (.ref av), .unset, .unset, .unset] [(.ref av)])) rfl rfl (hb hby d3_8)) ?_
  rw [len_of Sa32 Na32]
  show own_Fin _ _ _ _ (T31.setTop (mkF m 9 #[.val (.ref a1), .val (.int (0 : Int32)), .val (.ref av), .unset, .unset, .unset] [(.int (3 : Int32))]))
  refine own_go (XS.istoreN X31.here hx rfl (hb hby d3_9) rfl (l' := #[.val (.ref a1), .val (.int (0 : Int32)), .val (.ref av), .val (.int (3 : Int32)), .unset, .unset]) rfl (Steps.refl _)) ?_
  show own_Fin _ _ _ _ (T31.setTop (mkF m 10 #[.val (.ref a1), .val (.int (0 : Int32)), .val (.ref av), .val (.int (3 : Int32)), .unset, .unset] []))
  refine own_go (XS.iconst X31.here hx rfl (hb hby d3_10) (Steps.refl _)) ?_
  show own_Fin _ _ _ _ (T31.setTop (mkF m 11 #[.val (.ref a1), .val (.int (0 : Int32)), .val (.ref av), .val (.int (3 : Int32)), .unset, .unset] [(.int (0 : Int32))]))
  refine own_go (XS.istore X31.here hx rfl (hb hby d3_11) rfl (l' := #[.val (.ref a1), .val (.int (0 : Int32)), .val (.ref av), .val (.int (3 : Int32)), .val (.int (0 : Int32)), .unset]) rfl (Steps.refl _)) ?_
  show own_Fin _ _ _ _ (T31.setTop (mkF m 13 #[.val (.ref a1), .val (.int (0 : Int32)), .val (.ref av), .val (.int (3 : Int32)), .val (.int (0 : Int32)), .unset] []))
  refine own_go (XS.iload X31.here hx rfl (hb hby d3_13) rfl (Steps.refl _)) ?_
  show own_Fin _ _ _ _ (T31.setTop (mkF m 15 #[.val (.ref a1), .val (.int (0 : Int32)), .val (.ref av), .val (.int (3 : Int32)), .val (.int (0 : Int32)), .unset] [(.int (0 : Int32))]))
  refine own_go (XS.iloadN X31.here hx rfl (hb hby d3_15) rfl (Steps.refl _)) ?_
  show own_Fin _ _ _ _ (T31.setTop (mkF m 16 #[.val (.ref a1), .val (.int (0 : Int32)), .val (.ref av), .val (.int (3 : Int32)), .val (.int (0 : Int32)), .unset] [(.int (3 : Int32)), (.int (0 : Int32))]))
  refine own_go (XS.icmpNo X31.here hx rfl (hb hby d3_16) rfl (tlt (by decide : (0 : Int32) < (3 : Int32))).2.1 (Steps.refl _)) ?_
  show own_Fin _ _ _ _ (T31.setTop (mkF m 19 #[.val (.ref a1), .val (.int (0 : Int32)), .val (.ref av), .val (.int (3 : Int32)), .val (.int (0 : Int32)), .unset] []))
  refine own_go (XS.aloadN X31.here hx rfl (hb hby d3_19) rfl rfl (Steps.refl _)) ?_
  show own_Fin _ _ _ _ (T31.setTop (mkF m 20 #[.val (.ref a1), .val (.int (0 : Int32)), .val (.ref av), .val (.int (3 : Int32)), .val (.int (0 : Int32)), .unset] [(.ref av)]))
  refine own_go (XS.iload X31.here hx rfl (hb hby d3_20) rfl (Steps.refl _)) ?_
  show own_Fin _ _ _ _ (T31.setTop (mkF m 22 #[.val (.ref a1), .val (.int (0 : Int32)), .val (.ref av), .val (.int (3 : Int32)), .val (.int (0 : Int32)), .unset] [(.int (0 : Int32)), (.ref av)]))
  obtain ⟨cl33, Ar33, qa33, Sa33, Na33, Ha33, Ga33⟩ := id V_av
  have hin33 : ¬ ((0 : Int32) < 0 ∨ cl33.slots.size ≤ ((0 : Int32)).toNatClampNeg) := inb_of Sa33 ⟨by decide, by decide⟩
  have hat33 : cl33.slots[((0 : Int32)).toNatClampNeg]? = some (.int b0) := Has.at Ha33 hin33 rfl
  refine own_by (X31.iaload hx (j := (0 : Int32)) (v := (.int b0)) (by rw [e31]; exact Ar33.1) (State.isArrayOf_alike hZ.alike Ar33.2.1) Ar33.2.2 hin33 hat33 (g := (mkF m 22 #[.val (.ref a1), .val (.int (0 : Int32)), .val (.ref av), .val (.int (3 : Int32)), .val (.int (0 : Int32)), .unset] [(.int (0 : Int32)), (.ref av)])) rfl rfl (hb hby d3_22)) ?_
  show own_Fin _ _ _ _ (T31.setTop (mkF m 23 #[.val (.ref a1), .val (.int (0 : Int32)), .val (.ref av), .val (.int (3 : Int32)), .val (.int (0 : Int32)), .unset] [(.int b0)]))
  refine own_go (XS.istore X31.here hx rfl (hb hby d3_23) rfl (l' := #[.val (.ref a1), .val (.int (0 : Int32)), .val (.ref av), .val (.int (3 : Int32)), .val (.int (0 : Int32)), .val (.int b0)]) rfl (Steps.refl _)) ?_
  show own_Fin _ _ _ _ (T31.setTop (mkF m 25 #[.val (.ref a1), .val (.int (0 : Int32)), .val (.ref av), .val (.int (3 : Int32)), .val (.int (0 : Int32)), .val (.int b0)] []))
  refine own_go (XS.iloadN X31.here hx rfl (hb hby d3_25) rfl (Steps.refl _)) ?_
  show own_Fin _ _ _ _ (T31.setTop (mkF m 26 #[.val (.ref a1), .val (.int (0 : Int32)), .val (.ref av), .val (.int (3 : Int32)), .val (.int (0 : Int32)), .val (.int b0)] [(.int (0 : Int32))]))
  refine own_go (XS.ifNo X31.here hx rfl (hb hby d3_26) rfl ((if0 _ _).trans (teq (by decide : (0 : Int32) = (0 : Int32))).2) (Steps.refl _)) ?_
  show own_Fin _ _ _ _ (T31.setTop (mkF m 29 #[.val (.ref a1), .val (.int (0 : Int32)), .val (.ref av), .val (.int (3 : Int32)), .val (.int (0 : Int32)), .val (.int b0)] []))
  refine own_go (XS.iload X31.here hx rfl (hb hby d3_29) rfl (Steps.refl _)) ?_
  show own_Fin _ _ _ _ (T31.setTop (mkF m 31 #[.val (.ref a1), .val (.int (0 : Int32)), .val (.ref av), .val (.int (3 : Int32)), .val (.int (0 : Int32)), .val (.int b0)] [(.int b0)]))
  by_cases c31_34 : b0 < (0 : Int32)
  · refine own_go (XS.ifNo X31.here hx rfl (hb hby d3_31) rfl ((if0 _ _).trans (tlt c31_34).2.1) (Steps.refl _)) ?_
    show own_Fin _ _ _ _ (T31.setTop (mkF m 34 #[.val (.ref a1), .val (.int (0 : Int32)), .val (.ref av), .val (.int (3 : Int32)), .val (.int (0 : Int32)), .val (.int b0)] []))
    refine own_go (XS.iconst X31.here hx rfl (hb hby d3_34) (Steps.refl _)) ?_
    show own_Fin _ _ _ _ (T31.setTop (mkF m 35 #[.val (.ref a1), .val (.int (0 : Int32)), .val (.ref av), .val (.int (3 : Int32)), .val (.int (0 : Int32)), .val (.int b0)] [(.int (1 : Int32))]))
    refine own_go (XS.goto X31.here hx rfl (pc0 := 35) (pc' := 39) rfl (hb hby d3_35) (by decide) (by decide) (Steps.refl _)) ?_
    show own_Fin _ _ _ _ (T31.setTop (mkF m 39 #[.val (.ref a1), .val (.int (0 : Int32)), .val (.ref av), .val (.int (3 : Int32)), .val (.int (0 : Int32)), .val (.int b0)] [(.int (1 : Int32))]))
    refine own_go (XS.istoreN X31.here hx rfl (hb hby d3_39) rfl (l' := #[.val (.ref a1), .val (.int (1 : Int32)), .val (.ref av), .val (.int (3 : Int32)), .val (.int (0 : Int32)), .val (.int b0)]) rfl (Steps.refl _)) ?_
    show own_Fin _ _ _ _ (T31.setTop (mkF m 40 #[.val (.ref a1), .val (.int (1 : Int32)), .val (.ref av), .val (.int (3 : Int32)), .val (.int (0 : Int32)), .val (.int b0)] []))
    refine own_go (XS.iinc X31.here hx rfl (hb hby d3_40) rfl (l' := #[.val (.ref a1), .val (.int (1 : Int32)), .val (.ref av), .val (.int (3 : Int32)), .val (.int (1 : Int32)), .val (.int b0)]) rfl (Steps.refl _)) ?_
    show own_Fin _ _ _ _ (T31.setTop (mkF m 43 #[.val (.ref a1), .val (.int (1 : Int32)), .val (.ref av), .val (.int (3 : Int32)), .val (.int (1 : Int32)), .val (.int b0)] []))
    refine own_go (XS.goto X31.here hx rfl (pc0 := 43) (pc' := 13) rfl (hb hby d3_43) (by decide) (by decide) (Steps.refl _)) ?_
    show own_Fin _ _ _ _ (T31.setTop (mkF m 13 #[.val (.ref a1), .val (.int (1 : Int32)), .val (.ref av), .val (.int (3 : Int32)), .val (.int (1 : Int32)), .val (.int b0)] []))
    refine own_go (XS.iload X31.here hx rfl (hb hby d3_13) rfl (Steps.refl _)) ?_
    show own_Fin _ _ _ _ (T31.setTop (mkF m 15 #[.val (.ref a1), .val (.int (1 : Int32)), .val (.ref av), .val (.int (3 : Int32)), .val (.int (1 : Int32)), .val (.int b0)] [(.int (1 : Int32))]))
    refine own_go (XS.iloadN X31.here hx rfl (hb hby d3_15) rfl (Steps.refl _)) ?_
    show own_Fin _ _ _ _ (T31.setTop (mkF m 16 #[.val (.ref a1), .val (.int (1 : Int32)), .val (.ref av), .val (.int (3 : Int32)), .val (.int (1 : Int32)), .val (.int b0)] [(.int (3 : Int32)), (.int (1 : Int32))]))
    refine own_go (XS.icmpNo X31.here hx rfl (hb hby d3_16) rfl (tlt (by decide : (1 : Int32) < (3 : Int32))).2.1 (Steps.refl _)) ?_
    show own_Fin _ _ _ _ (T31.setTop (mkF m 19 #[.val (.ref a1), .val (.int (1 : Int32)), .val (.ref av), .val (.int (3 : Int32)), .val (.int (1 : Int32)), .val (.int b0)] []))
    refine own_go (XS.aloadN X31.here hx rfl (hb hby d3_19) rfl rfl (Steps.refl _)) ?_
    show own_Fin _ _ _ _ (T31.setTop (mkF m 20 #[.val (.ref a1), .val (.int (1 : Int32)), .val (.ref av), .val (.int (3 : Int32)), .val (.int (1 : Int32)), .val (.int b0)] [(.ref av)]))
    refine own_go (XS.iload X31.here hx rfl (hb hby d3_20) rfl (Steps.refl _)) ?_
    show own_Fin _ _ _ _ (T31.setTop (mkF m 22 #[.val (.ref a1), .val (.int (1 : Int32)), .val (.ref av), .val (.int (3 : Int32)), .val (.int (1 : Int32)), .val (.int b0)] [(.int (1 : Int32)), (.ref av)]))
    obtain ⟨cl35, Ar35, qa35, Sa35, Na35, Ha35, Ga35⟩ := id V_av
    have hin35 : ¬ ((1 : Int32) < 0 ∨ cl35.slots.size ≤ ((1 : Int32)).toNatClampNeg) := inb_of Sa35 ⟨by decide, by decide⟩
    have hat35 : cl35.slots[((1 : Int32)).toNatClampNeg]? = some (.int b1) := Has.at Ha35 hin35 rfl
    refine own_by (X31.iaload hx (j := (1 : Int32)) (v := (.int b1)) (by rw [e31]; exact Ar35.1) (State.isArrayOf_alike hZ.alike Ar35.2.1) Ar35.2.2 hin35 hat35 (g := (mkF m 22 #[.val (.ref a1), .val (.int (1 : Int32)), .val (.ref av), .val (.int (3 : Int32)), .val (.int (1 : Int32)), .val (.int b0)] [(.int (1 : Int32)), (.ref av)])) rfl rfl (hb hby d3_22)) ?_
    show own_Fin _ _ _ _ (T31.setTop (mkF m 23 #[.val (.ref a1), .val (.int (1 : Int32)), .val (.ref av), .val (.int (3 : Int32)), .val (.int (1 : Int32)), .val (.int b0)] [(.int b1)]))
    refine own_go (XS.istore X31.here hx rfl (hb hby d3_23) rfl (l' := #[.val (.ref a1), .val (.int (1 : Int32)), .val (.ref av), .val (.int (3 : Int32)), .val (.int (1 : Int32)), .val (.int b1)]) rfl (Steps.refl _)) ?_
    show own_Fin _ _ _ _ (T31.setTop (mkF m 25 #[.val (.ref a1), .val (.int (1 : Int32)), .val (.ref av), .val (.int (3 : Int32)), .val (.int (1 : Int32)), .val (.int b1)] []))
    refine own_go (XS.iloadN X31.here hx rfl (hb hby d3_25) rfl (Steps.refl _)) ?_
    show own_Fin _ _ _ _ (T31.setTop (mkF m 26 #[.val (.ref a1), .val (.int (1 : Int32)), .val (.ref av), .val (.int (3 : Int32)), .val (.int (1 : Int32)), .val (.int b1)] [(.int (1 : Int32))]))
    refine own_go (XS.ifYes X31.here hx rfl (pc0 := 26) (pc' := 34) rfl (hb hby d3_26) rfl ((if0 _ _).trans (feq (by decide : ¬ ((1 : Int32) = (0 : Int32)))).2) (by decide) (by decide) (Steps.refl _)) ?_
    show own_Fin _ _ _ _ (T31.setTop (mkF m 34 #[.val (.ref a1), .val (.int (1 : Int32)), .val (.ref av), .val (.int (3 : Int32)), .val (.int (1 : Int32)), .val (.int b1)] []))
    refine own_go (XS.iconst X31.here hx rfl (hb hby d3_34) (Steps.refl _)) ?_
    show own_Fin _ _ _ _ (T31.setTop (mkF m 35 #[.val (.ref a1), .val (.int (1 : Int32)), .val (.ref av), .val (.int (3 : Int32)), .val (.int (1 : Int32)), .val (.int b1)] [(.int (1 : Int32))]))
    refine own_go (XS.goto X31.here hx rfl (pc0 := 35) (pc' := 39) rfl (hb hby d3_35) (by decide) (by decide) (Steps.refl _)) ?_
    show own_Fin _ _ _ _ (T31.setTop (mkF m 39 #[.val (.ref a1), .val (.int (1 : Int32)), .val (.ref av), .val (.int (3 : Int32)), .val (.int (1 : Int32)), .val (.int b1)] [(.int (1 : Int32))]))
    refine own_go (XS.istoreN X31.here hx rfl (hb hby d3_39) rfl (l' := #[.val (.ref a1), .val (.int (1 : Int32)), .val (.ref av), .val (.int (3 : Int32)), .val (.int (1 : Int32)), .val (.int b1)]) rfl (Steps.refl _)) ?_
    show own_Fin _ _ _ _ (T31.setTop (mkF m 40 #[.val (.ref a1), .val (.int (1 : Int32)), .val (.ref av), .val (.int (3 : Int32)), .val (.int (1 : Int32)), .val (.int b1)] []))
    refine own_go (XS.iinc X31.here hx rfl (hb hby d3_40) rfl (l' := #[.val (.ref a1), .val (.int (1 : Int32)), .val (.ref av), .val (.int (3 : Int32)), .val (.int (2 : Int32)), .val (.int b1)]) rfl (Steps.refl _)) ?_
    show own_Fin _ _ _ _ (T31.setTop (mkF m 43 #[.val (.ref a1), .val (.int (1 : Int32)), .val (.ref av), .val (.int (3 : Int32)), .val (.int (2 : Int32)), .val (.int b1)] []))
    refine own_go (XS.goto X31.here hx rfl (pc0 := 43) (pc' := 13) rfl (hb hby d3_43) (by decide) (by decide) (Steps.refl _)) ?_
    show own_Fin _ _ _ _ (T31.setTop (mkF m 13 #[.val (.ref a1), .val (.int (1 : Int32)), .val (.ref av), .val (.int (3 : Int32)), .val (.int (2 : Int32)), .val (.int b1)] []))
    refine own_go (XS.iload X31.here hx rfl (hb hby d3_13) rfl (Steps.refl _)) ?_
    show own_Fin _ _ _ _ (T31.setTop (mkF m 15 #[.val (.ref a1), .val (.int (1 : Int32)), .val (.ref av), .val (.int (3 : Int32)), .val (.int (2 : Int32)), .val (.int b1)] [(.int (2 : Int32))]))
    refine own_go (XS.iloadN X31.here hx rfl (hb hby d3_15) rfl (Steps.refl _)) ?_
    show own_Fin _ _ _ _ (T31.setTop (mkF m 16 #[.val (.ref a1), .val (.int (1 : Int32)), .val (.ref av), .val (.int (3 : Int32)), .val (.int (2 : Int32)), .val (.int b1)] [(.int (3 : Int32)), (.int (2 : Int32))]))
    refine own_go (XS.icmpNo X31.here hx rfl (hb hby d3_16) rfl (tlt (by decide : (2 : Int32) < (3 : Int32))).2.1 (Steps.refl _)) ?_
    show own_Fin _ _ _ _ (T31.setTop (mkF m 19 #[.val (.ref a1), .val (.int (1 : Int32)), .val (.ref av), .val (.int (3 : Int32)), .val (.int (2 : Int32)), .val (.int b1)] []))
    refine own_go (XS.aloadN X31.here hx rfl (hb hby d3_19) rfl rfl (Steps.refl _)) ?_
    show own_Fin _ _ _ _ (T31.setTop (mkF m 20 #[.val (.ref a1), .val (.int (1 : Int32)), .val (.ref av), .val (.int (3 : Int32)), .val (.int (2 : Int32)), .val (.int b1)] [(.ref av)]))
    refine own_go (XS.iload X31.here hx rfl (hb hby d3_20) rfl (Steps.refl _)) ?_
    show own_Fin _ _ _ _ (T31.setTop (mkF m 22 #[.val (.ref a1), .val (.int (1 : Int32)), .val (.ref av), .val (.int (3 : Int32)), .val (.int (2 : Int32)), .val (.int b1)] [(.int (2 : Int32)), (.ref av)]))
    obtain ⟨cl36, Ar36, qa36, Sa36, Na36, Ha36, Ga36⟩ := id V_av
    have hin36 : ¬ ((2 : Int32) < 0 ∨ cl36.slots.size ≤ ((2 : Int32)).toNatClampNeg) := inb_of Sa36 ⟨by decide, by decide⟩
    have hat36 : cl36.slots[((2 : Int32)).toNatClampNeg]? = some (.int b2) := Has.at Ha36 hin36 rfl
    refine own_by (X31.iaload hx (j := (2 : Int32)) (v := (.int b2)) (by rw [e31]; exact Ar36.1) (State.isArrayOf_alike hZ.alike Ar36.2.1) Ar36.2.2 hin36 hat36 (g := (mkF m 22 #[.val (.ref a1), .val (.int (1 : Int32)), .val (.ref av), .val (.int (3 : Int32)), .val (.int (2 : Int32)), .val (.int b1)] [(.int (2 : Int32)), (.ref av)])) rfl rfl (hb hby d3_22)) ?_
    show own_Fin _ _ _ _ (T31.setTop (mkF m 23 #[.val (.ref a1), .val (.int (1 : Int32)), .val (.ref av), .val (.int (3 : Int32)), .val (.int (2 : Int32)), .val (.int b1)] [(.int b2)]))
    refine own_go (XS.istore X31.here hx rfl (hb hby d3_23) rfl (l' := #[.val (.ref a1), .val (.int (1 : Int32)), .val (.ref av), .val (.int (3 : Int32)), .val (.int (2 : Int32)), .val (.int b2)]) rfl (Steps.refl _)) ?_
    show own_Fin _ _ _ _ (T31.setTop (mkF m 25 #[.val (.ref a1), .val (.int (1 : Int32)), .val (.ref av), .val (.int (3 : Int32)), .val (.int (2 : Int32)), .val (.int b2)] []))
    refine own_go (XS.iloadN X31.here hx rfl (hb hby d3_25) rfl (Steps.refl _)) ?_
    show own_Fin _ _ _ _ (T31.setTop (mkF m 26 #[.val (.ref a1), .val (.int (1 : Int32)), .val (.ref av), .val (.int (3 : Int32)), .val (.int (2 : Int32)), .val (.int b2)] [(.int (1 : Int32))]))
    refine own_go (XS.ifYes X31.here hx rfl (pc0 := 26) (pc' := 34) rfl (hb hby d3_26) rfl ((if0 _ _).trans (feq (by decide : ¬ ((1 : Int32) = (0 : Int32)))).2) (by decide) (by decide) (Steps.refl _)) ?_
    show own_Fin _ _ _ _ (T31.setTop (mkF m 34 #[.val (.ref a1), .val (.int (1 : Int32)), .val (.ref av), .val (.int (3 : Int32)), .val (.int (2 : Int32)), .val (.int b2)] []))
    refine own_go (XS.iconst X31.here hx rfl (hb hby d3_34) (Steps.refl _)) ?_
    show own_Fin _ _ _ _ (T31.setTop (mkF m 35 #[.val (.ref a1), .val (.int (1 : Int32)), .val (.ref av), .val (.int (3 : Int32)), .val (.int (2 : Int32)), .val (.int b2)] [(.int (1 : Int32))]))
    refine own_go (XS.goto X31.here hx rfl (pc0 := 35) (pc' := 39) rfl (hb hby d3_35) (by decide) (by decide) (Steps.refl _)) ?_
    show own_Fin _ _ _ _ (T31.setTop (mkF m 39 #[.val (.ref a1), .val (.int (1 : Int32)), .val (.ref av), .val (.int (3 : Int32)), .val (.int (2 : Int32)), .val (.int b2)] [(.int (1 : Int32))]))
    refine own_go (XS.istoreN X31.here hx rfl (hb hby d3_39) rfl (l' := #[.val (.ref a1), .val (.int (1 : Int32)), .val (.ref av), .val (.int (3 : Int32)), .val (.int (2 : Int32)), .val (.int b2)]) rfl (Steps.refl _)) ?_
    show own_Fin _ _ _ _ (T31.setTop (mkF m 40 #[.val (.ref a1), .val (.int (1 : Int32)), .val (.ref av), .val (.int (3 : Int32)), .val (.int (2 : Int32)), .val (.int b2)] []))
    refine own_go (XS.iinc X31.here hx rfl (hb hby d3_40) rfl (l' := #[.val (.ref a1), .val (.int (1 : Int32)), .val (.ref av), .val (.int (3 : Int32)), .val (.int (3 : Int32)), .val (.int b2)]) rfl (Steps.refl _)) ?_
    show own_Fin _ _ _ _ (T31.setTop (mkF m 43 #[.val (.ref a1), .val (.int (1 : Int32)), .val (.ref av), .val (.int (3 : Int32)), .val (.int (3 : Int32)), .val (.int b2)] []))
    refine own_go (XS.goto X31.here hx rfl (pc0 := 43) (pc' := 13) rfl (hb hby d3_43) (by decide) (by decide) (Steps.refl _)) ?_
    show own_Fin _ _ _ _ (T31.setTop (mkF m 13 #[.val (.ref a1), .val (.int (1 : Int32)), .val (.ref av), .val (.int (3 : Int32)), .val (.int (3 : Int32)), .val (.int b2)] []))
    refine own_go (XS.iload X31.here hx rfl (hb hby d3_13) rfl (Steps.refl _)) ?_
    show own_Fin _ _ _ _ (T31.setTop (mkF m 15 #[.val (.ref a1), .val (.int (1 : Int32)), .val (.ref av), .val (.int (3 : Int32)), .val (.int (3 : Int32)), .val (.int b2)] [(.int (3 : Int32))]))
    refine own_go (XS.iloadN X31.here hx rfl (hb hby d3_15) rfl (Steps.refl _)) ?_
    show own_Fin _ _ _ _ (T31.setTop (mkF m 16 #[.val (.ref a1), .val (.int (1 : Int32)), .val (.ref av), .val (.int (3 : Int32)), .val (.int (3 : Int32)), .val (.int b2)] [(.int (3 : Int32)), (.int (3 : Int32))]))
    refine own_go (XS.icmpYes X31.here hx rfl (pc0 := 16) (pc' := 46) rfl (hb hby d3_16) rfl (flt (by decide : ¬ ((3 : Int32) < (3 : Int32)))).2.1 (by decide) (by decide) (Steps.refl _)) ?_
    show own_Fin _ _ _ _ (T31.setTop (mkF m 46 #[.val (.ref a1), .val (.int (1 : Int32)), .val (.ref av), .val (.int (3 : Int32)), .val (.int (3 : Int32)), .val (.int b2)] []))
    refine own_go (XS.iloadN X31.here hx rfl (hb hby d3_46) rfl (Steps.refl _)) ?_
    show own_Fin _ _ _ _ (T31.setTop (mkF m 47 #[.val (.ref a1), .val (.int (1 : Int32)), .val (.ref av), .val (.int (3 : Int32)), .val (.int (3 : Int32)), .val (.int b2)] [(.int (1 : Int32))]))
    obtain ⟨fs37, hr37, hrun37, hended37, hW37, hsame37⟩ := X31.leave (v := some (.int (1 : Int32))) (fun h => by rw [Bd.returns] at h; cases h)
    refine own_done (retN X31 hx (t := .boolean) Bd.returns (by simp) (hb hby d3_47) hr37) hrun37 hended37 ⟨_, _, rfl, ?_, ⟨_, rfl⟩, hW37, hsame37.mono (by decide) (by decide)⟩
    show Q3_3 Z a1 av k b0 b1 b2 h0 n0 _ T31.heap _
    rw [e31]
    exact ⟨by simp [c31_34], N0, rfl⟩
  · refine own_go (XS.ifYes X31.here hx rfl (pc0 := 31) (pc' := 38) rfl (hb hby d3_31) rfl ((if0 _ _).trans (flt c31_34).2.1) (by decide) (by decide) (Steps.refl _)) ?_
    show own_Fin _ _ _ _ (T31.setTop (mkF m 38 #[.val (.ref a1), .val (.int (0 : Int32)), .val (.ref av), .val (.int (3 : Int32)), .val (.int (0 : Int32)), .val (.int b0)] []))
    refine own_go (XS.iconst X31.here hx rfl (hb hby d3_38) (Steps.refl _)) ?_
    show own_Fin _ _ _ _ (T31.setTop (mkF m 39 #[.val (.ref a1), .val (.int (0 : Int32)), .val (.ref av), .val (.int (3 : Int32)), .val (.int (0 : Int32)), .val (.int b0)] [(.int (0 : Int32))]))
    refine own_go (XS.istoreN X31.here hx rfl (hb hby d3_39) rfl (l' := #[.val (.ref a1), .val (.int (0 : Int32)), .val (.ref av), .val (.int (3 : Int32)), .val (.int (0 : Int32)), .val (.int b0)]) rfl (Steps.refl _)) ?_
    show own_Fin _ _ _ _ (T31.setTop (mkF m 40 #[.val (.ref a1), .val (.int (0 : Int32)), .val (.ref av), .val (.int (3 : Int32)), .val (.int (0 : Int32)), .val (.int b0)] []))
    refine own_go (XS.iinc X31.here hx rfl (hb hby d3_40) rfl (l' := #[.val (.ref a1), .val (.int (0 : Int32)), .val (.ref av), .val (.int (3 : Int32)), .val (.int (1 : Int32)), .val (.int b0)]) rfl (Steps.refl _)) ?_
    show own_Fin _ _ _ _ (T31.setTop (mkF m 43 #[.val (.ref a1), .val (.int (0 : Int32)), .val (.ref av), .val (.int (3 : Int32)), .val (.int (1 : Int32)), .val (.int b0)] []))
    refine own_go (XS.goto X31.here hx rfl (pc0 := 43) (pc' := 13) rfl (hb hby d3_43) (by decide) (by decide) (Steps.refl _)) ?_
    show own_Fin _ _ _ _ (T31.setTop (mkF m 13 #[.val (.ref a1), .val (.int (0 : Int32)), .val (.ref av), .val (.int (3 : Int32)), .val (.int (1 : Int32)), .val (.int b0)] []))
    refine own_go (XS.iload X31.here hx rfl (hb hby d3_13) rfl (Steps.refl _)) ?_
    show own_Fin _ _ _ _ (T31.setTop (mkF m 15 #[.val (.ref a1), .val (.int (0 : Int32)), .val (.ref av), .val (.int (3 : Int32)), .val (.int (1 : Int32)), .val (.int b0)] [(.int (1 : Int32))]))
    refine own_go (XS.iloadN X31.here hx rfl (hb hby d3_15) rfl (Steps.refl _)) ?_
    show own_Fin _ _ _ _ (T31.setTop (mkF m 16 #[.val (.ref a1), .val (.int (0 : Int32)), .val (.ref av), .val (.int (3 : Int32)), .val (.int (1 : Int32)), .val (.int b0)] [(.int (3 : Int32)), (.int (1 : Int32))]))
    refine own_go (XS.icmpNo X31.here hx rfl (hb hby d3_16) rfl (tlt (by decide : (1 : Int32) < (3 : Int32))).2.1 (Steps.refl _)) ?_
    show own_Fin _ _ _ _ (T31.setTop (mkF m 19 #[.val (.ref a1), .val (.int (0 : Int32)), .val (.ref av), .val (.int (3 : Int32)), .val (.int (1 : Int32)), .val (.int b0)] []))
    refine own_go (XS.aloadN X31.here hx rfl (hb hby d3_19) rfl rfl (Steps.refl _)) ?_
    show own_Fin _ _ _ _ (T31.setTop (mkF m 20 #[.val (.ref a1), .val (.int (0 : Int32)), .val (.ref av), .val (.int (3 : Int32)), .val (.int (1 : Int32)), .val (.int b0)] [(.ref av)]))
    refine own_go (XS.iload X31.here hx rfl (hb hby d3_20) rfl (Steps.refl _)) ?_
    show own_Fin _ _ _ _ (T31.setTop (mkF m 22 #[.val (.ref a1), .val (.int (0 : Int32)), .val (.ref av), .val (.int (3 : Int32)), .val (.int (1 : Int32)), .val (.int b0)] [(.int (1 : Int32)), (.ref av)]))
    obtain ⟨cl38, Ar38, qa38, Sa38, Na38, Ha38, Ga38⟩ := id V_av
    have hin38 : ¬ ((1 : Int32) < 0 ∨ cl38.slots.size ≤ ((1 : Int32)).toNatClampNeg) := inb_of Sa38 ⟨by decide, by decide⟩
    have hat38 : cl38.slots[((1 : Int32)).toNatClampNeg]? = some (.int b1) := Has.at Ha38 hin38 rfl
    refine own_by (X31.iaload hx (j := (1 : Int32)) (v := (.int b1)) (by rw [e31]; exact Ar38.1) (State.isArrayOf_alike hZ.alike Ar38.2.1) Ar38.2.2 hin38 hat38 (g := (mkF m 22 #[.val (.ref a1), .val (.int (0 : Int32)), .val (.ref av), .val (.int (3 : Int32)), .val (.int (1 : Int32)), .val (.int b0)] [(.int (1 : Int32)), (.ref av)])) rfl rfl (hb hby d3_22)) ?_
    show own_Fin _ _ _ _ (T31.setTop (mkF m 23 #[.val (.ref a1), .val (.int (0 : Int32)), .val (.ref av), .val (.int (3 : Int32)), .val (.int (1 : Int32)), .val (.int b0)] [(.int b1)]))
    refine own_go (XS.istore X31.here hx rfl (hb hby d3_23) rfl (l' := #[.val (.ref a1), .val (.int (0 : Int32)), .val (.ref av), .val (.int (3 : Int32)), .val (.int (1 : Int32)), .val (.int b1)]) rfl (Steps.refl _)) ?_
    show own_Fin _ _ _ _ (T31.setTop (mkF m 25 #[.val (.ref a1), .val (.int (0 : Int32)), .val (.ref av), .val (.int (3 : Int32)), .val (.int (1 : Int32)), .val (.int b1)] []))
    refine own_go (XS.iloadN X31.here hx rfl (hb hby d3_25) rfl (Steps.refl _)) ?_
    show own_Fin _ _ _ _ (T31.setTop (mkF m 26 #[.val (.ref a1), .val (.int (0 : Int32)), .val (.ref av), .val (.int (3 : Int32)), .val (.int (1 : Int32)), .val (.int b1)] [(.int (0 : Int32))]))
    refine own_go (XS.ifNo X31.here hx rfl (hb hby d3_26) rfl ((if0 _ _).trans (teq (by decide : (0 : Int32) = (0 : Int32))).2) (Steps.refl _)) ?_
    show own_Fin _ _ _ _ (T31.setTop (mkF m 29 #[.val (.ref a1), .val (.int (0 : Int32)), .val (.ref av), .val (.int (3 : Int32)), .val (.int (1 : Int32)), .val (.int b1)] []))
    refine own_go (XS.iload X31.here hx rfl (hb hby d3_29) rfl (Steps.refl _)) ?_
    show own_Fin _ _ _ _ (T31.setTop (mkF m 31 #[.val (.ref a1), .val (.int (0 : Int32)), .val (.ref av), .val (.int (3 : Int32)), .val (.int (1 : Int32)), .val (.int b1)] [(.int b1)]))
    by_cases c31_39 : b1 < (0 : Int32)
    · refine own_go (XS.ifNo X31.here hx rfl (hb hby d3_31) rfl ((if0 _ _).trans (tlt c31_39).2.1) (Steps.refl _)) ?_
      show own_Fin _ _ _ _ (T31.setTop (mkF m 34 #[.val (.ref a1), .val (.int (0 : Int32)), .val (.ref av), .val (.int (3 : Int32)), .val (.int (1 : Int32)), .val (.int b1)] []))
      refine own_go (XS.iconst X31.here hx rfl (hb hby d3_34) (Steps.refl _)) ?_
      show own_Fin _ _ _ _ (T31.setTop (mkF m 35 #[.val (.ref a1), .val (.int (0 : Int32)), .val (.ref av), .val (.int (3 : Int32)), .val (.int (1 : Int32)), .val (.int b1)] [(.int (1 : Int32))]))
      refine own_go (XS.goto X31.here hx rfl (pc0 := 35) (pc' := 39) rfl (hb hby d3_35) (by decide) (by decide) (Steps.refl _)) ?_
      show own_Fin _ _ _ _ (T31.setTop (mkF m 39 #[.val (.ref a1), .val (.int (0 : Int32)), .val (.ref av), .val (.int (3 : Int32)), .val (.int (1 : Int32)), .val (.int b1)] [(.int (1 : Int32))]))
      refine own_go (XS.istoreN X31.here hx rfl (hb hby d3_39) rfl (l' := #[.val (.ref a1), .val (.int (1 : Int32)), .val (.ref av), .val (.int (3 : Int32)), .val (.int (1 : Int32)), .val (.int b1)]) rfl (Steps.refl _)) ?_
      show own_Fin _ _ _ _ (T31.setTop (mkF m 40 #[.val (.ref a1), .val (.int (1 : Int32)), .val (.ref av), .val (.int (3 : Int32)), .val (.int (1 : Int32)), .val (.int b1)] []))
      refine own_go (XS.iinc X31.here hx rfl (hb hby d3_40) rfl (l' := #[.val (.ref a1), .val (.int (1 : Int32)), .val (.ref av), .val (.int (3 : Int32)), .val (.int (2 : Int32)), .val (.int b1)]) rfl (Steps.refl _)) ?_
      show own_Fin _ _ _ _ (T31.setTop (mkF m 43 #[.val (.ref a1), .val (.int (1 : Int32)), .val (.ref av), .val (.int (3 : Int32)), .val (.int (2 : Int32)), .val (.int b1)] []))
      refine own_go (XS.goto X31.here hx rfl (pc0 := 43) (pc' := 13) rfl (hb hby d3_43) (by decide) (by decide) (Steps.refl _)) ?_
      show own_Fin _ _ _ _ (T31.setTop (mkF m 13 #[.val (.ref a1), .val (.int (1 : Int32)), .val (.ref av), .val (.int (3 : Int32)), .val (.int (2 : Int32)), .val (.int b1)] []))
      refine own_go (XS.iload X31.here hx rfl (hb hby d3_13) rfl (Steps.refl _)) ?_
      show own_Fin _ _ _ _ (T31.setTop (mkF m 15 #[.val (.ref a1), .val (.int (1 : Int32)), .val (.ref av), .val (.int (3 : Int32)), .val (.int (2 : Int32)), .val (.int b1)] [(.int (2 : Int32))]))
      refine own_go (XS.iloadN X31.here hx rfl (hb hby d3_15) rfl (Steps.refl _)) ?_
      show own_Fin _ _ _ _ (T31.setTop (mkF m 16 #[.val (.ref a1), .val (.int (1 : Int32)), .val (.ref av), .val (.int (3 : Int32)), .val (.int (2 : Int32)), .val (.int b1)] [(.int (3 : Int32)), (.int (2 : Int32))]))
      refine own_go (XS.icmpNo X31.here hx rfl (hb hby d3_16) rfl (tlt (by decide : (2 : Int32) < (3 : Int32))).2.1 (Steps.refl _)) ?_
      show own_Fin _ _ _ _ (T31.setTop (mkF m 19 #[.val (.ref a1), .val (.int (1 : Int32)), .val (.ref av), .val (.int (3 : Int32)), .val (.int (2 : Int32)), .val (.int b1)] []))
      refine own_go (XS.aloadN X31.here hx rfl (hb hby d3_19) rfl rfl (Steps.refl _)) ?_
      show own_Fin _ _ _ _ (T31.setTop (mkF m 20 #[.val (.ref a1), .val (.int (1 : Int32)), .val (.ref av), .val (.int (3 : Int32)), .val (.int (2 : Int32)), .val (.int b1)] [(.ref av)]))
      refine own_go (XS.iload X31.here hx rfl (hb hby d3_20) rfl (Steps.refl _)) ?_
      show own_Fin _ _ _ _ (T31.setTop (mkF m 22 #[.val (.ref a1), .val (.int (1 : Int32)), .val (.ref av), .val (.int (3 : Int32)), .val (.int (2 : Int32)), .val (.int b1)] [(.int (2 : Int32)), (.ref av)]))
      obtain ⟨cl40, Ar40, qa40, Sa40, Na40, Ha40, Ga40⟩ := id V_av
      have hin40 : ¬ ((2 : Int32) < 0 ∨ cl40.slots.size ≤ ((2 : Int32)).toNatClampNeg) := inb_of Sa40 ⟨by decide, by decide⟩
      have hat40 : cl40.slots[((2 : Int32)).toNatClampNeg]? = some (.int b2) := Has.at Ha40 hin40 rfl
      refine own_by (X31.iaload hx (j := (2 : Int32)) (v := (.int b2)) (by rw [e31]; exact Ar40.1) (State.isArrayOf_alike hZ.alike Ar40.2.1) Ar40.2.2 hin40 hat40 (g := (mkF m 22 #[.val (.ref a1), .val (.int (1 : Int32)), .val (.ref av), .val (.int (3 : Int32)), .val (.int (2 : Int32)), .val (.int b1)] [(.int (2 : Int32)), (.ref av)])) rfl rfl (hb hby d3_22)) ?_
      show own_Fin _ _ _ _ (T31.setTop (mkF m 23 #[.val (.ref a1), .val (.int (1 : Int32)), .val (.ref av), .val (.int (3 : Int32)), .val (.int (2 : Int32)), .val (.int b1)] [(.int b2)]))
      refine own_go (XS.istore X31.here hx rfl (hb hby d3_23) rfl (l' := #[.val (.ref a1), .val (.int (1 : Int32)), .val (.ref av), .val (.int (3 : Int32)), .val (.int (2 : Int32)), .val (.int b2)]) rfl (Steps.refl _)) ?_
      show own_Fin _ _ _ _ (T31.setTop (mkF m 25 #[.val (.ref a1), .val (.int (1 : Int32)), .val (.ref av), .val (.int (3 : Int32)), .val (.int (2 : Int32)), .val (.int b2)] []))
      refine own_go (XS.iloadN X31.here hx rfl (hb hby d3_25) rfl (Steps.refl _)) ?_
      show own_Fin _ _ _ _ (T31.setTop (mkF m 26 #[.val (.ref a1), .val (.int (1 : Int32)), .val (.ref av), .val (.int (3 : Int32)), .val (.int (2 : Int32)), .val (.int b2)] [(.int (1 : Int32))]))
      refine own_go (XS.ifYes X31.here hx rfl (pc0 := 26) (pc' := 34) rfl (hb hby d3_26) rfl ((if0 _ _).trans (feq (by decide : ¬ ((1 : Int32) = (0 : Int32)))).2) (by decide) (by decide) (Steps.refl _)) ?_
      show own_Fin _ _ _ _ (T31.setTop (mkF m 34 #[.val (.ref a1), .val (.int (1 : Int32)), .val (.ref av), .val (.int (3 : Int32)), .val (.int (2 : Int32)), .val (.int b2)] []))
      refine own_go (XS.iconst X31.here hx rfl (hb hby d3_34) (Steps.refl _)) ?_
      show own_Fin _ _ _ _ (T31.setTop (mkF m 35 #[.val (.ref a1), .val (.int (1 : Int32)), .val (.ref av), .val (.int (3 : Int32)), .val (.int (2 : Int32)), .val (.int b2)] [(.int (1 : Int32))]))
      refine own_go (XS.goto X31.here hx rfl (pc0 := 35) (pc' := 39) rfl (hb hby d3_35) (by decide) (by decide) (Steps.refl _)) ?_
      show own_Fin _ _ _ _ (T31.setTop (mkF m 39 #[.val (.ref a1), .val (.int (1 : Int32)), .val (.ref av), .val (.int (3 : Int32)), .val (.int (2 : Int32)), .val (.int b2)] [(.int (1 : Int32))]))
      refine own_go (XS.istoreN X31.here hx rfl (hb hby d3_39) rfl (l' := #[.val (.ref a1), .val (.int (1 : Int32)), .val (.ref av), .val (.int (3 : Int32)), .val (.int (2 : Int32)), .val (.int b2)]) rfl (Steps.refl _)) ?_
      show own_Fin _ _ _ _ (T31.setTop (mkF m 40 #[.val (.ref a1), .val (.int (1 : Int32)), .val (.ref av), .val (.int (3 : Int32)), .val (.int (2 : Int32)), .val (.int b2)] []))
      refine own_go (XS.iinc X31.here hx rfl (hb hby d3_40) rfl (l' := #[.val (.ref a1), .val (.int (1 : Int32)), .val (.ref av), .val (.int (3 : Int32)), .val (.int (3 : Int32)), .val (.int b2)]) rfl (Steps.refl _)) ?_
      show own_Fin _ _ _ _ (T31.setTop (mkF m 43 #[.val (.ref a1), .val (.int (1 : Int32)), .val (.ref av), .val (.int (3 : Int32)), .val (.int (3 : Int32)), .val (.int b2)] []))
      refine own_go (XS.goto X31.here hx rfl (pc0 := 43) (pc' := 13) rfl (hb hby d3_43) (by decide) (by decide) (Steps.refl _)) ?_
      show own_Fin _ _ _ _ (T31.setTop (mkF m 13 #[.val (.ref a1), .val (.int (1 : Int32)), .val (.ref av), .val (.int (3 : Int32)), .val (.int (3 : Int32)), .val (.int b2)] []))
      refine own_go (XS.iload X31.here hx rfl (hb hby d3_13) rfl (Steps.refl _)) ?_
      show own_Fin _ _ _ _ (T31.setTop (mkF m 15 #[.val (.ref a1), .val (.int (1 : Int32)), .val (.ref av), .val (.int (3 : Int32)), .val (.int (3 : Int32)), .val (.int b2)] [(.int (3 : Int32))]))
      refine own_go (XS.iloadN X31.here hx rfl (hb hby d3_15) rfl (Steps.refl _)) ?_
      show own_Fin _ _ _ _ (T31.setTop (mkF m 16 #[.val (.ref a1), .val (.int (1 : Int32)), .val (.ref av), .val (.int (3 : Int32)), .val (.int (3 : Int32)), .val (.int b2)] [(.int (3 : Int32)), (.int (3 : Int32))]))
      refine own_go (XS.icmpYes X31.here hx rfl (pc0 := 16) (pc' := 46) rfl (hb hby d3_16) rfl (flt (by decide : ¬ ((3 : Int32) < (3 : Int32)))).2.1 (by decide) (by decide) (Steps.refl _)) ?_
      show own_Fin _ _ _ _ (T31.setTop (mkF m 46 #[.val (.ref a1), .val (.int (1 : Int32)), .val (.ref av), .val (.int (3 : Int32)), .val (.int (3 : Int32)), .val (.int b2)] []))
      refine own_go (XS.iloadN X31.here hx rfl (hb hby d3_46) rfl (Steps.refl _)) ?_
      show own_Fin _ _ _ _ (T31.setTop (mkF m 47 #[.val (.ref a1), .val (.int (1 : Int32)), .val (.ref av), .val (.int (3 : Int32)), .val (.int (3 : Int32)), .val (.int b2)] [(.int (1 : Int32))]))
      obtain ⟨fs41, hr41, hrun41, hended41, hW41, hsame41⟩ := X31.leave (v := some (.int (1 : Int32))) (fun h => by rw [Bd.returns] at h; cases h)
      refine own_done (retN X31 hx (t := .boolean) Bd.returns (by simp) (hb hby d3_47) hr41) hrun41 hended41 ⟨_, _, rfl, ?_, ⟨_, rfl⟩, hW41, hsame41.mono (by decide) (by decide)⟩
      show Q3_3 Z a1 av k b0 b1 b2 h0 n0 _ T31.heap _
      rw [e31]
      exact ⟨by simp [c31_34, c31_39], N0, rfl⟩
    · refine own_go (XS.ifYes X31.here hx rfl (pc0 := 31) (pc' := 38) rfl (hb hby d3_31) rfl ((if0 _ _).trans (flt c31_39).2.1) (by decide) (by decide) (Steps.refl _)) ?_
      show own_Fin _ _ _ _ (T31.setTop (mkF m 38 #[.val (.ref a1), .val (.int (0 : Int32)), .val (.ref av), .val (.int (3 : Int32)), .val (.int (1 : Int32)), .val (.int b1)] []))
      refine own_go (XS.iconst X31.here hx rfl (hb hby d3_38) (Steps.refl _)) ?_
      show own_Fin _ _ _ _ (T31.setTop (mkF m 39 #[.val (.ref a1), .val (.int (0 : Int32)), .val (.ref av), .val (.int (3 : Int32)), .val (.int (1 : Int32)), .val (.int b1)] [(.int (0 : Int32))]))
      refine own_go (XS.istoreN X31.here hx rfl (hb hby d3_39) rfl (l' := #[.val (.ref a1), .val (.int (0 : Int32)), .val (.ref av), .val (.int (3 : Int32)), .val (.int (1 : Int32)), .val (.int b1)]) rfl (Steps.refl _)) ?_
      show own_Fin _ _ _ _ (T31.setTop (mkF m 40 #[.val (.ref a1), .val (.int (0 : Int32)), .val (.ref av), .val (.int (3 : Int32)), .val (.int (1 : Int32)), .val (.int b1)] []))
      refine own_go (XS.iinc X31.here hx rfl (hb hby d3_40) rfl (l' := #[.val (.ref a1), .val (.int (0 : Int32)), .val (.ref av), .val (.int (3 : Int32)), .val (.int (2 : Int32)), .val (.int b1)]) rfl (Steps.refl _)) ?_
      show own_Fin _ _ _ _ (T31.setTop (mkF m 43 #[.val (.ref a1), .val (.int (0 : Int32)), .val (.ref av), .val (.int (3 : Int32)), .val (.int (2 : Int32)), .val (.int b1)] []))
      refine own_go (XS.goto X31.here hx rfl (pc0 := 43) (pc' := 13) rfl (hb hby d3_43) (by decide) (by decide) (Steps.refl _)) ?_
      show own_Fin _ _ _ _ (T31.setTop (mkF m 13 #[.val (.ref a1), .val (.int (0 : Int32)), .val (.ref av), .val (.int (3 : Int32)), .val (.int (2 : Int32)), .val (.int b1)] []))
      refine own_go (XS.iload X31.here hx rfl (hb hby d3_13) rfl (Steps.refl _)) ?_
      show own_Fin _ _ _ _ (T31.setTop (mkF m 15 #[.val (.ref a1), .val (.int (0 : Int32)), .val (.ref av), .val (.int (3 : Int32)), .val (.int (2 : Int32)), .val (.int b1)] [(.int (2 : Int32))]))
      refine own_go (XS.iloadN X31.here hx rfl (hb hby d3_15) rfl (Steps.refl _)) ?_
      show own_Fin _ _ _ _ (T31.setTop (mkF m 16 #[.val (.ref a1), .val (.int (0 : Int32)), .val (.ref av), .val (.int (3 : Int32)), .val (.int (2 : Int32)), .val (.int b1)] [(.int (3 : Int32)), (.int (2 : Int32))]))
      refine own_go (XS.icmpNo X31.here hx rfl (hb hby d3_16) rfl (tlt (by decide : (2 : Int32) < (3 : Int32))).2.1 (Steps.refl _)) ?_
      show own_Fin _ _ _ _ (T31.setTop (mkF m 19 #[.val (.ref a1), .val (.int (0 : Int32)), .val (.ref av), .val (.int (3 : Int32)), .val (.int (2 : Int32)), .val (.int b1)] []))
      refine own_go (XS.aloadN X31.here hx rfl (hb hby d3_19) rfl rfl (Steps.refl _)) ?_
      show own_Fin _ _ _ _ (T31.setTop (mkF m 20 #[.val (.ref a1), .val (.int (0 : Int32)), .val (.ref av), .val (.int (3 : Int32)), .val (.int (2 : Int32)), .val (.int b1)] [(.ref av)]))
      refine own_go (XS.iload X31.here hx rfl (hb hby d3_20) rfl (Steps.refl _)) ?_
      show own_Fin _ _ _ _ (T31.setTop (mkF m 22 #[.val (.ref a1), .val (.int (0 : Int32)), .val (.ref av), .val (.int (3 : Int32)), .val (.int (2 : Int32)), .val (.int b1)] [(.int (2 : Int32)), (.ref av)]))
      obtain ⟨cl42, Ar42, qa42, Sa42, Na42, Ha42, Ga42⟩ := id V_av
      have hin42 : ¬ ((2 : Int32) < 0 ∨ cl42.slots.size ≤ ((2 : Int32)).toNatClampNeg) := inb_of Sa42 ⟨by decide, by decide⟩
      have hat42 : cl42.slots[((2 : Int32)).toNatClampNeg]? = some (.int b2) := Has.at Ha42 hin42 rfl
      refine own_by (X31.iaload hx (j := (2 : Int32)) (v := (.int b2)) (by rw [e31]; exact Ar42.1) (State.isArrayOf_alike hZ.alike Ar42.2.1) Ar42.2.2 hin42 hat42 (g := (mkF m 22 #[.val (.ref a1), .val (.int (0 : Int32)), .val (.ref av), .val (.int (3 : Int32)), .val (.int (2 : Int32)), .val (.int b1)] [(.int (2 : Int32)), (.ref av)])) rfl rfl (hb hby d3_22)) ?_
      show own_Fin _ _ _ _ (T31.setTop (mkF m 23 #[.val (.ref a1), .val (.int (0 : Int32)), .val (.ref av), .val (.int (3 : Int32)), .val (.int (2 : Int32)), .val (.int b1)] [(.int b2)]))
      refine own_go (XS.istore X31.here hx rfl (hb hby d3_23) rfl (l' := #[.val (.ref a1), .val (.int (0 : Int32)), .val (.ref av), .val (.int (3 : Int32)), .val (.int (2 : Int32)), .val (.int b2)]) rfl (Steps.refl _)) ?_
      show own_Fin _ _ _ _ (T31.setTop (mkF m 25 #[.val (.ref a1), .val (.int (0 : Int32)), .val (.ref av), .val (.int (3 : Int32)), .val (.int (2 : Int32)), .val (.int b2)] []))
      refine own_go (XS.iloadN X31.here hx rfl (hb hby d3_25) rfl (Steps.refl _)) ?_
      show own_Fin _ _ _ _ (T31.setTop (mkF m 26 #[.val (.ref a1), .val (.int (0 : Int32)), .val (.ref av), .val (.int (3 : Int32)), .val (.int (2 : Int32)), .val (.int b2)] [(.int (0 : Int32))]))
      refine own_go (XS.ifNo X31.here hx rfl (hb hby d3_26) rfl ((if0 _ _).trans (teq (by decide : (0 : Int32) = (0 : Int32))).2) (Steps.refl _)) ?_
      show own_Fin _ _ _ _ (T31.setTop (mkF m 29 #[.val (.ref a1), .val (.int (0 : Int32)), .val (.ref av), .val (.int (3 : Int32)), .val (.int (2 : Int32)), .val (.int b2)] []))
      refine own_go (XS.iload X31.here hx rfl (hb hby d3_29) rfl (Steps.refl _)) ?_
      show own_Fin _ _ _ _ (T31.setTop (mkF m 31 #[.val (.ref a1), .val (.int (0 : Int32)), .val (.ref av), .val (.int (3 : Int32)), .val (.int (2 : Int32)), .val (.int b2)] [(.int b2)]))
      by_cases c31_43 : b2 < (0 : Int32)
      · refine own_go (XS.ifNo X31.here hx rfl (hb hby d3_31) rfl ((if0 _ _).trans (tlt c31_43).2.1) (Steps.refl _)) ?_
        show own_Fin _ _ _ _ (T31.setTop (mkF m 34 #[.val (.ref a1), .val (.int (0 : Int32)), .val (.ref av), .val (.int (3 : Int32)), .val (.int (2 : Int32)), .val (.int b2)] []))
        refine own_go (XS.iconst X31.here hx rfl (hb hby d3_34) (Steps.refl _)) ?_
        show own_Fin _ _ _ _ (T31.setTop (mkF m 35 #[.val (.ref a1), .val (.int (0 : Int32)), .val (.ref av), .val (.int (3 : Int32)), .val (.int (2 : Int32)), .val (.int b2)] [(.int (1 : Int32))]))
        refine own_go (XS.goto X31.here hx rfl (pc0 := 35) (pc' := 39) rfl (hb hby d3_35) (by decide) (by decide) (Steps.refl _)) ?_
        show own_Fin _ _ _ _ (T31.setTop (mkF m 39 #[.val (.ref a1), .val (.int (0 : Int32)), .val (.ref av), .val (.int (3 : Int32)), .val (.int (2 : Int32)), .val (.int b2)] [(.int (1 : Int32))]))
        refine own_go (XS.istoreN X31.here hx rfl (hb hby d3_39) rfl (l' := #[.val (.ref a1), .val (.int (1 : Int32)), .val (.ref av), .val (.int (3 : Int32)), .val (.int (2 : Int32)), .val (.int b2)]) rfl (Steps.refl _)) ?_
        show own_Fin _ _ _ _ (T31.setTop (mkF m 40 #[.val (.ref a1), .val (.int (1 : Int32)), .val (.ref av), .val (.int (3 : Int32)), .val (.int (2 : Int32)), .val (.int b2)] []))
        refine own_go (XS.iinc X31.here hx rfl (hb hby d3_40) rfl (l' := #[.val (.ref a1), .val (.int (1 : Int32)), .val (.ref av), .val (.int (3 : Int32)), .val (.int (3 : Int32)), .val (.int b2)]) rfl (Steps.refl _)) ?_
        show own_Fin _ _ _ _ (T31.setTop (mkF m 43 #[.val (.ref a1), .val (.int (1 : Int32)), .val (.ref av), .val (.int (3 : Int32)), .val (.int (3 : Int32)), .val (.int b2)] []))
        refine own_go (XS.goto X31.here hx rfl (pc0 := 43) (pc' := 13) rfl (hb hby d3_43) (by decide) (by decide) (Steps.refl _)) ?_
        show own_Fin _ _ _ _ (T31.setTop (mkF m 13 #[.val (.ref a1), .val (.int (1 : Int32)), .val (.ref av), .val (.int (3 : Int32)), .val (.int (3 : Int32)), .val (.int b2)] []))
        refine own_go (XS.iload X31.here hx rfl (hb hby d3_13) rfl (Steps.refl _)) ?_
        show own_Fin _ _ _ _ (T31.setTop (mkF m 15 #[.val (.ref a1), .val (.int (1 : Int32)), .val (.ref av), .val (.int (3 : Int32)), .val (.int (3 : Int32)), .val (.int b2)] [(.int (3 : Int32))]))
        refine own_go (XS.iloadN X31.here hx rfl (hb hby d3_15) rfl (Steps.refl _)) ?_
        show own_Fin _ _ _ _ (T31.setTop (mkF m 16 #[.val (.ref a1), .val (.int (1 : Int32)), .val (.ref av), .val (.int (3 : Int32)), .val (.int (3 : Int32)), .val (.int b2)] [(.int (3 : Int32)), (.int (3 : Int32))]))
        refine own_go (XS.icmpYes X31.here hx rfl (pc0 := 16) (pc' := 46) rfl (hb hby d3_16) rfl (flt (by decide : ¬ ((3 : Int32) < (3 : Int32)))).2.1 (by decide) (by decide) (Steps.refl _)) ?_
        show own_Fin _ _ _ _ (T31.setTop (mkF m 46 #[.val (.ref a1), .val (.int (1 : Int32)), .val (.ref av), .val (.int (3 : Int32)), .val (.int (3 : Int32)), .val (.int b2)] []))
        refine own_go (XS.iloadN X31.here hx rfl (hb hby d3_46) rfl (Steps.refl _)) ?_
        show own_Fin _ _ _ _ (T31.setTop (mkF m 47 #[.val (.ref a1), .val (.int (1 : Int32)), .val (.ref av), .val (.int (3 : Int32)), .val (.int (3 : Int32)), .val (.int b2)] [(.int (1 : Int32))]))
        obtain ⟨fs44, hr44, hrun44, hended44, hW44, hsame44⟩ := X31.leave (v := some (.int (1 : Int32))) (fun h => by rw [Bd.returns] at h; cases h)
        refine own_done (retN X31 hx (t := .boolean) Bd.returns (by simp) (hb hby d3_47) hr44) hrun44 hended44 ⟨_, _, rfl, ?_, ⟨_, rfl⟩, hW44, hsame44.mono (by decide) (by decide)⟩
        show Q3_3 Z a1 av k b0 b1 b2 h0 n0 _ T31.heap _
        rw [e31]
        exact ⟨by simp [c31_34, c31_39, c31_43], N0, rfl⟩
      · refine own_go (XS.ifYes X31.here hx rfl (pc0 := 31) (pc' := 38) rfl (hb hby d3_31) rfl ((if0 _ _).trans (flt c31_43).2.1) (by decide) (by decide) (Steps.refl _)) ?_
        show own_Fin _ _ _ _ (T31.setTop (mkF m 38 #[.val (.ref a1), .val (.int (0 : Int32)), .val (.ref av), .val (.int (3 : Int32)), .val (.int (2 : Int32)), .val (.int b2)] []))
        refine own_go (XS.iconst X31.here hx rfl (hb hby d3_38) (Steps.refl _)) ?_
        show own_Fin _ _ _ _ (T31.setTop (mkF m 39 #[.val (.ref a1), .val (.int (0 : Int32)), .val (.ref av), .val (.int (3 : Int32)), .val (.int (2 : Int32)), .val (.int b2)] [(.int (0 : Int32))]))
        refine own_go (XS.istoreN X31.here hx rfl (hb hby d3_39) rfl (l' := #[.val (.ref a1), .val (.int (0 : Int32)), .val (.ref av), .val (.int (3 : Int32)), .val (.int (2 : Int32)), .val (.int b2)]) rfl (Steps.refl _)) ?_
        show own_Fin _ _ _ _ (T31.setTop (mkF m 40 #[.val (.ref a1), .val (.int (0 : Int32)), .val (.ref av), .val (.int (3 : Int32)), .val (.int (2 : Int32)), .val (.int b2)] []))
        refine own_go (XS.iinc X31.here hx rfl (hb hby d3_40) rfl (l' := #[.val (.ref a1), .val (.int (0 : Int32)), .val (.ref av), .val (.int (3 : Int32)), .val (.int (3 : Int32)), .val (.int b2)]) rfl (Steps.refl _)) ?_
        show own_Fin _ _ _ _ (T31.setTop (mkF m 43 #[.val (.ref a1), .val (.int (0 : Int32)), .val (.ref av), .val (.int (3 : Int32)), .val (.int (3 : Int32)), .val (.int b2)] []))
        refine own_go (XS.goto X31.here hx rfl (pc0 := 43) (pc' := 13) rfl (hb hby d3_43) (by decide) (by decide) (Steps.refl _)) ?_
        show own_Fin _ _ _ _ (T31.setTop (mkF m 13 #[.val (.ref a1), .val (.int (0 : Int32)), .val (.ref av), .val (.int (3 : Int32)), .val (.int (3 : Int32)), .val (.int b2)] []))
        refine own_go (XS.iload X31.here hx rfl (hb hby d3_13) rfl (Steps.refl _)) ?_
        show own_Fin _ _ _ _ (T31.setTop (mkF m 15 #[.val (.ref a1), .val (.int (0 : Int32)), .val (.ref av), .val (.int (3 : Int32)), .val (.int (3 : Int32)), .val (.int b2)] [(.int (3 : Int32))]))
        refine own_go (XS.iloadN X31.here hx rfl (hb hby d3_15) rfl (Steps.refl _)) ?_
        show own_Fin _ _ _ _ (T31.setTop (mkF m 16 #[.val (.ref a1), .val (.int (0 : Int32)), .val (.ref av), .val (.int (3 : Int32)), .val (.int (3 : Int32)), .val (.int b2)] [(.int (3 : Int32)), (.int (3 : Int32))]))
        refine own_go (XS.icmpYes X31.here hx rfl (pc0 := 16) (pc' := 46) rfl (hb hby d3_16) rfl (flt (by decide : ¬ ((3 : Int32) < (3 : Int32)))).2.1 (by decide) (by decide) (Steps.refl _)) ?_
        show own_Fin _ _ _ _ (T31.setTop (mkF m 46 #[.val (.ref a1), .val (.int (0 : Int32)), .val (.ref av), .val (.int (3 : Int32)), .val (.int (3 : Int32)), .val (.int b2)] []))
        refine own_go (XS.iloadN X31.here hx rfl (hb hby d3_46) rfl (Steps.refl _)) ?_
        show own_Fin _ _ _ _ (T31.setTop (mkF m 47 #[.val (.ref a1), .val (.int (0 : Int32)), .val (.ref av), .val (.int (3 : Int32)), .val (.int (3 : Int32)), .val (.int b2)] [(.int (0 : Int32))]))
        obtain ⟨fs45, hr45, hrun45, hended45, hW45, hsame45⟩ := X31.leave (v := some (.int (0 : Int32))) (fun h => by rw [Bd.returns] at h; cases h)
        refine own_done (retN X31 hx (t := .boolean) Bd.returns (by simp) (hb hby d3_47) hr45) hrun45 hended45 ⟨_, _, rfl, ?_, ⟨_, rfl⟩, hW45, hsame45.mono (by decide) (by decide)⟩
        show Q3_3 Z a1 av k b0 b1 b2 h0 n0 _ T31.heap _
        rw [e31]
        exact ⟨by simp [c31_34, c31_39, c31_43], N0, rfl⟩
theorem ef_3_4 (m : MethodId) (x0 : Addr) : entryFrame m #[(.ref x0)] 6 = mkF m 0 #[.val (.ref x0), .unset, .unset, .unset, .unset, .unset] [] := by first | (simp [entryFrame, mkF, argsToLocals, Value.category]; done) | rfl
def Q3_4 (Z : State) (a1 : Addr) (av : Addr) (k : ClassId) (b0 : Int32) (b1 : Int32) (b2 : Int32) (b3 : Int32) (h0 : Heap) (n0 : Nat) (v : Option Value) (h : Heap) (L : List Loc) : Prop := v = some (.int (if (decide (b0 < (0 : Int32)) || decide (b1 < (0 : Int32)) || decide (b2 < (0 : Int32)) || decide (b3 < (0 : Int32))) then (1 : Int32) else 0)) ∧ Fr n0 L ∧ h = h0
abbrev G3_4 (Z : State) (a1 : Addr) (av : Addr) (k : ClassId) (b0 : Int32) (b1 : Int32) (b2 : Int32) (b3 : Int32) (h0 : Heap) (n0 : Nat) (s : State) : Outcome → State → Prop := fun o U' => ∃ v L, o = .returned v ∧ Q3_4 Z a1 av k b0 b1 b2 b3 h0 n0 v U'.heap L ∧ FrameEnd s o U' L ({ frames := 0, cells := 0, slots := 0, locals := 0 } : Room).cells ({ frames := 0, cells := 0, slots := 0, locals := 0 } : Room).slots
set_option maxRecDepth 65536 in
set_option maxHeartbeats 40000000 in
theorem rm3_4 (l : Launch) (Z : State) (a0 : Array Value) (hw : ∀ d ∈ tables_1, d.before a0 Z = true) (ws : List Jvm.Cond) (a1 : Addr) (av : Addr) (k : ClassId) (b0 : Int32) (b1 : Int32) (b2 : Int32) (b3 : Int32) (h0 : Heap) (n0 : Nat) (Z0 : n0 ≤ h0.size) (F_variables_a1 : Fld Z h0 a1 "com/example/nosto/nosto/Arguments" "variables" "[I" (.ref av)) (V_av : Arv Z h0 av k .int (4 : Int32) [.int b0, .int b1, .int b2, .int b3] (.int (0 : Int32))) :
    MetFree l (⟨"com/example/nosto/nosto/Arguments", "namesConstant", "()Z"⟩ : MethodName) (head1 (Jvm.Cond.code (⟨"com/example/nosto/nosto/Arguments", "namesConstant", "()Z"⟩ : MethodName) prog_1_method_6_code 6 (some .boolean) :: ws) ({ frames := 0, cells := 0, slots := 0, locals := 0 } : Room)) (fun a U => a = #[(.ref a1)] ∧ Z.Warmed39 U.vm ∧ U.heap = h0) (fun _ _ _ _ _ => True) (fun _ U o U' => ∃ v L, o = .returned v ∧ Q3_4 Z a1 av k b0 b1 b2 b3 h0 n0 v U'.heap L ∧ FrameEnd U o U' L ({ frames := 0, cells := 0, slots := 0, locals := 0 } : Room).cells ({ frames := 0, cells := 0, slots := 0, locals := 0 } : Room).slots) := by
  refine MetFree.of_bodySF (plainFor_of_name pn_com_example_nosto_nosto_Arguments) hisR ?_
  intro p e s m args below meth c s₁ Bd hml0 hP hK
  obtain ⟨rfl, hZ, hh⟩ := hP
  have hx := Bd.exec
  have hby := Bd.bytes
  have hml : c.maxLocals = 6 := hml0
  have hown : s.vm.findClass "com/example/nosto/nosto/Arguments" = some m.cls := findClass_of_methodNamed Bd.named
  have hnm := (name_of_methodNamed Bd.named Bd.method).1
  have X0 : Stand p l e ({ frames := 0, cells := 0, slots := 0, locals := 0 } : Room) s m #[(.ref a1)] below meth c s₁ [] 0 0 := Stand.of_body Bd
  have e0 : s₁.heap = h0 := by rw [← hh, Bd.state]; rfl
  have es0 : s.heap = h0 := hh
  have N0 := Fr.nil n0
  show own_Fin p e below (G3_4 Z a1 av k b0 b1 b2 b3 h0 n0 s) (s₁.setTop (entryFrame m #[(.ref a1)] 6))
  rw [ef_3_4 m a1]
  refine own_go (XS.iconst X0.here hx rfl (hb hby d3_0) (Steps.refl _)) ?_
  show own_Fin _ _ _ _ (s₁.setTop (mkF m 1 #[.val (.ref a1), .unset, .unset, .unset, .unset, .unset] [(.int (0 : Int32))]))
  refine own_go (XS.istoreN X0.here hx rfl (hb hby d3_1) rfl (l' := #[.val (.ref a1), .val (.int (0 : Int32)), .unset, .unset, .unset, .unset]) rfl (Steps.refl _)) ?_
  show own_Fin _ _ _ _ (s₁.setTop (mkF m 2 #[.val (.ref a1), .val (.int (0 : Int32)), .unset, .unset, .unset, .unset] []))
  refine own_go (XS.aloadN X0.here hx rfl (hb hby d3_2) rfl rfl (Steps.refl _)) ?_
  show own_Fin _ _ _ _ (s₁.setTop (mkF m 3 #[.val (.ref a1), .val (.int (0 : Int32)), .unset, .unset, .unset, .unset] [(.ref a1)]))
  obtain ⟨T46, X46, e46, st46⟩ := getF X0 hx hZ hown (host := "") (Or.inl (hw _ (List.mem_of_getElem? (i := 20) rfl))) Via.refl e0 F_variables_a1 (g := (mkF m 3 #[.val (.ref a1), .val (.int (0 : Int32)), .unset, .unset, .unset, .unset] [(.ref a1)])) rfl rfl (hb hby d3_3)
  refine own_by st46 ?_
  show own_Fin _ _ _ _ (T46.setTop (mkF m 6 #[.val (.ref a1), .val (.int (0 : Int32)), .unset, .unset, .unset, .unset] [(.ref av)]))
  refine own_go (XS.astoreN X46.here hx rfl (hb hby d3_6) rfl rfl (l' := #[.val (.ref a1), .val (.int (0 : Int32)), .val (.ref av), .unset, .unset, .unset]) rfl (Steps.refl _)) ?_
  show own_Fin _ _ _ _ (T46.setTop (mkF m 7 #[.val (.ref a1), .val (.int (0 : Int32)), .val (.ref av), .unset, .unset, .unset] []))
  refine own_go (XS.aloadN X46.here hx rfl (hb hby d3_7) rfl rfl (Steps.refl _)) ?_
  show own_Fin _ _ _ _ (T46.setTop (mkF m 8 #[.val (.ref a1), .val (.int (0 : Int32)), .val (.ref av), .unset, .unset, .unset] [(.ref av)]))
  obtain ⟨cl47, Ar47, qa47, Sa47, Na47, Ha47, Ga47⟩ := id V_av
  refine own_by (X46.arraylength hx (by rw [e46]; exact Ar47.1) (State.isArrayOf_alike hZ.alike Ar47.2.1) (g := (mkF m 8 #[.val (.ref a1), .val (.int (0 : Int32)), .val (.ref av), .unset, .unset, .unset] [(.ref av)])) rfl rfl (hb hby d3_8)) ?_
  rw [len_of Sa47 Na47]
  show own_Fin _ _ _ _ (T46.setTop (mkF m 9 #[.val (.ref a1), .val (.int (0 : Int32)), .val (.ref av), .unset, .unset, .unset] [(.int (4 : Int32))]))
  refine own_go (XS.istoreN X46.here hx rfl (hb hby d3_9) rfl (l' := #[.val (.ref a1), .val (.int (0 : Int32)), .val (.ref av), .val (.int (4 : Int32)), .unset, .unset]) rfl (Steps.refl _)) ?_
  show own_Fin _ _ _ _ (T46.setTop (mkF m 10 #[.val (.ref a1), .val (.int (0 : Int32)), .val (.ref av), .val (.int (4 : Int32)), .unset, .unset] []))
  refine own_go (XS.iconst X46.here hx rfl (hb hby d3_10) (Steps.refl _)) ?_
  show own_Fin _ _ _ _ (T46.setTop (mkF m 11 #[.val (.ref a1), .val (.int (0 : Int32)), .val (.ref av), .val (.int (4 : Int32)), .unset, .unset] [(.int (0 : Int32))]))
  refine own_go (XS.istore X46.here hx rfl (hb hby d3_11) rfl (l' := #[.val (.ref a1), .val (.int (0 : Int32)), .val (.ref av), .val (.int (4 : Int32)), .val (.int (0 : Int32)), .unset]) rfl (Steps.refl _)) ?_
  show own_Fin _ _ _ _ (T46.setTop (mkF m 13 #[.val (.ref a1), .val (.int (0 : Int32)), .val (.ref av), .val (.int (4 : Int32)), .val (.int (0 : Int32)), .unset] []))
  refine own_go (XS.iload X46.here hx rfl (hb hby d3_13) rfl (Steps.refl _)) ?_
  show own_Fin _ _ _ _ (T46.setTop (mkF m 15 #[.val (.ref a1), .val (.int (0 : Int32)), .val (.ref av), .val (.int (4 : Int32)), .val (.int (0 : Int32)), .unset] [(.int (0 : Int32))]))
  refine own_go (XS.iloadN X46.here hx rfl (hb hby d3_15) rfl (Steps.refl _)) ?_
  show own_Fin _ _ _ _ (T46.setTop (mkF m 16 #[.val (.ref a1), .val (.int (0 : Int32)), .val (.ref av), .val (.int (4 : Int32)), .val (.int (0 : Int32)), .unset] [(.int (4 : Int32)), (.int (0 : Int32))]))
  refine own_go (XS.icmpNo X46.here hx rfl (hb hby d3_16) rfl (tlt (by decide : (0 : Int32) < (4 : Int32))).2.1 (Steps.refl _)) ?_
  show own_Fin _ _ _ _ (T46.setTop (mkF m 19 #[.val (.ref a1), .val (.int (0 : Int32)), .val (.ref av), .val (.int (4 : Int32)), .val (.int (0 : Int32)), .unset] []))
  refine own_go (XS.aloadN X46.here hx rfl (hb hby d3_19) rfl rfl (Steps.refl _)) ?_
  show own_Fin _ _ _ _ (T46.setTop (mkF m 20 #[.val (.ref a1), .val (.int (0 : Int32)), .val (.ref av), .val (.int (4 : Int32)), .val (.int (0 : Int32)), .unset] [(.ref av)]))
  refine own_go (XS.iload X46.here hx rfl (hb hby d3_20) rfl (Steps.refl _)) ?_
  show own_Fin _ _ _ _ (T46.setTop (mkF m 22 #[.val (.ref a1), .val (.int (0 : Int32)), .val (.ref av), .val (.int (4 : Int32)), .val (.int (0 : Int32)), .unset] [(.int (0 : Int32)), (.ref av)]))
  obtain ⟨cl48, Ar48, qa48, Sa48, Na48, Ha48, Ga48⟩ := id V_av
  have hin48 : ¬ ((0 : Int32) < 0 ∨ cl48.slots.size ≤ ((0 : Int32)).toNatClampNeg) := inb_of Sa48 ⟨by decide, by decide⟩
  have hat48 : cl48.slots[((0 : Int32)).toNatClampNeg]? = some (.int b0) := Has.at Ha48 hin48 rfl
  refine own_by (X46.iaload hx (j := (0 : Int32)) (v := (.int b0)) (by rw [e46]; exact Ar48.1) (State.isArrayOf_alike hZ.alike Ar48.2.1) Ar48.2.2 hin48 hat48 (g := (mkF m 22 #[.val (.ref a1), .val (.int (0 : Int32)), .val (.ref av), .val (.int (4 : Int32)), .val (.int (0 : Int32)), .unset] [(.int (0 : Int32)), (.ref av)])) rfl rfl (hb hby d3_22)) ?_
  show own_Fin _ _ _ _ (T46.setTop (mkF m 23 #[.val (.ref a1), .val (.int (0 : Int32)), .val (.ref av), .val (.int (4 : Int32)), .val (.int (0 : Int32)), .unset] [(.int b0)]))
  refine own_go (XS.istore X46.here hx rfl (hb hby d3_23) rfl (l' := #[.val (.ref a1), .val (.int (0 : Int32)), .val (.ref av), .val (.int (4 : Int32)), .val (.int (0 : Int32)), .val (.int b0)]) rfl (Steps.refl _)) ?_
  show own_Fin _ _ _ _ (T46.setTop (mkF m 25 #[.val (.ref a1), .val (.int (0 : Int32)), .val (.ref av), .val (.int (4 : Int32)), .val (.int (0 : Int32)), .val (.int b0)] []))
  refine own_go (XS.iloadN X46.here hx rfl (hb hby d3_25) rfl (Steps.refl _)) ?_
  show own_Fin _ _ _ _ (T46.setTop (mkF m 26 #[.val (.ref a1), .val (.int (0 : Int32)), .val (.ref av), .val (.int (4 : Int32)), .val (.int (0 : Int32)), .val (.int b0)] [(.int (0 : Int32))]))
  refine own_go (XS.ifNo X46.here hx rfl (hb hby d3_26) rfl ((if0 _ _).trans (teq (by decide : (0 : Int32) = (0 : Int32))).2) (Steps.refl _)) ?_
  show own_Fin _ _ _ _ (T46.setTop (mkF m 29 #[.val (.ref a1), .val (.int (0 : Int32)), .val (.ref av), .val (.int (4 : Int32)), .val (.int (0 : Int32)), .val (.int b0)] []))
  refine own_go (XS.iload X46.here hx rfl (hb hby d3_29) rfl (Steps.refl _)) ?_
  show own_Fin _ _ _ _ (T46.setTop (mkF m 31 #[.val (.ref a1), .val (.int (0 : Int32)), .val (.ref av), .val (.int (4 : Int32)), .val (.int (0 : Int32)), .val (.int b0)] [(.int b0)]))
  by_cases c31_49 : b0 < (0 : Int32)
  · refine own_go (XS.ifNo X46.here hx rfl (hb hby d3_31) rfl ((if0 _ _).trans (tlt c31_49).2.1) (Steps.refl _)) ?_
    show own_Fin _ _ _ _ (T46.setTop (mkF m 34 #[.val (.ref a1), .val (.int (0 : Int32)), .val (.ref av), .val (.int (4 : Int32)), .val (.int (0 : Int32)), .val (.int b0)] []))
    refine own_go (XS.iconst X46.here hx rfl (hb hby d3_34) (Steps.refl _)) ?_
    show own_Fin _ _ _ _ (T46.setTop (mkF m 35 #[.val (.ref a1), .val (.int (0 : Int32)), .val (.ref av), .val (.int (4 : Int32)), .val (.int (0 : Int32)), .val (.int b0)] [(.int (1 : Int32))]))
    refine own_go (XS.goto X46.here hx rfl (pc0 := 35) (pc' := 39) rfl (hb hby d3_35) (by decide) (by decide) (Steps.refl _)) ?_
    show own_Fin _ _ _ _ (T46.setTop (mkF m 39 #[.val (.ref a1), .val (.int (0 : Int32)), .val (.ref av), .val (.int (4 : Int32)), .val (.int (0 : Int32)), .val (.int b0)] [(.int (1 : Int32))]))
    refine own_go (XS.istoreN X46.here hx rfl (hb hby d3_39) rfl (l' := #[.val (.ref a1), .val (.int (1 : Int32)), .val (.ref av), .val (.int (4 : Int32)), .val (.int (0 : Int32)), .val (.int b0)]) rfl (Steps.refl _)) ?_
    show own_Fin _ _ _ _ (T46.setTop (mkF m 40 #[.val (.ref a1), .val (.int (1 : Int32)), .val (.ref av), .val (.int (4 : Int32)), .val (.int (0 : Int32)), .val (.int b0)] []))
    refine own_go (XS.iinc X46.here hx rfl (hb hby d3_40) rfl (l' := #[.val (.ref a1), .val (.int (1 : Int32)), .val (.ref av), .val (.int (4 : Int32)), .val (.int (1 : Int32)), .val (.int b0)]) rfl (Steps.refl _)) ?_
    show own_Fin _ _ _ _ (T46.setTop (mkF m 43 #[.val (.ref a1), .val (.int (1 : Int32)), .val (.ref av), .val (.int (4 : Int32)), .val (.int (1 : Int32)), .val (.int b0)] []))
    refine own_go (XS.goto X46.here hx rfl (pc0 := 43) (pc' := 13) rfl (hb hby d3_43) (by decide) (by decide) (Steps.refl _)) ?_
    show own_Fin _ _ _ _ (T46.setTop (mkF m 13 #[.val (.ref a1), .val (.int (1 : Int32)), .val (.ref av), .val (.int (4 : Int32)), .val (.int (1 : Int32)), .val (.int b0)] []))
    refine own_go (XS.iload X46.here hx rfl (hb hby d3_13) rfl (Steps.refl _)) ?_
    show own_Fin _ _ _ _ (T46.setTop (mkF m 15 #[.val (.ref a1), .val (.int (1 : Int32)), .val (.ref av), .val (.int (4 : Int32)), .val (.int (1 : Int32)), .val (.int b0)] [(.int (1 : Int32))]))
    refine own_go (XS.iloadN X46.here hx rfl (hb hby d3_15) rfl (Steps.refl _)) ?_
    show own_Fin _ _ _ _ (T46.setTop (mkF m 16 #[.val (.ref a1), .val (.int (1 : Int32)), .val (.ref av), .val (.int (4 : Int32)), .val (.int (1 : Int32)), .val (.int b0)] [(.int (4 : Int32)), (.int (1 : Int32))]))
    refine own_go (XS.icmpNo X46.here hx rfl (hb hby d3_16) rfl (tlt (by decide : (1 : Int32) < (4 : Int32))).2.1 (Steps.refl _)) ?_
    show own_Fin _ _ _ _ (T46.setTop (mkF m 19 #[.val (.ref a1), .val (.int (1 : Int32)), .val (.ref av), .val (.int (4 : Int32)), .val (.int (1 : Int32)), .val (.int b0)] []))
    refine own_go (XS.aloadN X46.here hx rfl (hb hby d3_19) rfl rfl (Steps.refl _)) ?_
    show own_Fin _ _ _ _ (T46.setTop (mkF m 20 #[.val (.ref a1), .val (.int (1 : Int32)), .val (.ref av), .val (.int (4 : Int32)), .val (.int (1 : Int32)), .val (.int b0)] [(.ref av)]))
    refine own_go (XS.iload X46.here hx rfl (hb hby d3_20) rfl (Steps.refl _)) ?_
    show own_Fin _ _ _ _ (T46.setTop (mkF m 22 #[.val (.ref a1), .val (.int (1 : Int32)), .val (.ref av), .val (.int (4 : Int32)), .val (.int (1 : Int32)), .val (.int b0)] [(.int (1 : Int32)), (.ref av)]))
    obtain ⟨cl50, Ar50, qa50, Sa50, Na50, Ha50, Ga50⟩ := id V_av
    have hin50 : ¬ ((1 : Int32) < 0 ∨ cl50.slots.size ≤ ((1 : Int32)).toNatClampNeg) := inb_of Sa50 ⟨by decide, by decide⟩
    have hat50 : cl50.slots[((1 : Int32)).toNatClampNeg]? = some (.int b1) := Has.at Ha50 hin50 rfl
    refine own_by (X46.iaload hx (j := (1 : Int32)) (v := (.int b1)) (by rw [e46]; exact Ar50.1) (State.isArrayOf_alike hZ.alike Ar50.2.1) Ar50.2.2 hin50 hat50 (g := (mkF m 22 #[.val (.ref a1), .val (.int (1 : Int32)), .val (.ref av), .val (.int (4 : Int32)), .val (.int (1 : Int32)), .val (.int b0)] [(.int (1 : Int32)), (.ref av)])) rfl rfl (hb hby d3_22)) ?_
    show own_Fin _ _ _ _ (T46.setTop (mkF m 23 #[.val (.ref a1), .val (.int (1 : Int32)), .val (.ref av), .val (.int (4 : Int32)), .val (.int (1 : Int32)), .val (.int b0)] [(.int b1)]))
    refine own_go (XS.istore X46.here hx rfl (hb hby d3_23) rfl (l' := #[.val (.ref a1), .val (.int (1 : Int32)), .val (.ref av), .val (.int (4 : Int32)), .val (.int (1 : Int32)), .val (.int b1)]) rfl (Steps.refl _)) ?_
    show own_Fin _ _ _ _ (T46.setTop (mkF m 25 #[.val (.ref a1), .val (.int (1 : Int32)), .val (.ref av), .val (.int (4 : Int32)), .val (.int (1 : Int32)), .val (.int b1)] []))
    refine own_go (XS.iloadN X46.here hx rfl (hb hby d3_25) rfl (Steps.refl _)) ?_
    show own_Fin _ _ _ _ (T46.setTop (mkF m 26 #[.val (.ref a1), .val (.int (1 : Int32)), .val (.ref av), .val (.int (4 : Int32)), .val (.int (1 : Int32)), .val (.int b1)] [(.int (1 : Int32))]))
    refine own_go (XS.ifYes X46.here hx rfl (pc0 := 26) (pc' := 34) rfl (hb hby d3_26) rfl ((if0 _ _).trans (feq (by decide : ¬ ((1 : Int32) = (0 : Int32)))).2) (by decide) (by decide) (Steps.refl _)) ?_
    show own_Fin _ _ _ _ (T46.setTop (mkF m 34 #[.val (.ref a1), .val (.int (1 : Int32)), .val (.ref av), .val (.int (4 : Int32)), .val (.int (1 : Int32)), .val (.int b1)] []))
    refine own_go (XS.iconst X46.here hx rfl (hb hby d3_34) (Steps.refl _)) ?_
    show own_Fin _ _ _ _ (T46.setTop (mkF m 35 #[.val (.ref a1), .val (.int (1 : Int32)), .val (.ref av), .val (.int (4 : Int32)), .val (.int (1 : Int32)), .val (.int b1)] [(.int (1 : Int32))]))
    refine own_go (XS.goto X46.here hx rfl (pc0 := 35) (pc' := 39) rfl (hb hby d3_35) (by decide) (by decide) (Steps.refl _)) ?_
    show own_Fin _ _ _ _ (T46.setTop (mkF m 39 #[.val (.ref a1), .val (.int (1 : Int32)), .val (.ref av), .val (.int (4 : Int32)), .val (.int (1 : Int32)), .val (.int b1)] [(.int (1 : Int32))]))
    refine own_go (XS.istoreN X46.here hx rfl (hb hby d3_39) rfl (l' := #[.val (.ref a1), .val (.int (1 : Int32)), .val (.ref av), .val (.int (4 : Int32)), .val (.int (1 : Int32)), .val (.int b1)]) rfl (Steps.refl _)) ?_
    show own_Fin _ _ _ _ (T46.setTop (mkF m 40 #[.val (.ref a1), .val (.int (1 : Int32)), .val (.ref av), .val (.int (4 : Int32)), .val (.int (1 : Int32)), .val (.int b1)] []))
    refine own_go (XS.iinc X46.here hx rfl (hb hby d3_40) rfl (l' := #[.val (.ref a1), .val (.int (1 : Int32)), .val (.ref av), .val (.int (4 : Int32)), .val (.int (2 : Int32)), .val (.int b1)]) rfl (Steps.refl _)) ?_
    show own_Fin _ _ _ _ (T46.setTop (mkF m 43 #[.val (.ref a1), .val (.int (1 : Int32)), .val (.ref av), .val (.int (4 : Int32)), .val (.int (2 : Int32)), .val (.int b1)] []))
    refine own_go (XS.goto X46.here hx rfl (pc0 := 43) (pc' := 13) rfl (hb hby d3_43) (by decide) (by decide) (Steps.refl _)) ?_
    show own_Fin _ _ _ _ (T46.setTop (mkF m 13 #[.val (.ref a1), .val (.int (1 : Int32)), .val (.ref av), .val (.int (4 : Int32)), .val (.int (2 : Int32)), .val (.int b1)] []))
    refine own_go (XS.iload X46.here hx rfl (hb hby d3_13) rfl (Steps.refl _)) ?_
    show own_Fin _ _ _ _ (T46.setTop (mkF m 15 #[.val (.ref a1), .val (.int (1 : Int32)), .val (.ref av), .val (.int (4 : Int32)), .val (.int (2 : Int32)), .val (.int b1)] [(.int (2 : Int32))]))
    refine own_go (XS.iloadN X46.here hx rfl (hb hby d3_15) rfl (Steps.refl _)) ?_
    show own_Fin _ _ _ _ (T46.setTop (mkF m 16 #[.val (.ref a1), .val (.int (1 : Int32)), .val (.ref av), .val (.int (4 : Int32)), .val (.int (2 : Int32)), .val (.int b1)] [(.int (4 : Int32)), (.int (2 : Int32))]))
    refine own_go (XS.icmpNo X46.here hx rfl (hb hby d3_16) rfl (tlt (by decide : (2 : Int32) < (4 : Int32))).2.1 (Steps.refl _)) ?_
    show own_Fin _ _ _ _ (T46.setTop (mkF m 19 #[.val (.ref a1), .val (.int (1 : Int32)), .val (.ref av), .val (.int (4 : Int32)), .val (.int (2 : Int32)), .val (.int b1)] []))
    refine own_go (XS.aloadN X46.here hx rfl (hb hby d3_19) rfl rfl (Steps.refl _)) ?_
    show own_Fin _ _ _ _ (T46.setTop (mkF m 20 #[.val (.ref a1), .val (.int (1 : Int32)), .val (.ref av), .val (.int (4 : Int32)), .val (.int (2 : Int32)), .val (.int b1)] [(.ref av)]))
    refine own_go (XS.iload X46.here hx rfl (hb hby d3_20) rfl (Steps.refl _)) ?_
    show own_Fin _ _ _ _ (T46.setTop (mkF m 22 #[.val (.ref a1), .val (.int (1 : Int32)), .val (.ref av), .val (.int (4 : Int32)), .val (.int (2 : Int32)), .val (.int b1)] [(.int (2 : Int32)), (.ref av)]))
    obtain ⟨cl51, Ar51, qa51, Sa51, Na51, Ha51, Ga51⟩ := id V_av
    have hin51 : ¬ ((2 : Int32) < 0 ∨ cl51.slots.size ≤ ((2 : Int32)).toNatClampNeg) := inb_of Sa51 ⟨by decide, by decide⟩
    have hat51 : cl51.slots[((2 : Int32)).toNatClampNeg]? = some (.int b2) := Has.at Ha51 hin51 rfl
    refine own_by (X46.iaload hx (j := (2 : Int32)) (v := (.int b2)) (by rw [e46]; exact Ar51.1) (State.isArrayOf_alike hZ.alike Ar51.2.1) Ar51.2.2 hin51 hat51 (g := (mkF m 22 #[.val (.ref a1), .val (.int (1 : Int32)), .val (.ref av), .val (.int (4 : Int32)), .val (.int (2 : Int32)), .val (.int b1)] [(.int (2 : Int32)), (.ref av)])) rfl rfl (hb hby d3_22)) ?_
    show own_Fin _ _ _ _ (T46.setTop (mkF m 23 #[.val (.ref a1), .val (.int (1 : Int32)), .val (.ref av), .val (.int (4 : Int32)), .val (.int (2 : Int32)), .val (.int b1)] [(.int b2)]))
    refine own_go (XS.istore X46.here hx rfl (hb hby d3_23) rfl (l' := #[.val (.ref a1), .val (.int (1 : Int32)), .val (.ref av), .val (.int (4 : Int32)), .val (.int (2 : Int32)), .val (.int b2)]) rfl (Steps.refl _)) ?_
    show own_Fin _ _ _ _ (T46.setTop (mkF m 25 #[.val (.ref a1), .val (.int (1 : Int32)), .val (.ref av), .val (.int (4 : Int32)), .val (.int (2 : Int32)), .val (.int b2)] []))
    refine own_go (XS.iloadN X46.here hx rfl (hb hby d3_25) rfl (Steps.refl _)) ?_
    show own_Fin _ _ _ _ (T46.setTop (mkF m 26 #[.val (.ref a1), .val (.int (1 : Int32)), .val (.ref av), .val (.int (4 : Int32)), .val (.int (2 : Int32)), .val (.int b2)] [(.int (1 : Int32))]))
    refine own_go (XS.ifYes X46.here hx rfl (pc0 := 26) (pc' := 34) rfl (hb hby d3_26) rfl ((if0 _ _).trans (feq (by decide : ¬ ((1 : Int32) = (0 : Int32)))).2) (by decide) (by decide) (Steps.refl _)) ?_
    show own_Fin _ _ _ _ (T46.setTop (mkF m 34 #[.val (.ref a1), .val (.int (1 : Int32)), .val (.ref av), .val (.int (4 : Int32)), .val (.int (2 : Int32)), .val (.int b2)] []))
    refine own_go (XS.iconst X46.here hx rfl (hb hby d3_34) (Steps.refl _)) ?_
    show own_Fin _ _ _ _ (T46.setTop (mkF m 35 #[.val (.ref a1), .val (.int (1 : Int32)), .val (.ref av), .val (.int (4 : Int32)), .val (.int (2 : Int32)), .val (.int b2)] [(.int (1 : Int32))]))
    refine own_go (XS.goto X46.here hx rfl (pc0 := 35) (pc' := 39) rfl (hb hby d3_35) (by decide) (by decide) (Steps.refl _)) ?_
    show own_Fin _ _ _ _ (T46.setTop (mkF m 39 #[.val (.ref a1), .val (.int (1 : Int32)), .val (.ref av), .val (.int (4 : Int32)), .val (.int (2 : Int32)), .val (.int b2)] [(.int (1 : Int32))]))
    refine own_go (XS.istoreN X46.here hx rfl (hb hby d3_39) rfl (l' := #[.val (.ref a1), .val (.int (1 : Int32)), .val (.ref av), .val (.int (4 : Int32)), .val (.int (2 : Int32)), .val (.int b2)]) rfl (Steps.refl _)) ?_
    show own_Fin _ _ _ _ (T46.setTop (mkF m 40 #[.val (.ref a1), .val (.int (1 : Int32)), .val (.ref av), .val (.int (4 : Int32)), .val (.int (2 : Int32)), .val (.int b2)] []))
    refine own_go (XS.iinc X46.here hx rfl (hb hby d3_40) rfl (l' := #[.val (.ref a1), .val (.int (1 : Int32)), .val (.ref av), .val (.int (4 : Int32)), .val (.int (3 : Int32)), .val (.int b2)]) rfl (Steps.refl _)) ?_
    show own_Fin _ _ _ _ (T46.setTop (mkF m 43 #[.val (.ref a1), .val (.int (1 : Int32)), .val (.ref av), .val (.int (4 : Int32)), .val (.int (3 : Int32)), .val (.int b2)] []))
    refine own_go (XS.goto X46.here hx rfl (pc0 := 43) (pc' := 13) rfl (hb hby d3_43) (by decide) (by decide) (Steps.refl _)) ?_
    show own_Fin _ _ _ _ (T46.setTop (mkF m 13 #[.val (.ref a1), .val (.int (1 : Int32)), .val (.ref av), .val (.int (4 : Int32)), .val (.int (3 : Int32)), .val (.int b2)] []))
    refine own_go (XS.iload X46.here hx rfl (hb hby d3_13) rfl (Steps.refl _)) ?_
    show own_Fin _ _ _ _ (T46.setTop (mkF m 15 #[.val (.ref a1), .val (.int (1 : Int32)), .val (.ref av), .val (.int (4 : Int32)), .val (.int (3 : Int32)), .val (.int b2)] [(.int (3 : Int32))]))
    refine own_go (XS.iloadN X46.here hx rfl (hb hby d3_15) rfl (Steps.refl _)) ?_
    show own_Fin _ _ _ _ (T46.setTop (mkF m 16 #[.val (.ref a1), .val (.int (1 : Int32)), .val (.ref av), .val (.int (4 : Int32)), .val (.int (3 : Int32)), .val (.int b2)] [(.int (4 : Int32)), (.int (3 : Int32))]))
    refine own_go (XS.icmpNo X46.here hx rfl (hb hby d3_16) rfl (tlt (by decide : (3 : Int32) < (4 : Int32))).2.1 (Steps.refl _)) ?_
    show own_Fin _ _ _ _ (T46.setTop (mkF m 19 #[.val (.ref a1), .val (.int (1 : Int32)), .val (.ref av), .val (.int (4 : Int32)), .val (.int (3 : Int32)), .val (.int b2)] []))
    refine own_go (XS.aloadN X46.here hx rfl (hb hby d3_19) rfl rfl (Steps.refl _)) ?_
    show own_Fin _ _ _ _ (T46.setTop (mkF m 20 #[.val (.ref a1), .val (.int (1 : Int32)), .val (.ref av), .val (.int (4 : Int32)), .val (.int (3 : Int32)), .val (.int b2)] [(.ref av)]))
    refine own_go (XS.iload X46.here hx rfl (hb hby d3_20) rfl (Steps.refl _)) ?_
    show own_Fin _ _ _ _ (T46.setTop (mkF m 22 #[.val (.ref a1), .val (.int (1 : Int32)), .val (.ref av), .val (.int (4 : Int32)), .val (.int (3 : Int32)), .val (.int b2)] [(.int (3 : Int32)), (.ref av)]))
    obtain ⟨cl52, Ar52, qa52, Sa52, Na52, Ha52, Ga52⟩ := id V_av
    have hin52 : ¬ ((3 : Int32) < 0 ∨ cl52.slots.size ≤ ((3 : Int32)).toNatClampNeg) := inb_of Sa52 ⟨by decide, by decide⟩
    have hat52 : cl52.slots[((3 : Int32)).toNatClampNeg]? = some (.int b3) := Has.at Ha52 hin52 rfl
    refine own_by (X46.iaload hx (j := (3 : Int32)) (v := (.int b3)) (by rw [e46]; exact Ar52.1) (State.isArrayOf_alike hZ.alike Ar52.2.1) Ar52.2.2 hin52 hat52 (g := (mkF m 22 #[.val (.ref a1), .val (.int (1 : Int32)), .val (.ref av), .val (.int (4 : Int32)), .val (.int (3 : Int32)), .val (.int b2)] [(.int (3 : Int32)), (.ref av)])) rfl rfl (hb hby d3_22)) ?_
    show own_Fin _ _ _ _ (T46.setTop (mkF m 23 #[.val (.ref a1), .val (.int (1 : Int32)), .val (.ref av), .val (.int (4 : Int32)), .val (.int (3 : Int32)), .val (.int b2)] [(.int b3)]))
    refine own_go (XS.istore X46.here hx rfl (hb hby d3_23) rfl (l' := #[.val (.ref a1), .val (.int (1 : Int32)), .val (.ref av), .val (.int (4 : Int32)), .val (.int (3 : Int32)), .val (.int b3)]) rfl (Steps.refl _)) ?_
    show own_Fin _ _ _ _ (T46.setTop (mkF m 25 #[.val (.ref a1), .val (.int (1 : Int32)), .val (.ref av), .val (.int (4 : Int32)), .val (.int (3 : Int32)), .val (.int b3)] []))
    refine own_go (XS.iloadN X46.here hx rfl (hb hby d3_25) rfl (Steps.refl _)) ?_
    show own_Fin _ _ _ _ (T46.setTop (mkF m 26 #[.val (.ref a1), .val (.int (1 : Int32)), .val (.ref av), .val (.int (4 : Int32)), .val (.int (3 : Int32)), .val (.int b3)] [(.int (1 : Int32))]))
    refine own_go (XS.ifYes X46.here hx rfl (pc0 := 26) (pc' := 34) rfl (hb hby d3_26) rfl ((if0 _ _).trans (feq (by decide : ¬ ((1 : Int32) = (0 : Int32)))).2) (by decide) (by decide) (Steps.refl _)) ?_
    show own_Fin _ _ _ _ (T46.setTop (mkF m 34 #[.val (.ref a1), .val (.int (1 : Int32)), .val (.ref av), .val (.int (4 : Int32)), .val (.int (3 : Int32)), .val (.int b3)] []))
    refine own_go (XS.iconst X46.here hx rfl (hb hby d3_34) (Steps.refl _)) ?_
    show own_Fin _ _ _ _ (T46.setTop (mkF m 35 #[.val (.ref a1), .val (.int (1 : Int32)), .val (.ref av), .val (.int (4 : Int32)), .val (.int (3 : Int32)), .val (.int b3)] [(.int (1 : Int32))]))
    refine own_go (XS.goto X46.here hx rfl (pc0 := 35) (pc' := 39) rfl (hb hby d3_35) (by decide) (by decide) (Steps.refl _)) ?_
    show own_Fin _ _ _ _ (T46.setTop (mkF m 39 #[.val (.ref a1), .val (.int (1 : Int32)), .val (.ref av), .val (.int (4 : Int32)), .val (.int (3 : Int32)), .val (.int b3)] [(.int (1 : Int32))]))
    refine own_go (XS.istoreN X46.here hx rfl (hb hby d3_39) rfl (l' := #[.val (.ref a1), .val (.int (1 : Int32)), .val (.ref av), .val (.int (4 : Int32)), .val (.int (3 : Int32)), .val (.int b3)]) rfl (Steps.refl _)) ?_
    show own_Fin _ _ _ _ (T46.setTop (mkF m 40 #[.val (.ref a1), .val (.int (1 : Int32)), .val (.ref av), .val (.int (4 : Int32)), .val (.int (3 : Int32)), .val (.int b3)] []))
    refine own_go (XS.iinc X46.here hx rfl (hb hby d3_40) rfl (l' := #[.val (.ref a1), .val (.int (1 : Int32)), .val (.ref av), .val (.int (4 : Int32)), .val (.int (4 : Int32)), .val (.int b3)]) rfl (Steps.refl _)) ?_
    show own_Fin _ _ _ _ (T46.setTop (mkF m 43 #[.val (.ref a1), .val (.int (1 : Int32)), .val (.ref av), .val (.int (4 : Int32)), .val (.int (4 : Int32)), .val (.int b3)] []))
    refine own_go (XS.goto X46.here hx rfl (pc0 := 43) (pc' := 13) rfl (hb hby d3_43) (by decide) (by decide) (Steps.refl _)) ?_
    show own_Fin _ _ _ _ (T46.setTop (mkF m 13 #[.val (.ref a1), .val (.int (1 : Int32)), .val (.ref av), .val (.int (4 : Int32)), .val (.int (4 : Int32)), .val (.int b3)] []))
    refine own_go (XS.iload X46.here hx rfl (hb hby d3_13) rfl (Steps.refl _)) ?_
    show own_Fin _ _ _ _ (T46.setTop (mkF m 15 #[.val (.ref a1), .val (.int (1 : Int32)), .val (.ref av), .val (.int (4 : Int32)), .val (.int (4 : Int32)), .val (.int b3)] [(.int (4 : Int32))]))
    refine own_go (XS.iloadN X46.here hx rfl (hb hby d3_15) rfl (Steps.refl _)) ?_
    show own_Fin _ _ _ _ (T46.setTop (mkF m 16 #[.val (.ref a1), .val (.int (1 : Int32)), .val (.ref av), .val (.int (4 : Int32)), .val (.int (4 : Int32)), .val (.int b3)] [(.int (4 : Int32)), (.int (4 : Int32))]))
    refine own_go (XS.icmpYes X46.here hx rfl (pc0 := 16) (pc' := 46) rfl (hb hby d3_16) rfl (flt (by decide : ¬ ((4 : Int32) < (4 : Int32)))).2.1 (by decide) (by decide) (Steps.refl _)) ?_
    show own_Fin _ _ _ _ (T46.setTop (mkF m 46 #[.val (.ref a1), .val (.int (1 : Int32)), .val (.ref av), .val (.int (4 : Int32)), .val (.int (4 : Int32)), .val (.int b3)] []))
    refine own_go (XS.iloadN X46.here hx rfl (hb hby d3_46) rfl (Steps.refl _)) ?_
    show own_Fin _ _ _ _ (T46.setTop (mkF m 47 #[.val (.ref a1), .val (.int (1 : Int32)), .val (.ref av), .val (.int (4 : Int32)), .val (.int (4 : Int32)), .val (.int b3)] [(.int (1 : Int32))]))
    obtain ⟨fs53, hr53, hrun53, hended53, hW53, hsame53⟩ := X46.leave (v := some (.int (1 : Int32))) (fun h => by rw [Bd.returns] at h; cases h)
    refine own_done (retN X46 hx (t := .boolean) Bd.returns (by simp) (hb hby d3_47) hr53) hrun53 hended53 ⟨_, _, rfl, ?_, ⟨_, rfl⟩, hW53, hsame53.mono (by decide) (by decide)⟩
    show Q3_4 Z a1 av k b0 b1 b2 b3 h0 n0 _ T46.heap _
    rw [e46]
    exact ⟨by simp [c31_49], N0, rfl⟩
  · refine own_go (XS.ifYes X46.here hx rfl (pc0 := 31) (pc' := 38) rfl (hb hby d3_31) rfl ((if0 _ _).trans (flt c31_49).2.1) (by decide) (by decide) (Steps.refl _)) ?_
    show own_Fin _ _ _ _ (T46.setTop (mkF m 38 #[.val (.ref a1), .val (.int (0 : Int32)), .val (.ref av), .val (.int (4 : Int32)), .val (.int (0 : Int32)), .val (.int b0)] []))
    refine own_go (XS.iconst X46.here hx rfl (hb hby d3_38) (Steps.refl _)) ?_
    show own_Fin _ _ _ _ (T46.setTop (mkF m 39 #[.val (.ref a1), .val (.int (0 : Int32)), .val (.ref av), .val (.int (4 : Int32)), .val (.int (0 : Int32)), .val (.int b0)] [(.int (0 : Int32))]))
    refine own_go (XS.istoreN X46.here hx rfl (hb hby d3_39) rfl (l' := #[.val (.ref a1), .val (.int (0 : Int32)), .val (.ref av), .val (.int (4 : Int32)), .val (.int (0 : Int32)), .val (.int b0)]) rfl (Steps.refl _)) ?_
    show own_Fin _ _ _ _ (T46.setTop (mkF m 40 #[.val (.ref a1), .val (.int (0 : Int32)), .val (.ref av), .val (.int (4 : Int32)), .val (.int (0 : Int32)), .val (.int b0)] []))
    refine own_go (XS.iinc X46.here hx rfl (hb hby d3_40) rfl (l' := #[.val (.ref a1), .val (.int (0 : Int32)), .val (.ref av), .val (.int (4 : Int32)), .val (.int (1 : Int32)), .val (.int b0)]) rfl (Steps.refl _)) ?_
    show own_Fin _ _ _ _ (T46.setTop (mkF m 43 #[.val (.ref a1), .val (.int (0 : Int32)), .val (.ref av), .val (.int (4 : Int32)), .val (.int (1 : Int32)), .val (.int b0)] []))
    refine own_go (XS.goto X46.here hx rfl (pc0 := 43) (pc' := 13) rfl (hb hby d3_43) (by decide) (by decide) (Steps.refl _)) ?_
    show own_Fin _ _ _ _ (T46.setTop (mkF m 13 #[.val (.ref a1), .val (.int (0 : Int32)), .val (.ref av), .val (.int (4 : Int32)), .val (.int (1 : Int32)), .val (.int b0)] []))
    refine own_go (XS.iload X46.here hx rfl (hb hby d3_13) rfl (Steps.refl _)) ?_
    show own_Fin _ _ _ _ (T46.setTop (mkF m 15 #[.val (.ref a1), .val (.int (0 : Int32)), .val (.ref av), .val (.int (4 : Int32)), .val (.int (1 : Int32)), .val (.int b0)] [(.int (1 : Int32))]))
    refine own_go (XS.iloadN X46.here hx rfl (hb hby d3_15) rfl (Steps.refl _)) ?_
    show own_Fin _ _ _ _ (T46.setTop (mkF m 16 #[.val (.ref a1), .val (.int (0 : Int32)), .val (.ref av), .val (.int (4 : Int32)), .val (.int (1 : Int32)), .val (.int b0)] [(.int (4 : Int32)), (.int (1 : Int32))]))
    refine own_go (XS.icmpNo X46.here hx rfl (hb hby d3_16) rfl (tlt (by decide : (1 : Int32) < (4 : Int32))).2.1 (Steps.refl _)) ?_
    show own_Fin _ _ _ _ (T46.setTop (mkF m 19 #[.val (.ref a1), .val (.int (0 : Int32)), .val (.ref av), .val (.int (4 : Int32)), .val (.int (1 : Int32)), .val (.int b0)] []))
    refine own_go (XS.aloadN X46.here hx rfl (hb hby d3_19) rfl rfl (Steps.refl _)) ?_
    show own_Fin _ _ _ _ (T46.setTop (mkF m 20 #[.val (.ref a1), .val (.int (0 : Int32)), .val (.ref av), .val (.int (4 : Int32)), .val (.int (1 : Int32)), .val (.int b0)] [(.ref av)]))
    refine own_go (XS.iload X46.here hx rfl (hb hby d3_20) rfl (Steps.refl _)) ?_
    show own_Fin _ _ _ _ (T46.setTop (mkF m 22 #[.val (.ref a1), .val (.int (0 : Int32)), .val (.ref av), .val (.int (4 : Int32)), .val (.int (1 : Int32)), .val (.int b0)] [(.int (1 : Int32)), (.ref av)]))
    obtain ⟨cl54, Ar54, qa54, Sa54, Na54, Ha54, Ga54⟩ := id V_av
    have hin54 : ¬ ((1 : Int32) < 0 ∨ cl54.slots.size ≤ ((1 : Int32)).toNatClampNeg) := inb_of Sa54 ⟨by decide, by decide⟩
    have hat54 : cl54.slots[((1 : Int32)).toNatClampNeg]? = some (.int b1) := Has.at Ha54 hin54 rfl
    refine own_by (X46.iaload hx (j := (1 : Int32)) (v := (.int b1)) (by rw [e46]; exact Ar54.1) (State.isArrayOf_alike hZ.alike Ar54.2.1) Ar54.2.2 hin54 hat54 (g := (mkF m 22 #[.val (.ref a1), .val (.int (0 : Int32)), .val (.ref av), .val (.int (4 : Int32)), .val (.int (1 : Int32)), .val (.int b0)] [(.int (1 : Int32)), (.ref av)])) rfl rfl (hb hby d3_22)) ?_
    show own_Fin _ _ _ _ (T46.setTop (mkF m 23 #[.val (.ref a1), .val (.int (0 : Int32)), .val (.ref av), .val (.int (4 : Int32)), .val (.int (1 : Int32)), .val (.int b0)] [(.int b1)]))
    refine own_go (XS.istore X46.here hx rfl (hb hby d3_23) rfl (l' := #[.val (.ref a1), .val (.int (0 : Int32)), .val (.ref av), .val (.int (4 : Int32)), .val (.int (1 : Int32)), .val (.int b1)]) rfl (Steps.refl _)) ?_
    show own_Fin _ _ _ _ (T46.setTop (mkF m 25 #[.val (.ref a1), .val (.int (0 : Int32)), .val (.ref av), .val (.int (4 : Int32)), .val (.int (1 : Int32)), .val (.int b1)] []))
    refine own_go (XS.iloadN X46.here hx rfl (hb hby d3_25) rfl (Steps.refl _)) ?_
    show own_Fin _ _ _ _ (T46.setTop (mkF m 26 #[.val (.ref a1), .val (.int (0 : Int32)), .val (.ref av), .val (.int (4 : Int32)), .val (.int (1 : Int32)), .val (.int b1)] [(.int (0 : Int32))]))
    refine own_go (XS.ifNo X46.here hx rfl (hb hby d3_26) rfl ((if0 _ _).trans (teq (by decide : (0 : Int32) = (0 : Int32))).2) (Steps.refl _)) ?_
    show own_Fin _ _ _ _ (T46.setTop (mkF m 29 #[.val (.ref a1), .val (.int (0 : Int32)), .val (.ref av), .val (.int (4 : Int32)), .val (.int (1 : Int32)), .val (.int b1)] []))
    refine own_go (XS.iload X46.here hx rfl (hb hby d3_29) rfl (Steps.refl _)) ?_
    show own_Fin _ _ _ _ (T46.setTop (mkF m 31 #[.val (.ref a1), .val (.int (0 : Int32)), .val (.ref av), .val (.int (4 : Int32)), .val (.int (1 : Int32)), .val (.int b1)] [(.int b1)]))
    by_cases c31_55 : b1 < (0 : Int32)
    · refine own_go (XS.ifNo X46.here hx rfl (hb hby d3_31) rfl ((if0 _ _).trans (tlt c31_55).2.1) (Steps.refl _)) ?_
      show own_Fin _ _ _ _ (T46.setTop (mkF m 34 #[.val (.ref a1), .val (.int (0 : Int32)), .val (.ref av), .val (.int (4 : Int32)), .val (.int (1 : Int32)), .val (.int b1)] []))
      refine own_go (XS.iconst X46.here hx rfl (hb hby d3_34) (Steps.refl _)) ?_
      show own_Fin _ _ _ _ (T46.setTop (mkF m 35 #[.val (.ref a1), .val (.int (0 : Int32)), .val (.ref av), .val (.int (4 : Int32)), .val (.int (1 : Int32)), .val (.int b1)] [(.int (1 : Int32))]))
      refine own_go (XS.goto X46.here hx rfl (pc0 := 35) (pc' := 39) rfl (hb hby d3_35) (by decide) (by decide) (Steps.refl _)) ?_
      show own_Fin _ _ _ _ (T46.setTop (mkF m 39 #[.val (.ref a1), .val (.int (0 : Int32)), .val (.ref av), .val (.int (4 : Int32)), .val (.int (1 : Int32)), .val (.int b1)] [(.int (1 : Int32))]))
      refine own_go (XS.istoreN X46.here hx rfl (hb hby d3_39) rfl (l' := #[.val (.ref a1), .val (.int (1 : Int32)), .val (.ref av), .val (.int (4 : Int32)), .val (.int (1 : Int32)), .val (.int b1)]) rfl (Steps.refl _)) ?_
      show own_Fin _ _ _ _ (T46.setTop (mkF m 40 #[.val (.ref a1), .val (.int (1 : Int32)), .val (.ref av), .val (.int (4 : Int32)), .val (.int (1 : Int32)), .val (.int b1)] []))
      refine own_go (XS.iinc X46.here hx rfl (hb hby d3_40) rfl (l' := #[.val (.ref a1), .val (.int (1 : Int32)), .val (.ref av), .val (.int (4 : Int32)), .val (.int (2 : Int32)), .val (.int b1)]) rfl (Steps.refl _)) ?_
      show own_Fin _ _ _ _ (T46.setTop (mkF m 43 #[.val (.ref a1), .val (.int (1 : Int32)), .val (.ref av), .val (.int (4 : Int32)), .val (.int (2 : Int32)), .val (.int b1)] []))
      refine own_go (XS.goto X46.here hx rfl (pc0 := 43) (pc' := 13) rfl (hb hby d3_43) (by decide) (by decide) (Steps.refl _)) ?_
      show own_Fin _ _ _ _ (T46.setTop (mkF m 13 #[.val (.ref a1), .val (.int (1 : Int32)), .val (.ref av), .val (.int (4 : Int32)), .val (.int (2 : Int32)), .val (.int b1)] []))
      refine own_go (XS.iload X46.here hx rfl (hb hby d3_13) rfl (Steps.refl _)) ?_
      show own_Fin _ _ _ _ (T46.setTop (mkF m 15 #[.val (.ref a1), .val (.int (1 : Int32)), .val (.ref av), .val (.int (4 : Int32)), .val (.int (2 : Int32)), .val (.int b1)] [(.int (2 : Int32))]))
      refine own_go (XS.iloadN X46.here hx rfl (hb hby d3_15) rfl (Steps.refl _)) ?_
      show own_Fin _ _ _ _ (T46.setTop (mkF m 16 #[.val (.ref a1), .val (.int (1 : Int32)), .val (.ref av), .val (.int (4 : Int32)), .val (.int (2 : Int32)), .val (.int b1)] [(.int (4 : Int32)), (.int (2 : Int32))]))
      refine own_go (XS.icmpNo X46.here hx rfl (hb hby d3_16) rfl (tlt (by decide : (2 : Int32) < (4 : Int32))).2.1 (Steps.refl _)) ?_
      show own_Fin _ _ _ _ (T46.setTop (mkF m 19 #[.val (.ref a1), .val (.int (1 : Int32)), .val (.ref av), .val (.int (4 : Int32)), .val (.int (2 : Int32)), .val (.int b1)] []))
      refine own_go (XS.aloadN X46.here hx rfl (hb hby d3_19) rfl rfl (Steps.refl _)) ?_
      show own_Fin _ _ _ _ (T46.setTop (mkF m 20 #[.val (.ref a1), .val (.int (1 : Int32)), .val (.ref av), .val (.int (4 : Int32)), .val (.int (2 : Int32)), .val (.int b1)] [(.ref av)]))
      refine own_go (XS.iload X46.here hx rfl (hb hby d3_20) rfl (Steps.refl _)) ?_
      show own_Fin _ _ _ _ (T46.setTop (mkF m 22 #[.val (.ref a1), .val (.int (1 : Int32)), .val (.ref av), .val (.int (4 : Int32)), .val (.int (2 : Int32)), .val (.int b1)] [(.int (2 : Int32)), (.ref av)]))
      obtain ⟨cl56, Ar56, qa56, Sa56, Na56, Ha56, Ga56⟩ := id V_av
      have hin56 : ¬ ((2 : Int32) < 0 ∨ cl56.slots.size ≤ ((2 : Int32)).toNatClampNeg) := inb_of Sa56 ⟨by decide, by decide⟩
      have hat56 : cl56.slots[((2 : Int32)).toNatClampNeg]? = some (.int b2) := Has.at Ha56 hin56 rfl
      refine own_by (X46.iaload hx (j := (2 : Int32)) (v := (.int b2)) (by rw [e46]; exact Ar56.1) (State.isArrayOf_alike hZ.alike Ar56.2.1) Ar56.2.2 hin56 hat56 (g := (mkF m 22 #[.val (.ref a1), .val (.int (1 : Int32)), .val (.ref av), .val (.int (4 : Int32)), .val (.int (2 : Int32)), .val (.int b1)] [(.int (2 : Int32)), (.ref av)])) rfl rfl (hb hby d3_22)) ?_
      show own_Fin _ _ _ _ (T46.setTop (mkF m 23 #[.val (.ref a1), .val (.int (1 : Int32)), .val (.ref av), .val (.int (4 : Int32)), .val (.int (2 : Int32)), .val (.int b1)] [(.int b2)]))
      refine own_go (XS.istore X46.here hx rfl (hb hby d3_23) rfl (l' := #[.val (.ref a1), .val (.int (1 : Int32)), .val (.ref av), .val (.int (4 : Int32)), .val (.int (2 : Int32)), .val (.int b2)]) rfl (Steps.refl _)) ?_
      show own_Fin _ _ _ _ (T46.setTop (mkF m 25 #[.val (.ref a1), .val (.int (1 : Int32)), .val (.ref av), .val (.int (4 : Int32)), .val (.int (2 : Int32)), .val (.int b2)] []))
      refine own_go (XS.iloadN X46.here hx rfl (hb hby d3_25) rfl (Steps.refl _)) ?_
      show own_Fin _ _ _ _ (T46.setTop (mkF m 26 #[.val (.ref a1), .val (.int (1 : Int32)), .val (.ref av), .val (.int (4 : Int32)), .val (.int (2 : Int32)), .val (.int b2)] [(.int (1 : Int32))]))
      refine own_go (XS.ifYes X46.here hx rfl (pc0 := 26) (pc' := 34) rfl (hb hby d3_26) rfl ((if0 _ _).trans (feq (by decide : ¬ ((1 : Int32) = (0 : Int32)))).2) (by decide) (by decide) (Steps.refl _)) ?_
      show own_Fin _ _ _ _ (T46.setTop (mkF m 34 #[.val (.ref a1), .val (.int (1 : Int32)), .val (.ref av), .val (.int (4 : Int32)), .val (.int (2 : Int32)), .val (.int b2)] []))
      refine own_go (XS.iconst X46.here hx rfl (hb hby d3_34) (Steps.refl _)) ?_
      show own_Fin _ _ _ _ (T46.setTop (mkF m 35 #[.val (.ref a1), .val (.int (1 : Int32)), .val (.ref av), .val (.int (4 : Int32)), .val (.int (2 : Int32)), .val (.int b2)] [(.int (1 : Int32))]))
      refine own_go (XS.goto X46.here hx rfl (pc0 := 35) (pc' := 39) rfl (hb hby d3_35) (by decide) (by decide) (Steps.refl _)) ?_
      show own_Fin _ _ _ _ (T46.setTop (mkF m 39 #[.val (.ref a1), .val (.int (1 : Int32)), .val (.ref av), .val (.int (4 : Int32)), .val (.int (2 : Int32)), .val (.int b2)] [(.int (1 : Int32))]))
      refine own_go (XS.istoreN X46.here hx rfl (hb hby d3_39) rfl (l' := #[.val (.ref a1), .val (.int (1 : Int32)), .val (.ref av), .val (.int (4 : Int32)), .val (.int (2 : Int32)), .val (.int b2)]) rfl (Steps.refl _)) ?_
      show own_Fin _ _ _ _ (T46.setTop (mkF m 40 #[.val (.ref a1), .val (.int (1 : Int32)), .val (.ref av), .val (.int (4 : Int32)), .val (.int (2 : Int32)), .val (.int b2)] []))
      refine own_go (XS.iinc X46.here hx rfl (hb hby d3_40) rfl (l' := #[.val (.ref a1), .val (.int (1 : Int32)), .val (.ref av), .val (.int (4 : Int32)), .val (.int (3 : Int32)), .val (.int b2)]) rfl (Steps.refl _)) ?_
      show own_Fin _ _ _ _ (T46.setTop (mkF m 43 #[.val (.ref a1), .val (.int (1 : Int32)), .val (.ref av), .val (.int (4 : Int32)), .val (.int (3 : Int32)), .val (.int b2)] []))
      refine own_go (XS.goto X46.here hx rfl (pc0 := 43) (pc' := 13) rfl (hb hby d3_43) (by decide) (by decide) (Steps.refl _)) ?_
      show own_Fin _ _ _ _ (T46.setTop (mkF m 13 #[.val (.ref a1), .val (.int (1 : Int32)), .val (.ref av), .val (.int (4 : Int32)), .val (.int (3 : Int32)), .val (.int b2)] []))
      refine own_go (XS.iload X46.here hx rfl (hb hby d3_13) rfl (Steps.refl _)) ?_
      show own_Fin _ _ _ _ (T46.setTop (mkF m 15 #[.val (.ref a1), .val (.int (1 : Int32)), .val (.ref av), .val (.int (4 : Int32)), .val (.int (3 : Int32)), .val (.int b2)] [(.int (3 : Int32))]))
      refine own_go (XS.iloadN X46.here hx rfl (hb hby d3_15) rfl (Steps.refl _)) ?_
      show own_Fin _ _ _ _ (T46.setTop (mkF m 16 #[.val (.ref a1), .val (.int (1 : Int32)), .val (.ref av), .val (.int (4 : Int32)), .val (.int (3 : Int32)), .val (.int b2)] [(.int (4 : Int32)), (.int (3 : Int32))]))
      refine own_go (XS.icmpNo X46.here hx rfl (hb hby d3_16) rfl (tlt (by decide : (3 : Int32) < (4 : Int32))).2.1 (Steps.refl _)) ?_
      show own_Fin _ _ _ _ (T46.setTop (mkF m 19 #[.val (.ref a1), .val (.int (1 : Int32)), .val (.ref av), .val (.int (4 : Int32)), .val (.int (3 : Int32)), .val (.int b2)] []))
      refine own_go (XS.aloadN X46.here hx rfl (hb hby d3_19) rfl rfl (Steps.refl _)) ?_
      show own_Fin _ _ _ _ (T46.setTop (mkF m 20 #[.val (.ref a1), .val (.int (1 : Int32)), .val (.ref av), .val (.int (4 : Int32)), .val (.int (3 : Int32)), .val (.int b2)] [(.ref av)]))
      refine own_go (XS.iload X46.here hx rfl (hb hby d3_20) rfl (Steps.refl _)) ?_
      show own_Fin _ _ _ _ (T46.setTop (mkF m 22 #[.val (.ref a1), .val (.int (1 : Int32)), .val (.ref av), .val (.int (4 : Int32)), .val (.int (3 : Int32)), .val (.int b2)] [(.int (3 : Int32)), (.ref av)]))
      obtain ⟨cl57, Ar57, qa57, Sa57, Na57, Ha57, Ga57⟩ := id V_av
      have hin57 : ¬ ((3 : Int32) < 0 ∨ cl57.slots.size ≤ ((3 : Int32)).toNatClampNeg) := inb_of Sa57 ⟨by decide, by decide⟩
      have hat57 : cl57.slots[((3 : Int32)).toNatClampNeg]? = some (.int b3) := Has.at Ha57 hin57 rfl
      refine own_by (X46.iaload hx (j := (3 : Int32)) (v := (.int b3)) (by rw [e46]; exact Ar57.1) (State.isArrayOf_alike hZ.alike Ar57.2.1) Ar57.2.2 hin57 hat57 (g := (mkF m 22 #[.val (.ref a1), .val (.int (1 : Int32)), .val (.ref av), .val (.int (4 : Int32)), .val (.int (3 : Int32)), .val (.int b2)] [(.int (3 : Int32)), (.ref av)])) rfl rfl (hb hby d3_22)) ?_
      show own_Fin _ _ _ _ (T46.setTop (mkF m 23 #[.val (.ref a1), .val (.int (1 : Int32)), .val (.ref av), .val (.int (4 : Int32)), .val (.int (3 : Int32)), .val (.int b2)] [(.int b3)]))
      refine own_go (XS.istore X46.here hx rfl (hb hby d3_23) rfl (l' := #[.val (.ref a1), .val (.int (1 : Int32)), .val (.ref av), .val (.int (4 : Int32)), .val (.int (3 : Int32)), .val (.int b3)]) rfl (Steps.refl _)) ?_
      show own_Fin _ _ _ _ (T46.setTop (mkF m 25 #[.val (.ref a1), .val (.int (1 : Int32)), .val (.ref av), .val (.int (4 : Int32)), .val (.int (3 : Int32)), .val (.int b3)] []))
      refine own_go (XS.iloadN X46.here hx rfl (hb hby d3_25) rfl (Steps.refl _)) ?_
      show own_Fin _ _ _ _ (T46.setTop (mkF m 26 #[.val (.ref a1), .val (.int (1 : Int32)), .val (.ref av), .val (.int (4 : Int32)), .val (.int (3 : Int32)), .val (.int b3)] [(.int (1 : Int32))]))
      refine own_go (XS.ifYes X46.here hx rfl (pc0 := 26) (pc' := 34) rfl (hb hby d3_26) rfl ((if0 _ _).trans (feq (by decide : ¬ ((1 : Int32) = (0 : Int32)))).2) (by decide) (by decide) (Steps.refl _)) ?_
      show own_Fin _ _ _ _ (T46.setTop (mkF m 34 #[.val (.ref a1), .val (.int (1 : Int32)), .val (.ref av), .val (.int (4 : Int32)), .val (.int (3 : Int32)), .val (.int b3)] []))
      refine own_go (XS.iconst X46.here hx rfl (hb hby d3_34) (Steps.refl _)) ?_
      show own_Fin _ _ _ _ (T46.setTop (mkF m 35 #[.val (.ref a1), .val (.int (1 : Int32)), .val (.ref av), .val (.int (4 : Int32)), .val (.int (3 : Int32)), .val (.int b3)] [(.int (1 : Int32))]))
      refine own_go (XS.goto X46.here hx rfl (pc0 := 35) (pc' := 39) rfl (hb hby d3_35) (by decide) (by decide) (Steps.refl _)) ?_
      show own_Fin _ _ _ _ (T46.setTop (mkF m 39 #[.val (.ref a1), .val (.int (1 : Int32)), .val (.ref av), .val (.int (4 : Int32)), .val (.int (3 : Int32)), .val (.int b3)] [(.int (1 : Int32))]))
      refine own_go (XS.istoreN X46.here hx rfl (hb hby d3_39) rfl (l' := #[.val (.ref a1), .val (.int (1 : Int32)), .val (.ref av), .val (.int (4 : Int32)), .val (.int (3 : Int32)), .val (.int b3)]) rfl (Steps.refl _)) ?_
      show own_Fin _ _ _ _ (T46.setTop (mkF m 40 #[.val (.ref a1), .val (.int (1 : Int32)), .val (.ref av), .val (.int (4 : Int32)), .val (.int (3 : Int32)), .val (.int b3)] []))
      refine own_go (XS.iinc X46.here hx rfl (hb hby d3_40) rfl (l' := #[.val (.ref a1), .val (.int (1 : Int32)), .val (.ref av), .val (.int (4 : Int32)), .val (.int (4 : Int32)), .val (.int b3)]) rfl (Steps.refl _)) ?_
      show own_Fin _ _ _ _ (T46.setTop (mkF m 43 #[.val (.ref a1), .val (.int (1 : Int32)), .val (.ref av), .val (.int (4 : Int32)), .val (.int (4 : Int32)), .val (.int b3)] []))
      refine own_go (XS.goto X46.here hx rfl (pc0 := 43) (pc' := 13) rfl (hb hby d3_43) (by decide) (by decide) (Steps.refl _)) ?_
      show own_Fin _ _ _ _ (T46.setTop (mkF m 13 #[.val (.ref a1), .val (.int (1 : Int32)), .val (.ref av), .val (.int (4 : Int32)), .val (.int (4 : Int32)), .val (.int b3)] []))
      refine own_go (XS.iload X46.here hx rfl (hb hby d3_13) rfl (Steps.refl _)) ?_
      show own_Fin _ _ _ _ (T46.setTop (mkF m 15 #[.val (.ref a1), .val (.int (1 : Int32)), .val (.ref av), .val (.int (4 : Int32)), .val (.int (4 : Int32)), .val (.int b3)] [(.int (4 : Int32))]))
      refine own_go (XS.iloadN X46.here hx rfl (hb hby d3_15) rfl (Steps.refl _)) ?_
      show own_Fin _ _ _ _ (T46.setTop (mkF m 16 #[.val (.ref a1), .val (.int (1 : Int32)), .val (.ref av), .val (.int (4 : Int32)), .val (.int (4 : Int32)), .val (.int b3)] [(.int (4 : Int32)), (.int (4 : Int32))]))
      refine own_go (XS.icmpYes X46.here hx rfl (pc0 := 16) (pc' := 46) rfl (hb hby d3_16) rfl (flt (by decide : ¬ ((4 : Int32) < (4 : Int32)))).2.1 (by decide) (by decide) (Steps.refl _)) ?_
      show own_Fin _ _ _ _ (T46.setTop (mkF m 46 #[.val (.ref a1), .val (.int (1 : Int32)), .val (.ref av), .val (.int (4 : Int32)), .val (.int (4 : Int32)), .val (.int b3)] []))
      refine own_go (XS.iloadN X46.here hx rfl (hb hby d3_46) rfl (Steps.refl _)) ?_
      show own_Fin _ _ _ _ (T46.setTop (mkF m 47 #[.val (.ref a1), .val (.int (1 : Int32)), .val (.ref av), .val (.int (4 : Int32)), .val (.int (4 : Int32)), .val (.int b3)] [(.int (1 : Int32))]))
      obtain ⟨fs58, hr58, hrun58, hended58, hW58, hsame58⟩ := X46.leave (v := some (.int (1 : Int32))) (fun h => by rw [Bd.returns] at h; cases h)
      refine own_done (retN X46 hx (t := .boolean) Bd.returns (by simp) (hb hby d3_47) hr58) hrun58 hended58 ⟨_, _, rfl, ?_, ⟨_, rfl⟩, hW58, hsame58.mono (by decide) (by decide)⟩
      show Q3_4 Z a1 av k b0 b1 b2 b3 h0 n0 _ T46.heap _
      rw [e46]
      exact ⟨by simp [c31_49, c31_55], N0, rfl⟩
    · refine own_go (XS.ifYes X46.here hx rfl (pc0 := 31) (pc' := 38) rfl (hb hby d3_31) rfl ((if0 _ _).trans (flt c31_55).2.1) (by decide) (by decide) (Steps.refl _)) ?_
      show own_Fin _ _ _ _ (T46.setTop (mkF m 38 #[.val (.ref a1), .val (.int (0 : Int32)), .val (.ref av), .val (.int (4 : Int32)), .val (.int (1 : Int32)), .val (.int b1)] []))
      refine own_go (XS.iconst X46.here hx rfl (hb hby d3_38) (Steps.refl _)) ?_
      show own_Fin _ _ _ _ (T46.setTop (mkF m 39 #[.val (.ref a1), .val (.int (0 : Int32)), .val (.ref av), .val (.int (4 : Int32)), .val (.int (1 : Int32)), .val (.int b1)] [(.int (0 : Int32))]))
      refine own_go (XS.istoreN X46.here hx rfl (hb hby d3_39) rfl (l' := #[.val (.ref a1), .val (.int (0 : Int32)), .val (.ref av), .val (.int (4 : Int32)), .val (.int (1 : Int32)), .val (.int b1)]) rfl (Steps.refl _)) ?_
      show own_Fin _ _ _ _ (T46.setTop (mkF m 40 #[.val (.ref a1), .val (.int (0 : Int32)), .val (.ref av), .val (.int (4 : Int32)), .val (.int (1 : Int32)), .val (.int b1)] []))
      refine own_go (XS.iinc X46.here hx rfl (hb hby d3_40) rfl (l' := #[.val (.ref a1), .val (.int (0 : Int32)), .val (.ref av), .val (.int (4 : Int32)), .val (.int (2 : Int32)), .val (.int b1)]) rfl (Steps.refl _)) ?_
      show own_Fin _ _ _ _ (T46.setTop (mkF m 43 #[.val (.ref a1), .val (.int (0 : Int32)), .val (.ref av), .val (.int (4 : Int32)), .val (.int (2 : Int32)), .val (.int b1)] []))
      refine own_go (XS.goto X46.here hx rfl (pc0 := 43) (pc' := 13) rfl (hb hby d3_43) (by decide) (by decide) (Steps.refl _)) ?_
      show own_Fin _ _ _ _ (T46.setTop (mkF m 13 #[.val (.ref a1), .val (.int (0 : Int32)), .val (.ref av), .val (.int (4 : Int32)), .val (.int (2 : Int32)), .val (.int b1)] []))
      refine own_go (XS.iload X46.here hx rfl (hb hby d3_13) rfl (Steps.refl _)) ?_
      show own_Fin _ _ _ _ (T46.setTop (mkF m 15 #[.val (.ref a1), .val (.int (0 : Int32)), .val (.ref av), .val (.int (4 : Int32)), .val (.int (2 : Int32)), .val (.int b1)] [(.int (2 : Int32))]))
      refine own_go (XS.iloadN X46.here hx rfl (hb hby d3_15) rfl (Steps.refl _)) ?_
      show own_Fin _ _ _ _ (T46.setTop (mkF m 16 #[.val (.ref a1), .val (.int (0 : Int32)), .val (.ref av), .val (.int (4 : Int32)), .val (.int (2 : Int32)), .val (.int b1)] [(.int (4 : Int32)), (.int (2 : Int32))]))
      refine own_go (XS.icmpNo X46.here hx rfl (hb hby d3_16) rfl (tlt (by decide : (2 : Int32) < (4 : Int32))).2.1 (Steps.refl _)) ?_
      show own_Fin _ _ _ _ (T46.setTop (mkF m 19 #[.val (.ref a1), .val (.int (0 : Int32)), .val (.ref av), .val (.int (4 : Int32)), .val (.int (2 : Int32)), .val (.int b1)] []))
      refine own_go (XS.aloadN X46.here hx rfl (hb hby d3_19) rfl rfl (Steps.refl _)) ?_
      show own_Fin _ _ _ _ (T46.setTop (mkF m 20 #[.val (.ref a1), .val (.int (0 : Int32)), .val (.ref av), .val (.int (4 : Int32)), .val (.int (2 : Int32)), .val (.int b1)] [(.ref av)]))
      refine own_go (XS.iload X46.here hx rfl (hb hby d3_20) rfl (Steps.refl _)) ?_
      show own_Fin _ _ _ _ (T46.setTop (mkF m 22 #[.val (.ref a1), .val (.int (0 : Int32)), .val (.ref av), .val (.int (4 : Int32)), .val (.int (2 : Int32)), .val (.int b1)] [(.int (2 : Int32)), (.ref av)]))
      obtain ⟨cl59, Ar59, qa59, Sa59, Na59, Ha59, Ga59⟩ := id V_av
      have hin59 : ¬ ((2 : Int32) < 0 ∨ cl59.slots.size ≤ ((2 : Int32)).toNatClampNeg) := inb_of Sa59 ⟨by decide, by decide⟩
      have hat59 : cl59.slots[((2 : Int32)).toNatClampNeg]? = some (.int b2) := Has.at Ha59 hin59 rfl
      refine own_by (X46.iaload hx (j := (2 : Int32)) (v := (.int b2)) (by rw [e46]; exact Ar59.1) (State.isArrayOf_alike hZ.alike Ar59.2.1) Ar59.2.2 hin59 hat59 (g := (mkF m 22 #[.val (.ref a1), .val (.int (0 : Int32)), .val (.ref av), .val (.int (4 : Int32)), .val (.int (2 : Int32)), .val (.int b1)] [(.int (2 : Int32)), (.ref av)])) rfl rfl (hb hby d3_22)) ?_
      show own_Fin _ _ _ _ (T46.setTop (mkF m 23 #[.val (.ref a1), .val (.int (0 : Int32)), .val (.ref av), .val (.int (4 : Int32)), .val (.int (2 : Int32)), .val (.int b1)] [(.int b2)]))
      refine own_go (XS.istore X46.here hx rfl (hb hby d3_23) rfl (l' := #[.val (.ref a1), .val (.int (0 : Int32)), .val (.ref av), .val (.int (4 : Int32)), .val (.int (2 : Int32)), .val (.int b2)]) rfl (Steps.refl _)) ?_
      show own_Fin _ _ _ _ (T46.setTop (mkF m 25 #[.val (.ref a1), .val (.int (0 : Int32)), .val (.ref av), .val (.int (4 : Int32)), .val (.int (2 : Int32)), .val (.int b2)] []))
      refine own_go (XS.iloadN X46.here hx rfl (hb hby d3_25) rfl (Steps.refl _)) ?_
      show own_Fin _ _ _ _ (T46.setTop (mkF m 26 #[.val (.ref a1), .val (.int (0 : Int32)), .val (.ref av), .val (.int (4 : Int32)), .val (.int (2 : Int32)), .val (.int b2)] [(.int (0 : Int32))]))
      refine own_go (XS.ifNo X46.here hx rfl (hb hby d3_26) rfl ((if0 _ _).trans (teq (by decide : (0 : Int32) = (0 : Int32))).2) (Steps.refl _)) ?_
      show own_Fin _ _ _ _ (T46.setTop (mkF m 29 #[.val (.ref a1), .val (.int (0 : Int32)), .val (.ref av), .val (.int (4 : Int32)), .val (.int (2 : Int32)), .val (.int b2)] []))
      refine own_go (XS.iload X46.here hx rfl (hb hby d3_29) rfl (Steps.refl _)) ?_
      show own_Fin _ _ _ _ (T46.setTop (mkF m 31 #[.val (.ref a1), .val (.int (0 : Int32)), .val (.ref av), .val (.int (4 : Int32)), .val (.int (2 : Int32)), .val (.int b2)] [(.int b2)]))
      by_cases c31_60 : b2 < (0 : Int32)
      · refine own_go (XS.ifNo X46.here hx rfl (hb hby d3_31) rfl ((if0 _ _).trans (tlt c31_60).2.1) (Steps.refl _)) ?_
        show own_Fin _ _ _ _ (T46.setTop (mkF m 34 #[.val (.ref a1), .val (.int (0 : Int32)), .val (.ref av), .val (.int (4 : Int32)), .val (.int (2 : Int32)), .val (.int b2)] []))
        refine own_go (XS.iconst X46.here hx rfl (hb hby d3_34) (Steps.refl _)) ?_
        show own_Fin _ _ _ _ (T46.setTop (mkF m 35 #[.val (.ref a1), .val (.int (0 : Int32)), .val (.ref av), .val (.int (4 : Int32)), .val (.int (2 : Int32)), .val (.int b2)] [(.int (1 : Int32))]))
        refine own_go (XS.goto X46.here hx rfl (pc0 := 35) (pc' := 39) rfl (hb hby d3_35) (by decide) (by decide) (Steps.refl _)) ?_
        show own_Fin _ _ _ _ (T46.setTop (mkF m 39 #[.val (.ref a1), .val (.int (0 : Int32)), .val (.ref av), .val (.int (4 : Int32)), .val (.int (2 : Int32)), .val (.int b2)] [(.int (1 : Int32))]))
        refine own_go (XS.istoreN X46.here hx rfl (hb hby d3_39) rfl (l' := #[.val (.ref a1), .val (.int (1 : Int32)), .val (.ref av), .val (.int (4 : Int32)), .val (.int (2 : Int32)), .val (.int b2)]) rfl (Steps.refl _)) ?_
        show own_Fin _ _ _ _ (T46.setTop (mkF m 40 #[.val (.ref a1), .val (.int (1 : Int32)), .val (.ref av), .val (.int (4 : Int32)), .val (.int (2 : Int32)), .val (.int b2)] []))
        refine own_go (XS.iinc X46.here hx rfl (hb hby d3_40) rfl (l' := #[.val (.ref a1), .val (.int (1 : Int32)), .val (.ref av), .val (.int (4 : Int32)), .val (.int (3 : Int32)), .val (.int b2)]) rfl (Steps.refl _)) ?_
        show own_Fin _ _ _ _ (T46.setTop (mkF m 43 #[.val (.ref a1), .val (.int (1 : Int32)), .val (.ref av), .val (.int (4 : Int32)), .val (.int (3 : Int32)), .val (.int b2)] []))
        refine own_go (XS.goto X46.here hx rfl (pc0 := 43) (pc' := 13) rfl (hb hby d3_43) (by decide) (by decide) (Steps.refl _)) ?_
        show own_Fin _ _ _ _ (T46.setTop (mkF m 13 #[.val (.ref a1), .val (.int (1 : Int32)), .val (.ref av), .val (.int (4 : Int32)), .val (.int (3 : Int32)), .val (.int b2)] []))
        refine own_go (XS.iload X46.here hx rfl (hb hby d3_13) rfl (Steps.refl _)) ?_
        show own_Fin _ _ _ _ (T46.setTop (mkF m 15 #[.val (.ref a1), .val (.int (1 : Int32)), .val (.ref av), .val (.int (4 : Int32)), .val (.int (3 : Int32)), .val (.int b2)] [(.int (3 : Int32))]))
        refine own_go (XS.iloadN X46.here hx rfl (hb hby d3_15) rfl (Steps.refl _)) ?_
        show own_Fin _ _ _ _ (T46.setTop (mkF m 16 #[.val (.ref a1), .val (.int (1 : Int32)), .val (.ref av), .val (.int (4 : Int32)), .val (.int (3 : Int32)), .val (.int b2)] [(.int (4 : Int32)), (.int (3 : Int32))]))
        refine own_go (XS.icmpNo X46.here hx rfl (hb hby d3_16) rfl (tlt (by decide : (3 : Int32) < (4 : Int32))).2.1 (Steps.refl _)) ?_
        show own_Fin _ _ _ _ (T46.setTop (mkF m 19 #[.val (.ref a1), .val (.int (1 : Int32)), .val (.ref av), .val (.int (4 : Int32)), .val (.int (3 : Int32)), .val (.int b2)] []))
        refine own_go (XS.aloadN X46.here hx rfl (hb hby d3_19) rfl rfl (Steps.refl _)) ?_
        show own_Fin _ _ _ _ (T46.setTop (mkF m 20 #[.val (.ref a1), .val (.int (1 : Int32)), .val (.ref av), .val (.int (4 : Int32)), .val (.int (3 : Int32)), .val (.int b2)] [(.ref av)]))
        refine own_go (XS.iload X46.here hx rfl (hb hby d3_20) rfl (Steps.refl _)) ?_
        show own_Fin _ _ _ _ (T46.setTop (mkF m 22 #[.val (.ref a1), .val (.int (1 : Int32)), .val (.ref av), .val (.int (4 : Int32)), .val (.int (3 : Int32)), .val (.int b2)] [(.int (3 : Int32)), (.ref av)]))
        obtain ⟨cl61, Ar61, qa61, Sa61, Na61, Ha61, Ga61⟩ := id V_av
        have hin61 : ¬ ((3 : Int32) < 0 ∨ cl61.slots.size ≤ ((3 : Int32)).toNatClampNeg) := inb_of Sa61 ⟨by decide, by decide⟩
        have hat61 : cl61.slots[((3 : Int32)).toNatClampNeg]? = some (.int b3) := Has.at Ha61 hin61 rfl
        refine own_by (X46.iaload hx (j := (3 : Int32)) (v := (.int b3)) (by rw [e46]; exact Ar61.1) (State.isArrayOf_alike hZ.alike Ar61.2.1) Ar61.2.2 hin61 hat61 (g := (mkF m 22 #[.val (.ref a1), .val (.int (1 : Int32)), .val (.ref av), .val (.int (4 : Int32)), .val (.int (3 : Int32)), .val (.int b2)] [(.int (3 : Int32)), (.ref av)])) rfl rfl (hb hby d3_22)) ?_
        show own_Fin _ _ _ _ (T46.setTop (mkF m 23 #[.val (.ref a1), .val (.int (1 : Int32)), .val (.ref av), .val (.int (4 : Int32)), .val (.int (3 : Int32)), .val (.int b2)] [(.int b3)]))
        refine own_go (XS.istore X46.here hx rfl (hb hby d3_23) rfl (l' := #[.val (.ref a1), .val (.int (1 : Int32)), .val (.ref av), .val (.int (4 : Int32)), .val (.int (3 : Int32)), .val (.int b3)]) rfl (Steps.refl _)) ?_
        show own_Fin _ _ _ _ (T46.setTop (mkF m 25 #[.val (.ref a1), .val (.int (1 : Int32)), .val (.ref av), .val (.int (4 : Int32)), .val (.int (3 : Int32)), .val (.int b3)] []))
        refine own_go (XS.iloadN X46.here hx rfl (hb hby d3_25) rfl (Steps.refl _)) ?_
        show own_Fin _ _ _ _ (T46.setTop (mkF m 26 #[.val (.ref a1), .val (.int (1 : Int32)), .val (.ref av), .val (.int (4 : Int32)), .val (.int (3 : Int32)), .val (.int b3)] [(.int (1 : Int32))]))
        refine own_go (XS.ifYes X46.here hx rfl (pc0 := 26) (pc' := 34) rfl (hb hby d3_26) rfl ((if0 _ _).trans (feq (by decide : ¬ ((1 : Int32) = (0 : Int32)))).2) (by decide) (by decide) (Steps.refl _)) ?_
        show own_Fin _ _ _ _ (T46.setTop (mkF m 34 #[.val (.ref a1), .val (.int (1 : Int32)), .val (.ref av), .val (.int (4 : Int32)), .val (.int (3 : Int32)), .val (.int b3)] []))
        refine own_go (XS.iconst X46.here hx rfl (hb hby d3_34) (Steps.refl _)) ?_
        show own_Fin _ _ _ _ (T46.setTop (mkF m 35 #[.val (.ref a1), .val (.int (1 : Int32)), .val (.ref av), .val (.int (4 : Int32)), .val (.int (3 : Int32)), .val (.int b3)] [(.int (1 : Int32))]))
        refine own_go (XS.goto X46.here hx rfl (pc0 := 35) (pc' := 39) rfl (hb hby d3_35) (by decide) (by decide) (Steps.refl _)) ?_
        show own_Fin _ _ _ _ (T46.setTop (mkF m 39 #[.val (.ref a1), .val (.int (1 : Int32)), .val (.ref av), .val (.int (4 : Int32)), .val (.int (3 : Int32)), .val (.int b3)] [(.int (1 : Int32))]))
        refine own_go (XS.istoreN X46.here hx rfl (hb hby d3_39) rfl (l' := #[.val (.ref a1), .val (.int (1 : Int32)), .val (.ref av), .val (.int (4 : Int32)), .val (.int (3 : Int32)), .val (.int b3)]) rfl (Steps.refl _)) ?_
        show own_Fin _ _ _ _ (T46.setTop (mkF m 40 #[.val (.ref a1), .val (.int (1 : Int32)), .val (.ref av), .val (.int (4 : Int32)), .val (.int (3 : Int32)), .val (.int b3)] []))
        refine own_go (XS.iinc X46.here hx rfl (hb hby d3_40) rfl (l' := #[.val (.ref a1), .val (.int (1 : Int32)), .val (.ref av), .val (.int (4 : Int32)), .val (.int (4 : Int32)), .val (.int b3)]) rfl (Steps.refl _)) ?_
        show own_Fin _ _ _ _ (T46.setTop (mkF m 43 #[.val (.ref a1), .val (.int (1 : Int32)), .val (.ref av), .val (.int (4 : Int32)), .val (.int (4 : Int32)), .val (.int b3)] []))
        refine own_go (XS.goto X46.here hx rfl (pc0 := 43) (pc' := 13) rfl (hb hby d3_43) (by decide) (by decide) (Steps.refl _)) ?_
        show own_Fin _ _ _ _ (T46.setTop (mkF m 13 #[.val (.ref a1), .val (.int (1 : Int32)), .val (.ref av), .val (.int (4 : Int32)), .val (.int (4 : Int32)), .val (.int b3)] []))
        refine own_go (XS.iload X46.here hx rfl (hb hby d3_13) rfl (Steps.refl _)) ?_
        show own_Fin _ _ _ _ (T46.setTop (mkF m 15 #[.val (.ref a1), .val (.int (1 : Int32)), .val (.ref av), .val (.int (4 : Int32)), .val (.int (4 : Int32)), .val (.int b3)] [(.int (4 : Int32))]))
        refine own_go (XS.iloadN X46.here hx rfl (hb hby d3_15) rfl (Steps.refl _)) ?_
        show own_Fin _ _ _ _ (T46.setTop (mkF m 16 #[.val (.ref a1), .val (.int (1 : Int32)), .val (.ref av), .val (.int (4 : Int32)), .val (.int (4 : Int32)), .val (.int b3)] [(.int (4 : Int32)), (.int (4 : Int32))]))
        refine own_go (XS.icmpYes X46.here hx rfl (pc0 := 16) (pc' := 46) rfl (hb hby d3_16) rfl (flt (by decide : ¬ ((4 : Int32) < (4 : Int32)))).2.1 (by decide) (by decide) (Steps.refl _)) ?_
        show own_Fin _ _ _ _ (T46.setTop (mkF m 46 #[.val (.ref a1), .val (.int (1 : Int32)), .val (.ref av), .val (.int (4 : Int32)), .val (.int (4 : Int32)), .val (.int b3)] []))
        refine own_go (XS.iloadN X46.here hx rfl (hb hby d3_46) rfl (Steps.refl _)) ?_
        show own_Fin _ _ _ _ (T46.setTop (mkF m 47 #[.val (.ref a1), .val (.int (1 : Int32)), .val (.ref av), .val (.int (4 : Int32)), .val (.int (4 : Int32)), .val (.int b3)] [(.int (1 : Int32))]))
        obtain ⟨fs62, hr62, hrun62, hended62, hW62, hsame62⟩ := X46.leave (v := some (.int (1 : Int32))) (fun h => by rw [Bd.returns] at h; cases h)
        refine own_done (retN X46 hx (t := .boolean) Bd.returns (by simp) (hb hby d3_47) hr62) hrun62 hended62 ⟨_, _, rfl, ?_, ⟨_, rfl⟩, hW62, hsame62.mono (by decide) (by decide)⟩
        show Q3_4 Z a1 av k b0 b1 b2 b3 h0 n0 _ T46.heap _
        rw [e46]
        exact ⟨by simp [c31_49, c31_55, c31_60], N0, rfl⟩
      · refine own_go (XS.ifYes X46.here hx rfl (pc0 := 31) (pc' := 38) rfl (hb hby d3_31) rfl ((if0 _ _).trans (flt c31_60).2.1) (by decide) (by decide) (Steps.refl _)) ?_
        show own_Fin _ _ _ _ (T46.setTop (mkF m 38 #[.val (.ref a1), .val (.int (0 : Int32)), .val (.ref av), .val (.int (4 : Int32)), .val (.int (2 : Int32)), .val (.int b2)] []))
        refine own_go (XS.iconst X46.here hx rfl (hb hby d3_38) (Steps.refl _)) ?_
        show own_Fin _ _ _ _ (T46.setTop (mkF m 39 #[.val (.ref a1), .val (.int (0 : Int32)), .val (.ref av), .val (.int (4 : Int32)), .val (.int (2 : Int32)), .val (.int b2)] [(.int (0 : Int32))]))
        refine own_go (XS.istoreN X46.here hx rfl (hb hby d3_39) rfl (l' := #[.val (.ref a1), .val (.int (0 : Int32)), .val (.ref av), .val (.int (4 : Int32)), .val (.int (2 : Int32)), .val (.int b2)]) rfl (Steps.refl _)) ?_
        show own_Fin _ _ _ _ (T46.setTop (mkF m 40 #[.val (.ref a1), .val (.int (0 : Int32)), .val (.ref av), .val (.int (4 : Int32)), .val (.int (2 : Int32)), .val (.int b2)] []))
        refine own_go (XS.iinc X46.here hx rfl (hb hby d3_40) rfl (l' := #[.val (.ref a1), .val (.int (0 : Int32)), .val (.ref av), .val (.int (4 : Int32)), .val (.int (3 : Int32)), .val (.int b2)]) rfl (Steps.refl _)) ?_
        show own_Fin _ _ _ _ (T46.setTop (mkF m 43 #[.val (.ref a1), .val (.int (0 : Int32)), .val (.ref av), .val (.int (4 : Int32)), .val (.int (3 : Int32)), .val (.int b2)] []))
        refine own_go (XS.goto X46.here hx rfl (pc0 := 43) (pc' := 13) rfl (hb hby d3_43) (by decide) (by decide) (Steps.refl _)) ?_
        show own_Fin _ _ _ _ (T46.setTop (mkF m 13 #[.val (.ref a1), .val (.int (0 : Int32)), .val (.ref av), .val (.int (4 : Int32)), .val (.int (3 : Int32)), .val (.int b2)] []))
        refine own_go (XS.iload X46.here hx rfl (hb hby d3_13) rfl (Steps.refl _)) ?_
        show own_Fin _ _ _ _ (T46.setTop (mkF m 15 #[.val (.ref a1), .val (.int (0 : Int32)), .val (.ref av), .val (.int (4 : Int32)), .val (.int (3 : Int32)), .val (.int b2)] [(.int (3 : Int32))]))
        refine own_go (XS.iloadN X46.here hx rfl (hb hby d3_15) rfl (Steps.refl _)) ?_
        show own_Fin _ _ _ _ (T46.setTop (mkF m 16 #[.val (.ref a1), .val (.int (0 : Int32)), .val (.ref av), .val (.int (4 : Int32)), .val (.int (3 : Int32)), .val (.int b2)] [(.int (4 : Int32)), (.int (3 : Int32))]))
        refine own_go (XS.icmpNo X46.here hx rfl (hb hby d3_16) rfl (tlt (by decide : (3 : Int32) < (4 : Int32))).2.1 (Steps.refl _)) ?_
        show own_Fin _ _ _ _ (T46.setTop (mkF m 19 #[.val (.ref a1), .val (.int (0 : Int32)), .val (.ref av), .val (.int (4 : Int32)), .val (.int (3 : Int32)), .val (.int b2)] []))
        refine own_go (XS.aloadN X46.here hx rfl (hb hby d3_19) rfl rfl (Steps.refl _)) ?_
        show own_Fin _ _ _ _ (T46.setTop (mkF m 20 #[.val (.ref a1), .val (.int (0 : Int32)), .val (.ref av), .val (.int (4 : Int32)), .val (.int (3 : Int32)), .val (.int b2)] [(.ref av)]))
        refine own_go (XS.iload X46.here hx rfl (hb hby d3_20) rfl (Steps.refl _)) ?_
        show own_Fin _ _ _ _ (T46.setTop (mkF m 22 #[.val (.ref a1), .val (.int (0 : Int32)), .val (.ref av), .val (.int (4 : Int32)), .val (.int (3 : Int32)), .val (.int b2)] [(.int (3 : Int32)), (.ref av)]))
        obtain ⟨cl63, Ar63, qa63, Sa63, Na63, Ha63, Ga63⟩ := id V_av
        have hin63 : ¬ ((3 : Int32) < 0 ∨ cl63.slots.size ≤ ((3 : Int32)).toNatClampNeg) := inb_of Sa63 ⟨by decide, by decide⟩
        have hat63 : cl63.slots[((3 : Int32)).toNatClampNeg]? = some (.int b3) := Has.at Ha63 hin63 rfl
        refine own_by (X46.iaload hx (j := (3 : Int32)) (v := (.int b3)) (by rw [e46]; exact Ar63.1) (State.isArrayOf_alike hZ.alike Ar63.2.1) Ar63.2.2 hin63 hat63 (g := (mkF m 22 #[.val (.ref a1), .val (.int (0 : Int32)), .val (.ref av), .val (.int (4 : Int32)), .val (.int (3 : Int32)), .val (.int b2)] [(.int (3 : Int32)), (.ref av)])) rfl rfl (hb hby d3_22)) ?_
        show own_Fin _ _ _ _ (T46.setTop (mkF m 23 #[.val (.ref a1), .val (.int (0 : Int32)), .val (.ref av), .val (.int (4 : Int32)), .val (.int (3 : Int32)), .val (.int b2)] [(.int b3)]))
        refine own_go (XS.istore X46.here hx rfl (hb hby d3_23) rfl (l' := #[.val (.ref a1), .val (.int (0 : Int32)), .val (.ref av), .val (.int (4 : Int32)), .val (.int (3 : Int32)), .val (.int b3)]) rfl (Steps.refl _)) ?_
        show own_Fin _ _ _ _ (T46.setTop (mkF m 25 #[.val (.ref a1), .val (.int (0 : Int32)), .val (.ref av), .val (.int (4 : Int32)), .val (.int (3 : Int32)), .val (.int b3)] []))
        refine own_go (XS.iloadN X46.here hx rfl (hb hby d3_25) rfl (Steps.refl _)) ?_
        show own_Fin _ _ _ _ (T46.setTop (mkF m 26 #[.val (.ref a1), .val (.int (0 : Int32)), .val (.ref av), .val (.int (4 : Int32)), .val (.int (3 : Int32)), .val (.int b3)] [(.int (0 : Int32))]))
        refine own_go (XS.ifNo X46.here hx rfl (hb hby d3_26) rfl ((if0 _ _).trans (teq (by decide : (0 : Int32) = (0 : Int32))).2) (Steps.refl _)) ?_
        show own_Fin _ _ _ _ (T46.setTop (mkF m 29 #[.val (.ref a1), .val (.int (0 : Int32)), .val (.ref av), .val (.int (4 : Int32)), .val (.int (3 : Int32)), .val (.int b3)] []))
        refine own_go (XS.iload X46.here hx rfl (hb hby d3_29) rfl (Steps.refl _)) ?_
        show own_Fin _ _ _ _ (T46.setTop (mkF m 31 #[.val (.ref a1), .val (.int (0 : Int32)), .val (.ref av), .val (.int (4 : Int32)), .val (.int (3 : Int32)), .val (.int b3)] [(.int b3)]))
        by_cases c31_64 : b3 < (0 : Int32)
        · refine own_go (XS.ifNo X46.here hx rfl (hb hby d3_31) rfl ((if0 _ _).trans (tlt c31_64).2.1) (Steps.refl _)) ?_
          show own_Fin _ _ _ _ (T46.setTop (mkF m 34 #[.val (.ref a1), .val (.int (0 : Int32)), .val (.ref av), .val (.int (4 : Int32)), .val (.int (3 : Int32)), .val (.int b3)] []))
          refine own_go (XS.iconst X46.here hx rfl (hb hby d3_34) (Steps.refl _)) ?_
          show own_Fin _ _ _ _ (T46.setTop (mkF m 35 #[.val (.ref a1), .val (.int (0 : Int32)), .val (.ref av), .val (.int (4 : Int32)), .val (.int (3 : Int32)), .val (.int b3)] [(.int (1 : Int32))]))
          refine own_go (XS.goto X46.here hx rfl (pc0 := 35) (pc' := 39) rfl (hb hby d3_35) (by decide) (by decide) (Steps.refl _)) ?_
          show own_Fin _ _ _ _ (T46.setTop (mkF m 39 #[.val (.ref a1), .val (.int (0 : Int32)), .val (.ref av), .val (.int (4 : Int32)), .val (.int (3 : Int32)), .val (.int b3)] [(.int (1 : Int32))]))
          refine own_go (XS.istoreN X46.here hx rfl (hb hby d3_39) rfl (l' := #[.val (.ref a1), .val (.int (1 : Int32)), .val (.ref av), .val (.int (4 : Int32)), .val (.int (3 : Int32)), .val (.int b3)]) rfl (Steps.refl _)) ?_
          show own_Fin _ _ _ _ (T46.setTop (mkF m 40 #[.val (.ref a1), .val (.int (1 : Int32)), .val (.ref av), .val (.int (4 : Int32)), .val (.int (3 : Int32)), .val (.int b3)] []))
          refine own_go (XS.iinc X46.here hx rfl (hb hby d3_40) rfl (l' := #[.val (.ref a1), .val (.int (1 : Int32)), .val (.ref av), .val (.int (4 : Int32)), .val (.int (4 : Int32)), .val (.int b3)]) rfl (Steps.refl _)) ?_
          show own_Fin _ _ _ _ (T46.setTop (mkF m 43 #[.val (.ref a1), .val (.int (1 : Int32)), .val (.ref av), .val (.int (4 : Int32)), .val (.int (4 : Int32)), .val (.int b3)] []))
          refine own_go (XS.goto X46.here hx rfl (pc0 := 43) (pc' := 13) rfl (hb hby d3_43) (by decide) (by decide) (Steps.refl _)) ?_
          show own_Fin _ _ _ _ (T46.setTop (mkF m 13 #[.val (.ref a1), .val (.int (1 : Int32)), .val (.ref av), .val (.int (4 : Int32)), .val (.int (4 : Int32)), .val (.int b3)] []))
          refine own_go (XS.iload X46.here hx rfl (hb hby d3_13) rfl (Steps.refl _)) ?_
          show own_Fin _ _ _ _ (T46.setTop (mkF m 15 #[.val (.ref a1), .val (.int (1 : Int32)), .val (.ref av), .val (.int (4 : Int32)), .val (.int (4 : Int32)), .val (.int b3)] [(.int (4 : Int32))]))
          refine own_go (XS.iloadN X46.here hx rfl (hb hby d3_15) rfl (Steps.refl _)) ?_
          show own_Fin _ _ _ _ (T46.setTop (mkF m 16 #[.val (.ref a1), .val (.int (1 : Int32)), .val (.ref av), .val (.int (4 : Int32)), .val (.int (4 : Int32)), .val (.int b3)] [(.int (4 : Int32)), (.int (4 : Int32))]))
          refine own_go (XS.icmpYes X46.here hx rfl (pc0 := 16) (pc' := 46) rfl (hb hby d3_16) rfl (flt (by decide : ¬ ((4 : Int32) < (4 : Int32)))).2.1 (by decide) (by decide) (Steps.refl _)) ?_
          show own_Fin _ _ _ _ (T46.setTop (mkF m 46 #[.val (.ref a1), .val (.int (1 : Int32)), .val (.ref av), .val (.int (4 : Int32)), .val (.int (4 : Int32)), .val (.int b3)] []))
          refine own_go (XS.iloadN X46.here hx rfl (hb hby d3_46) rfl (Steps.refl _)) ?_
          show own_Fin _ _ _ _ (T46.setTop (mkF m 47 #[.val (.ref a1), .val (.int (1 : Int32)), .val (.ref av), .val (.int (4 : Int32)), .val (.int (4 : Int32)), .val (.int b3)] [(.int (1 : Int32))]))
          obtain ⟨fs65, hr65, hrun65, hended65, hW65, hsame65⟩ := X46.leave (v := some (.int (1 : Int32))) (fun h => by rw [Bd.returns] at h; cases h)
          refine own_done (retN X46 hx (t := .boolean) Bd.returns (by simp) (hb hby d3_47) hr65) hrun65 hended65 ⟨_, _, rfl, ?_, ⟨_, rfl⟩, hW65, hsame65.mono (by decide) (by decide)⟩
          show Q3_4 Z a1 av k b0 b1 b2 b3 h0 n0 _ T46.heap _
          rw [e46]
          exact ⟨by simp [c31_49, c31_55, c31_60, c31_64], N0, rfl⟩
        · refine own_go (XS.ifYes X46.here hx rfl (pc0 := 31) (pc' := 38) rfl (hb hby d3_31) rfl ((if0 _ _).trans (flt c31_64).2.1) (by decide) (by decide) (Steps.refl _)) ?_
          show own_Fin _ _ _ _ (T46.setTop (mkF m 38 #[.val (.ref a1), .val (.int (0 : Int32)), .val (.ref av), .val (.int (4 : Int32)), .val (.int (3 : Int32)), .val (.int b3)] []))
          refine own_go (XS.iconst X46.here hx rfl (hb hby d3_38) (Steps.refl _)) ?_
          show own_Fin _ _ _ _ (T46.setTop (mkF m 39 #[.val (.ref a1), .val (.int (0 : Int32)), .val (.ref av), .val (.int (4 : Int32)), .val (.int (3 : Int32)), .val (.int b3)] [(.int (0 : Int32))]))
          refine own_go (XS.istoreN X46.here hx rfl (hb hby d3_39) rfl (l' := #[.val (.ref a1), .val (.int (0 : Int32)), .val (.ref av), .val (.int (4 : Int32)), .val (.int (3 : Int32)), .val (.int b3)]) rfl (Steps.refl _)) ?_
          show own_Fin _ _ _ _ (T46.setTop (mkF m 40 #[.val (.ref a1), .val (.int (0 : Int32)), .val (.ref av), .val (.int (4 : Int32)), .val (.int (3 : Int32)), .val (.int b3)] []))
          refine own_go (XS.iinc X46.here hx rfl (hb hby d3_40) rfl (l' := #[.val (.ref a1), .val (.int (0 : Int32)), .val (.ref av), .val (.int (4 : Int32)), .val (.int (4 : Int32)), .val (.int b3)]) rfl (Steps.refl _)) ?_
          show own_Fin _ _ _ _ (T46.setTop (mkF m 43 #[.val (.ref a1), .val (.int (0 : Int32)), .val (.ref av), .val (.int (4 : Int32)), .val (.int (4 : Int32)), .val (.int b3)] []))
          refine own_go (XS.goto X46.here hx rfl (pc0 := 43) (pc' := 13) rfl (hb hby d3_43) (by decide) (by decide) (Steps.refl _)) ?_
          show own_Fin _ _ _ _ (T46.setTop (mkF m 13 #[.val (.ref a1), .val (.int (0 : Int32)), .val (.ref av), .val (.int (4 : Int32)), .val (.int (4 : Int32)), .val (.int b3)] []))
          refine own_go (XS.iload X46.here hx rfl (hb hby d3_13) rfl (Steps.refl _)) ?_
          show own_Fin _ _ _ _ (T46.setTop (mkF m 15 #[.val (.ref a1), .val (.int (0 : Int32)), .val (.ref av), .val (.int (4 : Int32)), .val (.int (4 : Int32)), .val (.int b3)] [(.int (4 : Int32))]))
          refine own_go (XS.iloadN X46.here hx rfl (hb hby d3_15) rfl (Steps.refl _)) ?_
          show own_Fin _ _ _ _ (T46.setTop (mkF m 16 #[.val (.ref a1), .val (.int (0 : Int32)), .val (.ref av), .val (.int (4 : Int32)), .val (.int (4 : Int32)), .val (.int b3)] [(.int (4 : Int32)), (.int (4 : Int32))]))
          refine own_go (XS.icmpYes X46.here hx rfl (pc0 := 16) (pc' := 46) rfl (hb hby d3_16) rfl (flt (by decide : ¬ ((4 : Int32) < (4 : Int32)))).2.1 (by decide) (by decide) (Steps.refl _)) ?_
          show own_Fin _ _ _ _ (T46.setTop (mkF m 46 #[.val (.ref a1), .val (.int (0 : Int32)), .val (.ref av), .val (.int (4 : Int32)), .val (.int (4 : Int32)), .val (.int b3)] []))
          refine own_go (XS.iloadN X46.here hx rfl (hb hby d3_46) rfl (Steps.refl _)) ?_
          show own_Fin _ _ _ _ (T46.setTop (mkF m 47 #[.val (.ref a1), .val (.int (0 : Int32)), .val (.ref av), .val (.int (4 : Int32)), .val (.int (4 : Int32)), .val (.int b3)] [(.int (0 : Int32))]))
          obtain ⟨fs66, hr66, hrun66, hended66, hW66, hsame66⟩ := X46.leave (v := some (.int (0 : Int32))) (fun h => by rw [Bd.returns] at h; cases h)
          refine own_done (retN X46 hx (t := .boolean) Bd.returns (by simp) (hb hby d3_47) hr66) hrun66 hended66 ⟨_, _, rfl, ?_, ⟨_, rfl⟩, hW66, hsame66.mono (by decide) (by decide)⟩
          show Q3_4 Z a1 av k b0 b1 b2 b3 h0 n0 _ T46.heap _
          rw [e46]
          exact ⟨by simp [c31_49, c31_55, c31_60, c31_64], N0, rfl⟩
theorem ef_0 (m : MethodId) (x0 : Int32) (x1 : Int32) (x2 : Int32) (x3 : Int32) (x4 : Int32) : entryFrame m #[(.int x0), (.int x1), (.int x2), (.int x3), (.int x4)] maxLocals = mkF m 0 #[.val (.int x0), .val (.int x1), .val (.int x2), .val (.int x3), .val (.int x4), .unset, .unset, .unset, .unset, .unset] [] := by first | (simp [entryFrame, mkF, argsToLocals, Value.category, maxLocals]; done) | rfl
def Q0 (Z : State) (p1 : Int32) (p2 : Int32) (p3 : Int32) (p4 : Int32) (p5 : Int32) (h0 : Heap) (n0 : Nat) (v : Option Value) (h : Heap) (L : List Loc) : Prop := v = some (.int 1) ∧ Fr n0 L
abbrev G0 (Z : State) (p1 : Int32) (p2 : Int32) (p3 : Int32) (p4 : Int32) (p5 : Int32) (h0 : Heap) (n0 : Nat) (s : State) : Outcome → State → Prop := fun o U' => ∃ v L, o = .returned v ∧ Q0 Z p1 p2 p3 p4 p5 h0 n0 v U'.heap L ∧ FrameEnd s o U' L 24 128
theorem pd__28__5b_I_5b_I_29_V : parseMethodDescriptor "([I[I)V" = some ⟨[(.array .int), (.array .int)], none⟩ := by decide +kernel
theorem pd__28__29_Z : parseMethodDescriptor "()Z" = some ⟨[], some .boolean⟩ := by decide +kernel
theorem pd__28_I_29_I : parseMethodDescriptor "(I)I" = some ⟨[.int], some .int⟩ := by decide +kernel
set_option maxRecDepth 65536 in
set_option maxHeartbeats 40000000 in
theorem rm0 (l : Launch) (Z : State) (a0 : Array Value) (hw : ∀ d ∈ tables_1, d.before a0 Z = true) (ws : List Jvm.Cond) (p1 : Int32) (p2 : Int32) (p3 : Int32) (p4 : Int32) (p5 : Int32) (h0 : Heap) (n0 : Nat) (Z0 : n0 ≤ h0.size)  :
    MetFree l x (head1 (Jvm.Cond.code x code maxLocals ret :: ws) room_1) (fun a U => a = #[(.int p1), (.int p2), (.int p3), (.int p4), (.int p5)] ∧ Z.Warmed39 U.vm ∧ U.heap = h0) (fun _ _ _ _ _ => True) (fun _ U o U' => ∃ v L, o = .returned v ∧ Q0 Z p1 p2 p3 p4 p5 h0 n0 v U'.heap L ∧ FrameEnd U o U' L 24 128) := by
  refine MetFree.of_bodySF (plainFor_of_name pn_com_example_nosto_nosto_ArgumentsNamesConstantPinLaw) hisR ?_
  intro p e s m args below meth c s₁ Bd hml0 hP hK
  obtain ⟨rfl, hZ, hh⟩ := hP
  have hx := Bd.exec
  have hby := Bd.bytes
  have hml : c.maxLocals = 10 := hml0
  have hown : s.vm.findClass "com/example/nosto/nosto/ArgumentsNamesConstantPinLaw" = some m.cls := findClass_of_methodNamed Bd.named
  have hnm := (name_of_methodNamed Bd.named Bd.method).1
  have X0 : Stand p l e room_1 s m #[(.int p1), (.int p2), (.int p3), (.int p4), (.int p5)] below meth c s₁ [] 0 0 := Stand.of_body Bd
  have e0 : s₁.heap = h0 := by rw [← hh, Bd.state]; rfl
  have es0 : s.heap = h0 := hh
  have N0 := Fr.nil n0
  show own_Fin p e below (G0 Z p1 p2 p3 p4 p5 h0 n0 s) (s₁.setTop (entryFrame m #[(.int p1), (.int p2), (.int p3), (.int p4), (.int p5)] maxLocals))
  rw [ef_0 m p1 p2 p3 p4 p5]
  refine own_go (XS.iloadN X0.here hx rfl (hb hby at_0) rfl (Steps.refl _)) ?_
  show own_Fin _ _ _ _ (s₁.setTop (mkF m 1 #[.val (.int p1), .val (.int p2), .val (.int p3), .val (.int p4), .val (.int p5), .unset, .unset, .unset, .unset, .unset] [(.int p1)]))
  refine own_by (X0.ldcInt hx hown (mvT hZ (hw _ (List.mem_of_getElem? (i := 0) rfl))) (g := (mkF m 1 #[.val (.int p1), .val (.int p2), .val (.int p3), .val (.int p4), .val (.int p5), .unset, .unset, .unset, .unset, .unset] [(.int p1)])) rfl (hb hby at_1)) ?_
  show own_Fin _ _ _ _ (s₁.setTop (mkF m 3 #[.val (.int p1), .val (.int p2), .val (.int p3), .val (.int p4), .val (.int p5), .unset, .unset, .unset, .unset, .unset] [(.int (2147483647 : Int32)), (.int p1)]))
  refine own_go (XS.iand X0.here hx rfl (hb hby at_3) rfl (Steps.refl _)) ?_
  show own_Fin _ _ _ _ (s₁.setTop (mkF m 4 #[.val (.int p1), .val (.int p2), .val (.int p3), .val (.int p4), .val (.int p5), .unset, .unset, .unset, .unset, .unset] [(.int (p1 &&& (2147483647 : Int32)))]))
  refine own_go (XS.iconst X0.here hx rfl (hb hby at_4) (Steps.refl _)) ?_
  show own_Fin _ _ _ _ (s₁.setTop (mkF m 5 #[.val (.int p1), .val (.int p2), .val (.int p3), .val (.int p4), .val (.int p5), .unset, .unset, .unset, .unset, .unset] [(.int (5 : Int32)), (.int (p1 &&& (2147483647 : Int32)))]))
  refine own_go (iremM X0 hx rfl (hb hby at_5) rfl (by decide) (Steps.refl _)) ?_
  show own_Fin _ _ _ _ (s₁.setTop (mkF m 6 #[.val (.int p1), .val (.int p2), .val (.int p3), .val (.int p4), .val (.int p5), .unset, .unset, .unset, .unset, .unset] [(.int ((p1 &&& (2147483647 : Int32)) % (5 : Int32)))]))
  refine own_go (XS.istore X0.here hx rfl (hb hby at_6) rfl (l' := #[.val (.int p1), .val (.int p2), .val (.int p3), .val (.int p4), .val (.int p5), .val (.int ((p1 &&& (2147483647 : Int32)) % (5 : Int32))), .unset, .unset, .unset, .unset]) rfl (Steps.refl _)) ?_
  show own_Fin _ _ _ _ (s₁.setTop (mkF m 8 #[.val (.int p1), .val (.int p2), .val (.int p3), .val (.int p4), .val (.int p5), .val (.int ((p1 &&& (2147483647 : Int32)) % (5 : Int32))), .unset, .unset, .unset, .unset] []))
  generalize hz_v5_67 : ((p1 &&& (2147483647 : Int32)) % (5 : Int32)) = v5_67
  have hcs68 : v5_67 = (0 : Int32) ∨ v5_67 = (1 : Int32) ∨ v5_67 = (2 : Int32) ∨ v5_67 = (3 : Int32) ∨ v5_67 = (4 : Int32) := hz_v5_67 ▸ own_n5 p1
  rcases hcs68 with rfl | rfl | rfl | rfl | rfl
  · show own_Fin _ _ _ _ (s₁.setTop (mkF m 8 #[.val (.int p1), .val (.int p2), .val (.int p3), .val (.int p4), .val (.int p5), .val (.int (0 : Int32)), .unset, .unset, .unset, .unset] []))
    refine own_go (XS.iload X0.here hx rfl (hb hby at_8) rfl (Steps.refl _)) ?_
    show own_Fin _ _ _ _ (s₁.setTop (mkF m 10 #[.val (.int p1), .val (.int p2), .val (.int p3), .val (.int p4), .val (.int p5), .val (.int (0 : Int32)), .unset, .unset, .unset, .unset] [(.int (0 : Int32))]))
    obtain ⟨T69, h69, k69, X69, e69, E69, A69, B69, st69⟩ := newPE X0 hx hZ (hw _ (List.mem_of_getElem? (i := 1) rfl)) e0 (g := (mkF m 10 #[.val (.int p1), .val (.int p2), .val (.int p3), .val (.int p4), .val (.int p5), .val (.int (0 : Int32)), .unset, .unset, .unset, .unset] [(.int (0 : Int32))])) rfl (hb hby at_10) rfl (by decide) (cap := 0) (by decide) (by decide) (by decide) (by decide) (ad := "[I") (by decide)
    obtain ⟨b69, g69⟩ : ∃ z, z = h0.size := ⟨_, rfl⟩
    rw [← g69] at A69 B69 st69
    refine own_by st69 ?_
    have g_b69 : n0 ≤ b69 := Nat.le_trans Z0 (Nat.le_of_eq g69.symm)
    have Z69 : n0 ≤ h69.size := Nat.le_trans Z0 E69.1
    have V_b69 : Arv Z h69 b69 k69 .int (0 : Int32) [] (.int (0 : Int32)) := (Arv.new A69 (by decide)).pad (pad_rep [] (.int (0 : Int32)) 0)
    have E_b69 := B69
    show own_Fin _ _ _ _ (T69.setTop (mkF m 12 #[.val (.int p1), .val (.int p2), .val (.int p3), .val (.int p4), .val (.int p5), .val (.int (0 : Int32)), .unset, .unset, .unset, .unset] [(.ref b69)]))
    refine own_go (XS.astore X69.here hx rfl (hb hby at_12) rfl rfl (l' := #[.val (.int p1), .val (.int p2), .val (.int p3), .val (.int p4), .val (.int p5), .val (.int (0 : Int32)), .val (.ref b69), .unset, .unset, .unset]) rfl (Steps.refl _)) ?_
    show own_Fin _ _ _ _ (T69.setTop (mkF m 14 #[.val (.int p1), .val (.int p2), .val (.int p3), .val (.int p4), .val (.int p5), .val (.int (0 : Int32)), .val (.ref b69), .unset, .unset, .unset] []))
    refine own_go (XS.iload X69.here hx rfl (hb hby at_14) rfl (Steps.refl _)) ?_
    show own_Fin _ _ _ _ (T69.setTop (mkF m 16 #[.val (.int p1), .val (.int p2), .val (.int p3), .val (.int p4), .val (.int p5), .val (.int (0 : Int32)), .val (.ref b69), .unset, .unset, .unset] [(.int (0 : Int32))]))
    obtain ⟨T70, h70, k70, X70, e70, E70, A70, B70, st70⟩ := newPE X69 hx hZ (hw _ (List.mem_of_getElem? (i := 1) rfl)) e69 (g := (mkF m 16 #[.val (.int p1), .val (.int p2), .val (.int p3), .val (.int p4), .val (.int p5), .val (.int (0 : Int32)), .val (.ref b69), .unset, .unset, .unset] [(.int (0 : Int32))])) rfl (hb hby at_16) rfl (by decide) (cap := 0) (by decide) (by decide) (by decide) (by decide) (ad := "[I") (by decide)
    obtain ⟨b70, g70⟩ : ∃ z, z = h69.size := ⟨_, rfl⟩
    rw [← g70] at A70 B70 st70
    refine own_by st70 ?_
    have ne_b69_b70 : b69 ≠ b70 := Nat.ne_of_lt (Nat.lt_of_lt_of_eq V_b69.lt g70.symm)
    have V_b69_70 := V_b69.ext E70
    have E_b69_70 := E_b69.ext E70
    have g_b70 : n0 ≤ b70 := Nat.le_trans Z69 (Nat.le_of_eq g70.symm)
    have Z70 : n0 ≤ h70.size := Nat.le_trans Z69 E70.1
    have V_b70 : Arv Z h70 b70 k70 .int (0 : Int32) [] (.int (0 : Int32)) := (Arv.new A70 (by decide)).pad (pad_rep [] (.int (0 : Int32)) 0)
    have E_b70 := B70
    show own_Fin _ _ _ _ (T70.setTop (mkF m 18 #[.val (.int p1), .val (.int p2), .val (.int p3), .val (.int p4), .val (.int p5), .val (.int (0 : Int32)), .val (.ref b69), .unset, .unset, .unset] [(.ref b70)]))
    refine own_go (XS.astore X70.here hx rfl (hb hby at_18) rfl rfl (l' := #[.val (.int p1), .val (.int p2), .val (.int p3), .val (.int p4), .val (.int p5), .val (.int (0 : Int32)), .val (.ref b69), .val (.ref b70), .unset, .unset]) rfl (Steps.refl _)) ?_
    show own_Fin _ _ _ _ (T70.setTop (mkF m 20 #[.val (.int p1), .val (.int p2), .val (.int p3), .val (.int p4), .val (.int p5), .val (.int (0 : Int32)), .val (.ref b69), .val (.ref b70), .unset, .unset] []))
    refine own_go (XS.iload X70.here hx rfl (hb hby at_20) rfl (Steps.refl _)) ?_
    show own_Fin _ _ _ _ (T70.setTop (mkF m 22 #[.val (.int p1), .val (.int p2), .val (.int p3), .val (.int p4), .val (.int p5), .val (.int (0 : Int32)), .val (.ref b69), .val (.ref b70), .unset, .unset] [(.int (0 : Int32))]))
    refine own_go (XS.ifYes X70.here hx rfl (pc0 := 22) (pc' := 38) rfl (hb hby at_22) rfl ((if0 _ _).trans (flt (by decide : ¬ ((0 : Int32) < (0 : Int32)))).2.2.2) (by decide) (by decide) (Steps.refl _)) ?_
    show own_Fin _ _ _ _ (T70.setTop (mkF m 38 #[.val (.int p1), .val (.int p2), .val (.int p3), .val (.int p4), .val (.int p5), .val (.int (0 : Int32)), .val (.ref b69), .val (.ref b70), .unset, .unset] []))
    refine own_go (XS.iload X70.here hx rfl (hb hby at_38) rfl (Steps.refl _)) ?_
    show own_Fin _ _ _ _ (T70.setTop (mkF m 40 #[.val (.int p1), .val (.int p2), .val (.int p3), .val (.int p4), .val (.int p5), .val (.int (0 : Int32)), .val (.ref b69), .val (.ref b70), .unset, .unset] [(.int (0 : Int32))]))
    refine own_go (XS.iconst X70.here hx rfl (hb hby at_40) (Steps.refl _)) ?_
    show own_Fin _ _ _ _ (T70.setTop (mkF m 41 #[.val (.int p1), .val (.int p2), .val (.int p3), .val (.int p4), .val (.int p5), .val (.int (0 : Int32)), .val (.ref b69), .val (.ref b70), .unset, .unset] [(.int (1 : Int32)), (.int (0 : Int32))]))
    refine own_go (XS.icmpYes X70.here hx rfl (pc0 := 41) (pc' := 57) rfl (hb hby at_41) rfl (flt (by decide : ¬ ((1 : Int32) < (0 : Int32)))).2.2.2 (by decide) (by decide) (Steps.refl _)) ?_
    show own_Fin _ _ _ _ (T70.setTop (mkF m 57 #[.val (.int p1), .val (.int p2), .val (.int p3), .val (.int p4), .val (.int p5), .val (.int (0 : Int32)), .val (.ref b69), .val (.ref b70), .unset, .unset] []))
    refine own_go (XS.iload X70.here hx rfl (hb hby at_57) rfl (Steps.refl _)) ?_
    show own_Fin _ _ _ _ (T70.setTop (mkF m 59 #[.val (.int p1), .val (.int p2), .val (.int p3), .val (.int p4), .val (.int p5), .val (.int (0 : Int32)), .val (.ref b69), .val (.ref b70), .unset, .unset] [(.int (0 : Int32))]))
    refine own_go (XS.iconst X70.here hx rfl (hb hby at_59) (Steps.refl _)) ?_
    show own_Fin _ _ _ _ (T70.setTop (mkF m 60 #[.val (.int p1), .val (.int p2), .val (.int p3), .val (.int p4), .val (.int p5), .val (.int (0 : Int32)), .val (.ref b69), .val (.ref b70), .unset, .unset] [(.int (2 : Int32)), (.int (0 : Int32))]))
    refine own_go (XS.icmpYes X70.here hx rfl (pc0 := 60) (pc' := 76) rfl (hb hby at_60) rfl (flt (by decide : ¬ ((2 : Int32) < (0 : Int32)))).2.2.2 (by decide) (by decide) (Steps.refl _)) ?_
    show own_Fin _ _ _ _ (T70.setTop (mkF m 76 #[.val (.int p1), .val (.int p2), .val (.int p3), .val (.int p4), .val (.int p5), .val (.int (0 : Int32)), .val (.ref b69), .val (.ref b70), .unset, .unset] []))
    refine own_go (XS.iload X70.here hx rfl (hb hby at_76) rfl (Steps.refl _)) ?_
    show own_Fin _ _ _ _ (T70.setTop (mkF m 78 #[.val (.int p1), .val (.int p2), .val (.int p3), .val (.int p4), .val (.int p5), .val (.int (0 : Int32)), .val (.ref b69), .val (.ref b70), .unset, .unset] [(.int (0 : Int32))]))
    refine own_go (XS.iconst X70.here hx rfl (hb hby at_78) (Steps.refl _)) ?_
    show own_Fin _ _ _ _ (T70.setTop (mkF m 79 #[.val (.int p1), .val (.int p2), .val (.int p3), .val (.int p4), .val (.int p5), .val (.int (0 : Int32)), .val (.ref b69), .val (.ref b70), .unset, .unset] [(.int (3 : Int32)), (.int (0 : Int32))]))
    refine own_go (XS.icmpYes X70.here hx rfl (pc0 := 79) (pc' := 97) rfl (hb hby at_79) rfl (flt (by decide : ¬ ((3 : Int32) < (0 : Int32)))).2.2.2 (by decide) (by decide) (Steps.refl _)) ?_
    show own_Fin _ _ _ _ (T70.setTop (mkF m 97 #[.val (.int p1), .val (.int p2), .val (.int p3), .val (.int p4), .val (.int p5), .val (.int (0 : Int32)), .val (.ref b69), .val (.ref b70), .unset, .unset] []))
    refine own_go (XS.iload X70.here hx rfl (hb hby at_97) rfl (Steps.refl _)) ?_
    show own_Fin _ _ _ _ (T70.setTop (mkF m 99 #[.val (.int p1), .val (.int p2), .val (.int p3), .val (.int p4), .val (.int p5), .val (.int (0 : Int32)), .val (.ref b69), .val (.ref b70), .unset, .unset] [(.int (0 : Int32))]))
    refine own_go (XS.ifYes X70.here hx rfl (pc0 := 99) (pc' := 106) rfl (hb hby at_99) rfl ((if0 _ _).trans (flt (by decide : ¬ ((0 : Int32) < (0 : Int32)))).2.2.2) (by decide) (by decide) (Steps.refl _)) ?_
    show own_Fin _ _ _ _ (T70.setTop (mkF m 106 #[.val (.int p1), .val (.int p2), .val (.int p3), .val (.int p4), .val (.int p5), .val (.int (0 : Int32)), .val (.ref b69), .val (.ref b70), .unset, .unset] []))
    refine own_go (XS.iload X70.here hx rfl (hb hby at_106) rfl (Steps.refl _)) ?_
    show own_Fin _ _ _ _ (T70.setTop (mkF m 108 #[.val (.int p1), .val (.int p2), .val (.int p3), .val (.int p4), .val (.int p5), .val (.int (0 : Int32)), .val (.ref b69), .val (.ref b70), .unset, .unset] [(.int (0 : Int32))]))
    refine own_go (XS.iconst X70.here hx rfl (hb hby at_108) (Steps.refl _)) ?_
    show own_Fin _ _ _ _ (T70.setTop (mkF m 109 #[.val (.int p1), .val (.int p2), .val (.int p3), .val (.int p4), .val (.int p5), .val (.int (0 : Int32)), .val (.ref b69), .val (.ref b70), .unset, .unset] [(.int (1 : Int32)), (.int (0 : Int32))]))
    refine own_go (XS.icmpYes X70.here hx rfl (pc0 := 109) (pc' := 116) rfl (hb hby at_109) rfl (flt (by decide : ¬ ((1 : Int32) < (0 : Int32)))).2.2.2 (by decide) (by decide) (Steps.refl _)) ?_
    show own_Fin _ _ _ _ (T70.setTop (mkF m 116 #[.val (.int p1), .val (.int p2), .val (.int p3), .val (.int p4), .val (.int p5), .val (.int (0 : Int32)), .val (.ref b69), .val (.ref b70), .unset, .unset] []))
    refine own_go (XS.iload X70.here hx rfl (hb hby at_116) rfl (Steps.refl _)) ?_
    show own_Fin _ _ _ _ (T70.setTop (mkF m 118 #[.val (.int p1), .val (.int p2), .val (.int p3), .val (.int p4), .val (.int p5), .val (.int (0 : Int32)), .val (.ref b69), .val (.ref b70), .unset, .unset] [(.int (0 : Int32))]))
    refine own_go (XS.iconst X70.here hx rfl (hb hby at_118) (Steps.refl _)) ?_
    show own_Fin _ _ _ _ (T70.setTop (mkF m 119 #[.val (.int p1), .val (.int p2), .val (.int p3), .val (.int p4), .val (.int p5), .val (.int (0 : Int32)), .val (.ref b69), .val (.ref b70), .unset, .unset] [(.int (2 : Int32)), (.int (0 : Int32))]))
    refine own_go (XS.icmpYes X70.here hx rfl (pc0 := 119) (pc' := 126) rfl (hb hby at_119) rfl (flt (by decide : ¬ ((2 : Int32) < (0 : Int32)))).2.2.2 (by decide) (by decide) (Steps.refl _)) ?_
    show own_Fin _ _ _ _ (T70.setTop (mkF m 126 #[.val (.int p1), .val (.int p2), .val (.int p3), .val (.int p4), .val (.int p5), .val (.int (0 : Int32)), .val (.ref b69), .val (.ref b70), .unset, .unset] []))
    refine own_go (XS.iload X70.here hx rfl (hb hby at_126) rfl (Steps.refl _)) ?_
    show own_Fin _ _ _ _ (T70.setTop (mkF m 128 #[.val (.int p1), .val (.int p2), .val (.int p3), .val (.int p4), .val (.int p5), .val (.int (0 : Int32)), .val (.ref b69), .val (.ref b70), .unset, .unset] [(.int (0 : Int32))]))
    refine own_go (XS.iconst X70.here hx rfl (hb hby at_128) (Steps.refl _)) ?_
    show own_Fin _ _ _ _ (T70.setTop (mkF m 129 #[.val (.int p1), .val (.int p2), .val (.int p3), .val (.int p4), .val (.int p5), .val (.int (0 : Int32)), .val (.ref b69), .val (.ref b70), .unset, .unset] [(.int (3 : Int32)), (.int (0 : Int32))]))
    refine own_go (XS.icmpYes X70.here hx rfl (pc0 := 129) (pc' := 141) rfl (hb hby at_129) rfl (flt (by decide : ¬ ((3 : Int32) < (0 : Int32)))).2.2.2 (by decide) (by decide) (Steps.refl _)) ?_
    show own_Fin _ _ _ _ (T70.setTop (mkF m 141 #[.val (.int p1), .val (.int p2), .val (.int p3), .val (.int p4), .val (.int p5), .val (.int (0 : Int32)), .val (.ref b69), .val (.ref b70), .unset, .unset] []))
    refine own_go (XS.iconst X70.here hx rfl (hb hby at_141) (Steps.refl _)) ?_
    show own_Fin _ _ _ _ (T70.setTop (mkF m 142 #[.val (.int p1), .val (.int p2), .val (.int p3), .val (.int p4), .val (.int p5), .val (.int (0 : Int32)), .val (.ref b69), .val (.ref b70), .unset, .unset] [(.int (0 : Int32))]))
    refine own_go (XS.istore X70.here hx rfl (hb hby at_142) rfl (l' := #[.val (.int p1), .val (.int p2), .val (.int p3), .val (.int p4), .val (.int p5), .val (.int (0 : Int32)), .val (.ref b69), .val (.ref b70), .val (.int (0 : Int32)), .unset]) rfl (Steps.refl _)) ?_
    show own_Fin _ _ _ _ (T70.setTop (mkF m 144 #[.val (.int p1), .val (.int p2), .val (.int p3), .val (.int p4), .val (.int p5), .val (.int (0 : Int32)), .val (.ref b69), .val (.ref b70), .val (.int (0 : Int32)), .unset] []))
    obtain ⟨T71, h71, X71, e71, E71, A71, D71, U71, st71⟩ := newO X70 hx hZ hown (hw _ (List.mem_of_getElem? (i := 2) rfl)) (hw _ (List.mem_of_getElem? (i := 3) rfl)) (hw _ (List.mem_of_getElem? (i := 4) rfl)) e70 (g := (mkF m 144 #[.val (.int p1), .val (.int p2), .val (.int p3), .val (.int p4), .val (.int p5), .val (.int (0 : Int32)), .val (.ref b69), .val (.ref b70), .val (.int (0 : Int32)), .unset] [])) rfl (hb hby at_144) (by decide) (by decide)
    obtain ⟨b71, g71⟩ : ∃ z, z = h70.size := ⟨_, rfl⟩
    rw [← g71] at A71 D71 U71 st71
    refine own_by st71 ?_
    have ne_b69_b71 : b69 ≠ b71 := Nat.ne_of_lt (Nat.lt_of_lt_of_eq V_b69_70.lt g71.symm)
    have ne_b70_b71 : b70 ≠ b71 := Nat.ne_of_lt (Nat.lt_of_lt_of_eq V_b70.lt g71.symm)
    have V_b69_71 := V_b69_70.ext E71
    have E_b69_71 := E_b69_70.ext E71
    have V_b70_71 := V_b70.ext E71
    have E_b70_71 := E_b70.ext E71
    have g_b71 : n0 ≤ b71 := Nat.le_trans Z70 (Nat.le_of_eq g71.symm)
    have Z71 : n0 ≤ h71.size := Nat.le_trans Z70 E71.1
    have E_b71 := A71
    have F_variables_b71 : Fld Z h71 b71 "com/example/nosto/nosto/Arguments" "variables" "[I" .null := D71 (Or.inr (hw _ (List.mem_of_getElem? (i := 21) rfl))) (ty := (.array .int)) (by decide)
    have F_constants_b71 : Fld Z h71 b71 "com/example/nosto/nosto/Arguments" "constants" "[I" .null := D71 (Or.inr (hw _ (List.mem_of_getElem? (i := 23) rfl))) (ty := (.array .int)) (by decide)
    show own_Fin _ _ _ _ (T71.setTop (mkF m 147 #[.val (.int p1), .val (.int p2), .val (.int p3), .val (.int p4), .val (.int p5), .val (.int (0 : Int32)), .val (.ref b69), .val (.ref b70), .val (.int (0 : Int32)), .unset] [(.ref b71)]))
    refine own_go (XS.dup X71.here hx rfl (hb hby at_147) rfl rfl (Steps.refl _)) ?_
    show own_Fin _ _ _ _ (T71.setTop (mkF m 148 #[.val (.int p1), .val (.int p2), .val (.int p3), .val (.int p4), .val (.int p5), .val (.int (0 : Int32)), .val (.ref b69), .val (.ref b70), .val (.int (0 : Int32)), .unset] [(.ref b71), (.ref b71)]))
    refine own_go (XS.aload X71.here hx rfl (hb hby at_148) rfl rfl (Steps.refl _)) ?_
    show own_Fin _ _ _ _ (T71.setTop (mkF m 150 #[.val (.int p1), .val (.int p2), .val (.int p3), .val (.int p4), .val (.int p5), .val (.int (0 : Int32)), .val (.ref b69), .val (.ref b70), .val (.int (0 : Int32)), .unset] [(.ref b69), (.ref b71), (.ref b71)]))
    refine own_go (XS.aload X71.here hx rfl (hb hby at_150) rfl rfl (Steps.refl _)) ?_
    show own_Fin _ _ _ _ (T71.setTop (mkF m 152 #[.val (.int p1), .val (.int p2), .val (.int p3), .val (.int p4), .val (.int p5), .val (.int (0 : Int32)), .val (.ref b69), .val (.ref b70), .val (.int (0 : Int32)), .unset] [(.ref b70), (.ref b69), (.ref b71), (.ref b71)]))
    obtain ⟨_, _, ⟨T72, L72, k72, n72⟩, -, X72, ⟨Lc72, hQ72, l72, y72, z72⟩, st72⟩ := X71.specialBack hx (y := (⟨"com/example/nosto/nosto/Arguments", "<init>", "([I[I)V"⟩ : MethodName)) rfl hown (mvT hZ (hw _ (List.mem_of_getElem? (i := 5) rfl))) (mvT hZ (hw _ (List.mem_of_getElem? (i := 6) rfl))) (mvT hZ (hw _ (List.mem_of_getElem? (i := 7) rfl))) (by decide) (backOf (W := 1) (rm1 l Z a0 hw [] b71 b69 b70 k69 (0 : Int32) [] (.int (0 : Int32)) k70 (0 : Int32) [] (.int (0 : Int32)) h71 n0 Z71 E_b71 F_variables_b71 F_constants_b71 g_b71 ne_b69_b71 ne_b70_b71 V_b69_71 E_b69_71 (by decide) V_b70_71 E_b70_71 (by decide)) hZ (hw _ (List.mem_of_getElem? (i := 7) rfl)) (hw _ (List.mem_of_getElem? (i := 4) rfl)) (by decide) (by decide)) (g := (mkF m 152 #[.val (.int p1), .val (.int p2), .val (.int p3), .val (.int p4), .val (.int p5), .val (.int (0 : Int32)), .val (.ref b69), .val (.ref b70), .val (.int (0 : Int32)), .unset] [(.ref b70), (.ref b69), (.ref b71), (.ref b71)])) rfl (by rw [hml]; rfl) (Steps.refl _) (a := b71) (argsL := [(.ref b69), (.ref b70)]) (rest := [(.ref b71)]) (lenOf pd__28__5b_I_5b_I_29_V rfl) rfl (by show 2 * 0 + _ ≤ _; exact Nat.le_of_eq rfl) (hb hby at_152) (fun _ _ => ⟨rfl, e71, (by decide : 3 + 2 ≤ _), (by decide : 2 + 8 ≤ _)⟩)
    dsimp only [Pt.U, Pt.locs, Pt.cells, Pt.slots] at X72 l72 y72 z72 st72 hQ72
    subst l72 y72 z72
    refine own_go st72 ?_
    obtain ⟨rfl, Nq72, K72, Ek72, bb72, gb72, Fk72, Vk72⟩ := hQ72
    have V_b69_72 := V_b69_71.keep K72 (ninS ne_b69_b71 nin0)
    have E_b69_72 := E_b69_71.keep K72
    have V_b70_72 := V_b70_71.keep K72 (ninS ne_b70_b71 nin0)
    have E_b70_72 := E_b70_71.keep K72
    have E_b71_72 := E_b71.keep K72
    have Z72 := Nat.le_trans Z71 K72.1
    have N72 := Fr.app N0 Nq72
    show own_Fin _ _ _ _ (T72.setTop (mkF m 155 #[.val (.int p1), .val (.int p2), .val (.int p3), .val (.int p4), .val (.int p5), .val (.int (0 : Int32)), .val (.ref b69), .val (.ref b70), .val (.int (0 : Int32)), .unset] [(.ref b71)]))
    refine own_go (XS.astore X72.here hx rfl (hb hby at_155) rfl rfl (l' := #[.val (.int p1), .val (.int p2), .val (.int p3), .val (.int p4), .val (.int p5), .val (.int (0 : Int32)), .val (.ref b69), .val (.ref b70), .val (.int (0 : Int32)), .val (.ref b71)]) rfl (Steps.refl _)) ?_
    show own_Fin _ _ _ _ (T72.setTop (mkF m 157 #[.val (.int p1), .val (.int p2), .val (.int p3), .val (.int p4), .val (.int p5), .val (.int (0 : Int32)), .val (.ref b69), .val (.ref b70), .val (.int (0 : Int32)), .val (.ref b71)] []))
    refine own_go (XS.aload X72.here hx rfl (hb hby at_157) rfl rfl (Steps.refl _)) ?_
    show own_Fin _ _ _ _ (T72.setTop (mkF m 159 #[.val (.int p1), .val (.int p2), .val (.int p3), .val (.int p4), .val (.int p5), .val (.int (0 : Int32)), .val (.ref b69), .val (.ref b70), .val (.int (0 : Int32)), .val (.ref b71)] [(.ref b71)]))
    obtain ⟨cq73, kq73, q73a, q73b, q73c⟩ := isOf hZ rfl Ek72
    obtain ⟨_, _, ⟨T73, L73, k73, n73⟩, -, X73, ⟨Lc73, hQ73, l73, y73, z73⟩, st73⟩ := X72.virtualBack hx (y := (⟨"com/example/nosto/nosto/Arguments", "namesConstant", "()Z"⟩ : MethodName)) (z := (⟨"com/example/nosto/nosto/Arguments", "namesConstant", "()Z"⟩ : MethodName)) hown (mvT hZ (hw _ (List.mem_of_getElem? (i := 24) rfl))) (mvT hZ (hw _ (List.mem_of_getElem? (i := 25) rfl))) (notFace_of_selects (args := #[]) (mvT hZ (hw _ (List.mem_of_getElem? (i := 27) rfl)))) (mvT hZ (hw _ (List.mem_of_getElem? (i := 27) rfl))) (mvT hZ (hw _ (List.mem_of_getElem? (i := 26) rfl))) (by decide) (backOf (W := 0) (rm3_0 l Z a0 hw [] b71 bb72 k69 T72.heap n0 Z72 Fk72 Vk72) hZ (hw _ (List.mem_of_getElem? (i := 28) rfl)) (hw _ (List.mem_of_getElem? (i := 4) rfl)) (by decide) (by decide)) q73a q73c (g := (mkF m 159 #[.val (.int p1), .val (.int p2), .val (.int p3), .val (.int p4), .val (.int p5), .val (.int (0 : Int32)), .val (.ref b69), .val (.ref b70), .val (.int (0 : Int32)), .val (.ref b71)] [(.ref b71)])) rfl (by rw [hml]; rfl) (Steps.refl _) (argsL := []) (rest := []) (lenOf pd__28__29_Z rfl) rfl (by show 2 * 0 + _ ≤ _; exact Nat.le_of_eq rfl) (hb hby at_159) (fun _ _ => ⟨rfl, rfl, (by decide : 5 + 0 ≤ _), (by decide : 10 + 0 ≤ _)⟩)
    dsimp only [Pt.U, Pt.locs, Pt.cells, Pt.slots] at X73 l73 y73 z73 st73 hQ73
    subst l73 y73 z73
    obtain ⟨rfl, Nq73, e73⟩ := hQ73
    refine own_go st73 ?_
    have N73 := Fr.app N72 Nq73
    show own_Fin _ _ _ _ (T73.setTop (mkF m 162 #[.val (.int p1), .val (.int p2), .val (.int p3), .val (.int p4), .val (.int p5), .val (.int (0 : Int32)), .val (.ref b69), .val (.ref b70), .val (.int (0 : Int32)), .val (.ref b71)] [(.int (0 : Int32))]))
    refine own_go (XS.iload X73.here hx rfl (hb hby at_162) rfl (Steps.refl _)) ?_
    show own_Fin _ _ _ _ (T73.setTop (mkF m 164 #[.val (.int p1), .val (.int p2), .val (.int p3), .val (.int p4), .val (.int p5), .val (.int (0 : Int32)), .val (.ref b69), .val (.ref b70), .val (.int (0 : Int32)), .val (.ref b71)] [(.int (0 : Int32)), (.int (0 : Int32))]))
    refine own_go (XS.icmpNo X73.here hx rfl (hb hby at_164) rfl (teq (by decide : (0 : Int32) = (0 : Int32))).2 (Steps.refl _)) ?_
    show own_Fin _ _ _ _ (T73.setTop (mkF m 167 #[.val (.int p1), .val (.int p2), .val (.int p3), .val (.int p4), .val (.int p5), .val (.int (0 : Int32)), .val (.ref b69), .val (.ref b70), .val (.int (0 : Int32)), .val (.ref b71)] []))
    refine own_go (XS.iconst X73.here hx rfl (hb hby at_167) (Steps.refl _)) ?_
    show own_Fin _ _ _ _ (T73.setTop (mkF m 168 #[.val (.int p1), .val (.int p2), .val (.int p3), .val (.int p4), .val (.int p5), .val (.int (0 : Int32)), .val (.ref b69), .val (.ref b70), .val (.int (0 : Int32)), .val (.ref b71)] [(.int (1 : Int32))]))
    refine own_go (XS.goto X73.here hx rfl (pc0 := 168) (pc' := 172) rfl (hb hby at_168) (by decide) (by decide) (Steps.refl _)) ?_
    show own_Fin _ _ _ _ (T73.setTop (mkF m 172 #[.val (.int p1), .val (.int p2), .val (.int p3), .val (.int p4), .val (.int p5), .val (.int (0 : Int32)), .val (.ref b69), .val (.ref b70), .val (.int (0 : Int32)), .val (.ref b71)] [(.int (1 : Int32))]))
    obtain ⟨fs74, hr74, hrun74, hended74, hW74, hsame74⟩ := X73.leave (v := some (.int (1 : Int32))) (fun h => by rw [Bd.returns] at h; cases h)
    refine own_done (retN X73 hx (t := .boolean) Bd.returns (by simp) (hb hby at_172) hr74) hrun74 hended74 ⟨_, _, rfl, ?_, ⟨_, rfl⟩, hW74, hsame74.mono (by decide) (by decide)⟩
    show Q0 Z p1 p2 p3 p4 p5 h0 n0 _ T73.heap _
    rw [e73]
    exact ⟨rfl, N73⟩
  · show own_Fin _ _ _ _ (s₁.setTop (mkF m 8 #[.val (.int p1), .val (.int p2), .val (.int p3), .val (.int p4), .val (.int p5), .val (.int (1 : Int32)), .unset, .unset, .unset, .unset] []))
    refine own_go (XS.iload X0.here hx rfl (hb hby at_8) rfl (Steps.refl _)) ?_
    show own_Fin _ _ _ _ (s₁.setTop (mkF m 10 #[.val (.int p1), .val (.int p2), .val (.int p3), .val (.int p4), .val (.int p5), .val (.int (1 : Int32)), .unset, .unset, .unset, .unset] [(.int (1 : Int32))]))
    obtain ⟨T75, h75, k75, X75, e75, E75, A75, B75, st75⟩ := newPE X0 hx hZ (hw _ (List.mem_of_getElem? (i := 1) rfl)) e0 (g := (mkF m 10 #[.val (.int p1), .val (.int p2), .val (.int p3), .val (.int p4), .val (.int p5), .val (.int (1 : Int32)), .unset, .unset, .unset, .unset] [(.int (1 : Int32))])) rfl (hb hby at_10) rfl (by decide) (cap := 1) (by decide) (by decide) (by decide) (by decide) (ad := "[I") (by decide)
    obtain ⟨b75, g75⟩ : ∃ z, z = h0.size := ⟨_, rfl⟩
    rw [← g75] at A75 B75 st75
    refine own_by st75 ?_
    have g_b75 : n0 ≤ b75 := Nat.le_trans Z0 (Nat.le_of_eq g75.symm)
    have Z75 : n0 ≤ h75.size := Nat.le_trans Z0 E75.1
    have V_b75 : Arv Z h75 b75 k75 .int (1 : Int32) [(.int (0 : Int32))] (.int (0 : Int32)) := (Arv.new A75 (by decide)).pad (pad_rep [] (.int (0 : Int32)) 1)
    have E_b75 := B75
    show own_Fin _ _ _ _ (T75.setTop (mkF m 12 #[.val (.int p1), .val (.int p2), .val (.int p3), .val (.int p4), .val (.int p5), .val (.int (1 : Int32)), .unset, .unset, .unset, .unset] [(.ref b75)]))
    refine own_go (XS.astore X75.here hx rfl (hb hby at_12) rfl rfl (l' := #[.val (.int p1), .val (.int p2), .val (.int p3), .val (.int p4), .val (.int p5), .val (.int (1 : Int32)), .val (.ref b75), .unset, .unset, .unset]) rfl (Steps.refl _)) ?_
    show own_Fin _ _ _ _ (T75.setTop (mkF m 14 #[.val (.int p1), .val (.int p2), .val (.int p3), .val (.int p4), .val (.int p5), .val (.int (1 : Int32)), .val (.ref b75), .unset, .unset, .unset] []))
    refine own_go (XS.iload X75.here hx rfl (hb hby at_14) rfl (Steps.refl _)) ?_
    show own_Fin _ _ _ _ (T75.setTop (mkF m 16 #[.val (.int p1), .val (.int p2), .val (.int p3), .val (.int p4), .val (.int p5), .val (.int (1 : Int32)), .val (.ref b75), .unset, .unset, .unset] [(.int (1 : Int32))]))
    obtain ⟨T76, h76, k76, X76, e76, E76, A76, B76, st76⟩ := newPE X75 hx hZ (hw _ (List.mem_of_getElem? (i := 1) rfl)) e75 (g := (mkF m 16 #[.val (.int p1), .val (.int p2), .val (.int p3), .val (.int p4), .val (.int p5), .val (.int (1 : Int32)), .val (.ref b75), .unset, .unset, .unset] [(.int (1 : Int32))])) rfl (hb hby at_16) rfl (by decide) (cap := 1) (by decide) (by decide) (by decide) (by decide) (ad := "[I") (by decide)
    obtain ⟨b76, g76⟩ : ∃ z, z = h75.size := ⟨_, rfl⟩
    rw [← g76] at A76 B76 st76
    refine own_by st76 ?_
    have ne_b75_b76 : b75 ≠ b76 := Nat.ne_of_lt (Nat.lt_of_lt_of_eq V_b75.lt g76.symm)
    have V_b75_76 := V_b75.ext E76
    have E_b75_76 := E_b75.ext E76
    have g_b76 : n0 ≤ b76 := Nat.le_trans Z75 (Nat.le_of_eq g76.symm)
    have Z76 : n0 ≤ h76.size := Nat.le_trans Z75 E76.1
    have V_b76 : Arv Z h76 b76 k76 .int (1 : Int32) [(.int (0 : Int32))] (.int (0 : Int32)) := (Arv.new A76 (by decide)).pad (pad_rep [] (.int (0 : Int32)) 1)
    have E_b76 := B76
    show own_Fin _ _ _ _ (T76.setTop (mkF m 18 #[.val (.int p1), .val (.int p2), .val (.int p3), .val (.int p4), .val (.int p5), .val (.int (1 : Int32)), .val (.ref b75), .unset, .unset, .unset] [(.ref b76)]))
    refine own_go (XS.astore X76.here hx rfl (hb hby at_18) rfl rfl (l' := #[.val (.int p1), .val (.int p2), .val (.int p3), .val (.int p4), .val (.int p5), .val (.int (1 : Int32)), .val (.ref b75), .val (.ref b76), .unset, .unset]) rfl (Steps.refl _)) ?_
    show own_Fin _ _ _ _ (T76.setTop (mkF m 20 #[.val (.int p1), .val (.int p2), .val (.int p3), .val (.int p4), .val (.int p5), .val (.int (1 : Int32)), .val (.ref b75), .val (.ref b76), .unset, .unset] []))
    refine own_go (XS.iload X76.here hx rfl (hb hby at_20) rfl (Steps.refl _)) ?_
    show own_Fin _ _ _ _ (T76.setTop (mkF m 22 #[.val (.int p1), .val (.int p2), .val (.int p3), .val (.int p4), .val (.int p5), .val (.int (1 : Int32)), .val (.ref b75), .val (.ref b76), .unset, .unset] [(.int (1 : Int32))]))
    refine own_go (XS.ifNo X76.here hx rfl (hb hby at_22) rfl ((if0 _ _).trans (tlt (by decide : (0 : Int32) < (1 : Int32))).2.2.2) (Steps.refl _)) ?_
    show own_Fin _ _ _ _ (T76.setTop (mkF m 25 #[.val (.int p1), .val (.int p2), .val (.int p3), .val (.int p4), .val (.int p5), .val (.int (1 : Int32)), .val (.ref b75), .val (.ref b76), .unset, .unset] []))
    refine own_go (XS.aload X76.here hx rfl (hb hby at_25) rfl rfl (Steps.refl _)) ?_
    show own_Fin _ _ _ _ (T76.setTop (mkF m 27 #[.val (.int p1), .val (.int p2), .val (.int p3), .val (.int p4), .val (.int p5), .val (.int (1 : Int32)), .val (.ref b75), .val (.ref b76), .unset, .unset] [(.ref b75)]))
    refine own_go (XS.iconst X76.here hx rfl (hb hby at_27) (Steps.refl _)) ?_
    show own_Fin _ _ _ _ (T76.setTop (mkF m 28 #[.val (.int p1), .val (.int p2), .val (.int p3), .val (.int p4), .val (.int p5), .val (.int (1 : Int32)), .val (.ref b75), .val (.ref b76), .unset, .unset] [(.int (0 : Int32)), (.ref b75)]))
    refine own_go (XS.iloadN X76.here hx rfl (hb hby at_28) rfl (Steps.refl _)) ?_
    show own_Fin _ _ _ _ (T76.setTop (mkF m 29 #[.val (.int p1), .val (.int p2), .val (.int p3), .val (.int p4), .val (.int p5), .val (.int (1 : Int32)), .val (.ref b75), .val (.ref b76), .unset, .unset] [(.int p2), (.int (0 : Int32)), (.ref b75)]))
    obtain ⟨_, _, ⟨T77, L77, k77, n77⟩, -, X77, ⟨Lc77, hQ77, l77, y77, z77⟩, st77⟩ := Jvm.LawKit.callS X76 hx (y := (⟨"com/example/nosto/nosto/ArgumentsNamesConstantPinLaw", "var", "(I)I"⟩ : MethodName)) hown (mvT hZ (hw _ (List.mem_of_getElem? (i := 29) rfl))) (mvT hZ (hw _ (List.mem_of_getElem? (i := 30) rfl))) (mvT hZ (hw _ (List.mem_of_getElem? (i := 31) rfl))) (mvT hZ (hw _ (List.mem_of_getElem? (i := 32) rfl))) (by decide) (backOf (W := 2) (rm4 l Z a0 hw [] p2 h76 n0 Z76) hZ (hw _ (List.mem_of_getElem? (i := 32) rfl)) (hw _ (List.mem_of_getElem? (i := 31) rfl)) (by decide) (by decide)) (g := (mkF m 29 #[.val (.int p1), .val (.int p2), .val (.int p3), .val (.int p4), .val (.int p5), .val (.int (1 : Int32)), .val (.ref b75), .val (.ref b76), .unset, .unset] [(.int p2), (.int (0 : Int32)), (.ref b75)])) rfl (by rw [hml]; rfl) (argsL := [(.int p2)]) (rest := [(.int (0 : Int32)), (.ref b75)]) (lenOf pd__28_I_29_I rfl) rfl (by show 2 * 0 + _ ≤ _; exact Nat.le_of_eq rfl) (hb hby at_29) (fun _ _ => ⟨rfl, e76, (by decide : 2 + 0 ≤ _), (by decide : 2 + 0 ≤ _)⟩)
    dsimp only [Pt.U, Pt.locs, Pt.cells, Pt.slots] at X77 l77 y77 z77 st77 hQ77
    subst l77 y77 z77
    obtain ⟨rfl, Nq77, e77⟩ := hQ77
    refine own_by st77 ?_
    have N77 := Fr.app N0 Nq77
    show own_Fin _ _ _ _ (T77.setTop (mkF m 32 #[.val (.int p1), .val (.int p2), .val (.int p3), .val (.int p4), .val (.int p5), .val (.int (1 : Int32)), .val (.ref b75), .val (.ref b76), .unset, .unset] [(.int (own_var p2)), (.int (0 : Int32)), (.ref b75)]))
    obtain ⟨cl78, Ar78, qa78, Sa78, Na78, Ha78, Ga78⟩ := id V_b75_76
    have hin78 : ¬ ((0 : Int32) < 0 ∨ cl78.slots.size ≤ ((0 : Int32)).toNatClampNeg) := inb_of Sa78 ⟨by decide, by decide⟩
    obtain ⟨T79, h79, X79, e79, W79, st79⟩ := stI X77 hx hZ e77 Ar78 (j := (0 : Int32)) hin78 (g := (mkF m 32 #[.val (.int p1), .val (.int p2), .val (.int p3), .val (.int p4), .val (.int p5), .val (.int (1 : Int32)), .val (.ref b75), .val (.ref b76), .unset, .unset] [(.int (own_var p2)), (.int (0 : Int32)), (.ref b75)])) rfl rfl (hb hby at_32)
    refine own_by st79 ?_
    have V_b75_79 : Arv Z h79 b75 k75 .int (1 : Int32) [(.int (own_var p2))] (.int (0 : Int32)) := Arv.set Ar78 qa78 Sa78 Na78 Ha78 Ga78 rfl W79 0 rfl (Nat.le_of_ble_eq_true rfl)
    have E_b75_79 := E_b75_76.wr W79
    have V_b76_79 := V_b76.other W79 (Ne.symm ne_b75_b76)
    have E_b76_79 := E_b76.wr W79
    have N79 := Fr.snoc X79 N77 g_b75
    have Z79 : n0 ≤ h79.size := Nat.le_trans Z76 (Keep.of_wr W79).1
    show own_Fin _ _ _ _ (T79.setTop (mkF m 33 #[.val (.int p1), .val (.int p2), .val (.int p3), .val (.int p4), .val (.int p5), .val (.int (1 : Int32)), .val (.ref b75), .val (.ref b76), .unset, .unset] []))
    refine own_go (XS.aload X79.here hx rfl (hb hby at_33) rfl rfl (Steps.refl _)) ?_
    show own_Fin _ _ _ _ (T79.setTop (mkF m 35 #[.val (.int p1), .val (.int p2), .val (.int p3), .val (.int p4), .val (.int p5), .val (.int (1 : Int32)), .val (.ref b75), .val (.ref b76), .unset, .unset] [(.ref b76)]))
    refine own_go (XS.iconst X79.here hx rfl (hb hby at_35) (Steps.refl _)) ?_
    show own_Fin _ _ _ _ (T79.setTop (mkF m 36 #[.val (.int p1), .val (.int p2), .val (.int p3), .val (.int p4), .val (.int p5), .val (.int (1 : Int32)), .val (.ref b75), .val (.ref b76), .unset, .unset] [(.int (0 : Int32)), (.ref b76)]))
    refine own_go (XS.iloadN X79.here hx rfl (hb hby at_36) rfl (Steps.refl _)) ?_
    show own_Fin _ _ _ _ (T79.setTop (mkF m 37 #[.val (.int p1), .val (.int p2), .val (.int p3), .val (.int p4), .val (.int p5), .val (.int (1 : Int32)), .val (.ref b75), .val (.ref b76), .unset, .unset] [(.int p2), (.int (0 : Int32)), (.ref b76)]))
    obtain ⟨cl80, Ar80, qa80, Sa80, Na80, Ha80, Ga80⟩ := id V_b76_79
    have hin80 : ¬ ((0 : Int32) < 0 ∨ cl80.slots.size ≤ ((0 : Int32)).toNatClampNeg) := inb_of Sa80 ⟨by decide, by decide⟩
    obtain ⟨T81, h81, X81, e81, W81, st81⟩ := stI X79 hx hZ e79 Ar80 (j := (0 : Int32)) hin80 (g := (mkF m 37 #[.val (.int p1), .val (.int p2), .val (.int p3), .val (.int p4), .val (.int p5), .val (.int (1 : Int32)), .val (.ref b75), .val (.ref b76), .unset, .unset] [(.int p2), (.int (0 : Int32)), (.ref b76)])) rfl rfl (hb hby at_37)
    refine own_by st81 ?_
    have V_b76_81 : Arv Z h81 b76 k76 .int (1 : Int32) [(.int p2)] (.int (0 : Int32)) := Arv.set Ar80 qa80 Sa80 Na80 Ha80 Ga80 rfl W81 0 rfl (Nat.le_of_ble_eq_true rfl)
    have V_b75_81 := V_b75_79.other W81 ne_b75_b76
    have E_b75_81 := E_b75_79.wr W81
    have E_b76_81 := E_b76_79.wr W81
    have N81 := Fr.snoc X81 N79 g_b76
    have Z81 : n0 ≤ h81.size := Nat.le_trans Z79 (Keep.of_wr W81).1
    show own_Fin _ _ _ _ (T81.setTop (mkF m 38 #[.val (.int p1), .val (.int p2), .val (.int p3), .val (.int p4), .val (.int p5), .val (.int (1 : Int32)), .val (.ref b75), .val (.ref b76), .unset, .unset] []))
    refine own_go (XS.iload X81.here hx rfl (hb hby at_38) rfl (Steps.refl _)) ?_
    show own_Fin _ _ _ _ (T81.setTop (mkF m 40 #[.val (.int p1), .val (.int p2), .val (.int p3), .val (.int p4), .val (.int p5), .val (.int (1 : Int32)), .val (.ref b75), .val (.ref b76), .unset, .unset] [(.int (1 : Int32))]))
    refine own_go (XS.iconst X81.here hx rfl (hb hby at_40) (Steps.refl _)) ?_
    show own_Fin _ _ _ _ (T81.setTop (mkF m 41 #[.val (.int p1), .val (.int p2), .val (.int p3), .val (.int p4), .val (.int p5), .val (.int (1 : Int32)), .val (.ref b75), .val (.ref b76), .unset, .unset] [(.int (1 : Int32)), (.int (1 : Int32))]))
    refine own_go (XS.icmpYes X81.here hx rfl (pc0 := 41) (pc' := 57) rfl (hb hby at_41) rfl (flt (by decide : ¬ ((1 : Int32) < (1 : Int32)))).2.2.2 (by decide) (by decide) (Steps.refl _)) ?_
    show own_Fin _ _ _ _ (T81.setTop (mkF m 57 #[.val (.int p1), .val (.int p2), .val (.int p3), .val (.int p4), .val (.int p5), .val (.int (1 : Int32)), .val (.ref b75), .val (.ref b76), .unset, .unset] []))
    refine own_go (XS.iload X81.here hx rfl (hb hby at_57) rfl (Steps.refl _)) ?_
    show own_Fin _ _ _ _ (T81.setTop (mkF m 59 #[.val (.int p1), .val (.int p2), .val (.int p3), .val (.int p4), .val (.int p5), .val (.int (1 : Int32)), .val (.ref b75), .val (.ref b76), .unset, .unset] [(.int (1 : Int32))]))
    refine own_go (XS.iconst X81.here hx rfl (hb hby at_59) (Steps.refl _)) ?_
    show own_Fin _ _ _ _ (T81.setTop (mkF m 60 #[.val (.int p1), .val (.int p2), .val (.int p3), .val (.int p4), .val (.int p5), .val (.int (1 : Int32)), .val (.ref b75), .val (.ref b76), .unset, .unset] [(.int (2 : Int32)), (.int (1 : Int32))]))
    refine own_go (XS.icmpYes X81.here hx rfl (pc0 := 60) (pc' := 76) rfl (hb hby at_60) rfl (flt (by decide : ¬ ((2 : Int32) < (1 : Int32)))).2.2.2 (by decide) (by decide) (Steps.refl _)) ?_
    show own_Fin _ _ _ _ (T81.setTop (mkF m 76 #[.val (.int p1), .val (.int p2), .val (.int p3), .val (.int p4), .val (.int p5), .val (.int (1 : Int32)), .val (.ref b75), .val (.ref b76), .unset, .unset] []))
    refine own_go (XS.iload X81.here hx rfl (hb hby at_76) rfl (Steps.refl _)) ?_
    show own_Fin _ _ _ _ (T81.setTop (mkF m 78 #[.val (.int p1), .val (.int p2), .val (.int p3), .val (.int p4), .val (.int p5), .val (.int (1 : Int32)), .val (.ref b75), .val (.ref b76), .unset, .unset] [(.int (1 : Int32))]))
    refine own_go (XS.iconst X81.here hx rfl (hb hby at_78) (Steps.refl _)) ?_
    show own_Fin _ _ _ _ (T81.setTop (mkF m 79 #[.val (.int p1), .val (.int p2), .val (.int p3), .val (.int p4), .val (.int p5), .val (.int (1 : Int32)), .val (.ref b75), .val (.ref b76), .unset, .unset] [(.int (3 : Int32)), (.int (1 : Int32))]))
    refine own_go (XS.icmpYes X81.here hx rfl (pc0 := 79) (pc' := 97) rfl (hb hby at_79) rfl (flt (by decide : ¬ ((3 : Int32) < (1 : Int32)))).2.2.2 (by decide) (by decide) (Steps.refl _)) ?_
    show own_Fin _ _ _ _ (T81.setTop (mkF m 97 #[.val (.int p1), .val (.int p2), .val (.int p3), .val (.int p4), .val (.int p5), .val (.int (1 : Int32)), .val (.ref b75), .val (.ref b76), .unset, .unset] []))
    refine own_go (XS.iload X81.here hx rfl (hb hby at_97) rfl (Steps.refl _)) ?_
    show own_Fin _ _ _ _ (T81.setTop (mkF m 99 #[.val (.int p1), .val (.int p2), .val (.int p3), .val (.int p4), .val (.int p5), .val (.int (1 : Int32)), .val (.ref b75), .val (.ref b76), .unset, .unset] [(.int (1 : Int32))]))
    refine own_go (XS.ifNo X81.here hx rfl (hb hby at_99) rfl ((if0 _ _).trans (tlt (by decide : (0 : Int32) < (1 : Int32))).2.2.2) (Steps.refl _)) ?_
    show own_Fin _ _ _ _ (T81.setTop (mkF m 102 #[.val (.int p1), .val (.int p2), .val (.int p3), .val (.int p4), .val (.int p5), .val (.int (1 : Int32)), .val (.ref b75), .val (.ref b76), .unset, .unset] []))
    refine own_go (XS.iloadN X81.here hx rfl (hb hby at_102) rfl (Steps.refl _)) ?_
    show own_Fin _ _ _ _ (T81.setTop (mkF m 103 #[.val (.int p1), .val (.int p2), .val (.int p3), .val (.int p4), .val (.int p5), .val (.int (1 : Int32)), .val (.ref b75), .val (.ref b76), .unset, .unset] [(.int p2)]))
    have jn83 : ∀ (Tj83 : State) (Lj83 : List Loc) (xe82 : Int32), Stand p l e room_1 s m #[(.int p1), (.int p2), (.int p3), (.int p4), (.int p5)] below meth c Tj83 Lj83 2 2 → Tj83.heap = h81 → Fr n0 Lj83 → (xe82 = (if (decide (p2 < (0 : Int32))) then (1 : Int32) else 0)) → own_Fin p e below (G0 Z p1 p2 p3 p4 p5 h0 n0 s) (Tj83.setTop (mkF m 142 #[.val (.int p1), .val (.int p2), .val (.int p3), .val (.int p4), .val (.int p5), .val (.int (1 : Int32)), .val (.ref b75), .val (.ref b76), .unset, .unset] [(.int xe82)])) := by
      intro Tj83 Lj83 xe82 Xj83 ej83 Nj83 hj83
      refine own_go (XS.istore Xj83.here hx rfl (hb hby at_142) rfl (l' := #[.val (.int p1), .val (.int p2), .val (.int p3), .val (.int p4), .val (.int p5), .val (.int (1 : Int32)), .val (.ref b75), .val (.ref b76), .val (.int xe82), .unset]) rfl (Steps.refl _)) ?_
      show own_Fin _ _ _ _ (Tj83.setTop (mkF m 144 #[.val (.int p1), .val (.int p2), .val (.int p3), .val (.int p4), .val (.int p5), .val (.int (1 : Int32)), .val (.ref b75), .val (.ref b76), .val (.int xe82), .unset] []))
      obtain ⟨T84, h84, X84, e84, E84, A84, D84, U84, st84⟩ := newO Xj83 hx hZ hown (hw _ (List.mem_of_getElem? (i := 2) rfl)) (hw _ (List.mem_of_getElem? (i := 3) rfl)) (hw _ (List.mem_of_getElem? (i := 4) rfl)) ej83 (g := (mkF m 144 #[.val (.int p1), .val (.int p2), .val (.int p3), .val (.int p4), .val (.int p5), .val (.int (1 : Int32)), .val (.ref b75), .val (.ref b76), .val (.int xe82), .unset] [])) rfl (hb hby at_144) (by decide) (by decide)
      obtain ⟨b84, g84⟩ : ∃ z, z = h81.size := ⟨_, rfl⟩
      rw [← g84] at A84 D84 U84 st84
      refine own_by st84 ?_
      have ne_b75_b84 : b75 ≠ b84 := Nat.ne_of_lt (Nat.lt_of_lt_of_eq V_b75_81.lt g84.symm)
      have ne_b76_b84 : b76 ≠ b84 := Nat.ne_of_lt (Nat.lt_of_lt_of_eq V_b76_81.lt g84.symm)
      have V_b75_84 := V_b75_81.ext E84
      have E_b75_84 := E_b75_81.ext E84
      have V_b76_84 := V_b76_81.ext E84
      have E_b76_84 := E_b76_81.ext E84
      have g_b84 : n0 ≤ b84 := Nat.le_trans Z81 (Nat.le_of_eq g84.symm)
      have Z84 : n0 ≤ h84.size := Nat.le_trans Z81 E84.1
      have E_b84 := A84
      have F_variables_b84 : Fld Z h84 b84 "com/example/nosto/nosto/Arguments" "variables" "[I" .null := D84 (Or.inr (hw _ (List.mem_of_getElem? (i := 21) rfl))) (ty := (.array .int)) (by decide)
      have F_constants_b84 : Fld Z h84 b84 "com/example/nosto/nosto/Arguments" "constants" "[I" .null := D84 (Or.inr (hw _ (List.mem_of_getElem? (i := 23) rfl))) (ty := (.array .int)) (by decide)
      show own_Fin _ _ _ _ (T84.setTop (mkF m 147 #[.val (.int p1), .val (.int p2), .val (.int p3), .val (.int p4), .val (.int p5), .val (.int (1 : Int32)), .val (.ref b75), .val (.ref b76), .val (.int xe82), .unset] [(.ref b84)]))
      refine own_go (XS.dup X84.here hx rfl (hb hby at_147) rfl rfl (Steps.refl _)) ?_
      show own_Fin _ _ _ _ (T84.setTop (mkF m 148 #[.val (.int p1), .val (.int p2), .val (.int p3), .val (.int p4), .val (.int p5), .val (.int (1 : Int32)), .val (.ref b75), .val (.ref b76), .val (.int xe82), .unset] [(.ref b84), (.ref b84)]))
      refine own_go (XS.aload X84.here hx rfl (hb hby at_148) rfl rfl (Steps.refl _)) ?_
      show own_Fin _ _ _ _ (T84.setTop (mkF m 150 #[.val (.int p1), .val (.int p2), .val (.int p3), .val (.int p4), .val (.int p5), .val (.int (1 : Int32)), .val (.ref b75), .val (.ref b76), .val (.int xe82), .unset] [(.ref b75), (.ref b84), (.ref b84)]))
      refine own_go (XS.aload X84.here hx rfl (hb hby at_150) rfl rfl (Steps.refl _)) ?_
      show own_Fin _ _ _ _ (T84.setTop (mkF m 152 #[.val (.int p1), .val (.int p2), .val (.int p3), .val (.int p4), .val (.int p5), .val (.int (1 : Int32)), .val (.ref b75), .val (.ref b76), .val (.int xe82), .unset] [(.ref b76), (.ref b75), (.ref b84), (.ref b84)]))
      obtain ⟨_, _, ⟨T85, L85, k85, n85⟩, -, X85, ⟨Lc85, hQ85, l85, y85, z85⟩, st85⟩ := X84.specialBack hx (y := (⟨"com/example/nosto/nosto/Arguments", "<init>", "([I[I)V"⟩ : MethodName)) rfl hown (mvT hZ (hw _ (List.mem_of_getElem? (i := 5) rfl))) (mvT hZ (hw _ (List.mem_of_getElem? (i := 6) rfl))) (mvT hZ (hw _ (List.mem_of_getElem? (i := 7) rfl))) (by decide) (backOf (W := 1) (rm1 l Z a0 hw [] b84 b75 b76 k75 (1 : Int32) [(.int (own_var p2))] (.int (0 : Int32)) k76 (1 : Int32) [(.int p2)] (.int (0 : Int32)) h84 n0 Z84 E_b84 F_variables_b84 F_constants_b84 g_b84 ne_b75_b84 ne_b76_b84 V_b75_84 E_b75_84 (by decide) V_b76_84 E_b76_84 (by decide)) hZ (hw _ (List.mem_of_getElem? (i := 7) rfl)) (hw _ (List.mem_of_getElem? (i := 4) rfl)) (by decide) (by decide)) (g := (mkF m 152 #[.val (.int p1), .val (.int p2), .val (.int p3), .val (.int p4), .val (.int p5), .val (.int (1 : Int32)), .val (.ref b75), .val (.ref b76), .val (.int xe82), .unset] [(.ref b76), (.ref b75), (.ref b84), (.ref b84)])) rfl (by rw [hml]; rfl) (Steps.refl _) (a := b84) (argsL := [(.ref b75), (.ref b76)]) (rest := [(.ref b84)]) (lenOf pd__28__5b_I_5b_I_29_V rfl) rfl (by show 2 * 0 + _ ≤ _; exact Nat.le_of_eq rfl) (hb hby at_152) (fun _ _ => ⟨rfl, e84, (by decide : 3 + 2 ≤ _), (by decide : 4 + 8 ≤ _)⟩)
      dsimp only [Pt.U, Pt.locs, Pt.cells, Pt.slots] at X85 l85 y85 z85 st85 hQ85
      subst l85 y85 z85
      refine own_go st85 ?_
      obtain ⟨rfl, Nq85, K85, Ek85, bb85, gb85, Fk85, Vk85⟩ := hQ85
      have V_b75_85 := V_b75_84.keep K85 (ninS ne_b75_b84 nin0)
      have E_b75_85 := E_b75_84.keep K85
      have V_b76_85 := V_b76_84.keep K85 (ninS ne_b76_b84 nin0)
      have E_b76_85 := E_b76_84.keep K85
      have E_b84_85 := E_b84.keep K85
      have Z85 := Nat.le_trans Z84 K85.1
      have N85 := Fr.app Nj83 Nq85
      show own_Fin _ _ _ _ (T85.setTop (mkF m 155 #[.val (.int p1), .val (.int p2), .val (.int p3), .val (.int p4), .val (.int p5), .val (.int (1 : Int32)), .val (.ref b75), .val (.ref b76), .val (.int xe82), .unset] [(.ref b84)]))
      refine own_go (XS.astore X85.here hx rfl (hb hby at_155) rfl rfl (l' := #[.val (.int p1), .val (.int p2), .val (.int p3), .val (.int p4), .val (.int p5), .val (.int (1 : Int32)), .val (.ref b75), .val (.ref b76), .val (.int xe82), .val (.ref b84)]) rfl (Steps.refl _)) ?_
      show own_Fin _ _ _ _ (T85.setTop (mkF m 157 #[.val (.int p1), .val (.int p2), .val (.int p3), .val (.int p4), .val (.int p5), .val (.int (1 : Int32)), .val (.ref b75), .val (.ref b76), .val (.int xe82), .val (.ref b84)] []))
      refine own_go (XS.aload X85.here hx rfl (hb hby at_157) rfl rfl (Steps.refl _)) ?_
      show own_Fin _ _ _ _ (T85.setTop (mkF m 159 #[.val (.int p1), .val (.int p2), .val (.int p3), .val (.int p4), .val (.int p5), .val (.int (1 : Int32)), .val (.ref b75), .val (.ref b76), .val (.int xe82), .val (.ref b84)] [(.ref b84)]))
      obtain ⟨cq86, kq86, q86a, q86b, q86c⟩ := isOf hZ rfl Ek85
      obtain ⟨_, _, ⟨T86, L86, k86, n86⟩, -, X86, ⟨Lc86, hQ86, l86, y86, z86⟩, st86⟩ := X85.virtualBack hx (y := (⟨"com/example/nosto/nosto/Arguments", "namesConstant", "()Z"⟩ : MethodName)) (z := (⟨"com/example/nosto/nosto/Arguments", "namesConstant", "()Z"⟩ : MethodName)) hown (mvT hZ (hw _ (List.mem_of_getElem? (i := 24) rfl))) (mvT hZ (hw _ (List.mem_of_getElem? (i := 25) rfl))) (notFace_of_selects (args := #[]) (mvT hZ (hw _ (List.mem_of_getElem? (i := 27) rfl)))) (mvT hZ (hw _ (List.mem_of_getElem? (i := 27) rfl))) (mvT hZ (hw _ (List.mem_of_getElem? (i := 26) rfl))) (by decide) (backOf (W := 0) (rm3_1 l Z a0 hw [] b84 bb85 k75 (own_var p2) T85.heap n0 Z85 Fk85 Vk85) hZ (hw _ (List.mem_of_getElem? (i := 28) rfl)) (hw _ (List.mem_of_getElem? (i := 4) rfl)) (by decide) (by decide)) q86a q86c (g := (mkF m 159 #[.val (.int p1), .val (.int p2), .val (.int p3), .val (.int p4), .val (.int p5), .val (.int (1 : Int32)), .val (.ref b75), .val (.ref b76), .val (.int xe82), .val (.ref b84)] [(.ref b84)])) rfl (by rw [hml]; rfl) (Steps.refl _) (argsL := []) (rest := []) (lenOf pd__28__29_Z rfl) rfl (by show 2 * 0 + _ ≤ _; exact Nat.le_of_eq rfl) (hb hby at_159) (fun _ _ => ⟨rfl, rfl, (by decide : 5 + 0 ≤ _), (by decide : 12 + 0 ≤ _)⟩)
      dsimp only [Pt.U, Pt.locs, Pt.cells, Pt.slots] at X86 l86 y86 z86 st86 hQ86
      subst l86 y86 z86
      obtain ⟨rfl, Nq86, e86⟩ := hQ86
      refine own_go st86 ?_
      have N86 := Fr.app N85 Nq86
      show own_Fin _ _ _ _ (T86.setTop (mkF m 162 #[.val (.int p1), .val (.int p2), .val (.int p3), .val (.int p4), .val (.int p5), .val (.int (1 : Int32)), .val (.ref b75), .val (.ref b76), .val (.int xe82), .val (.ref b84)] [(.int (if (decide ((own_var p2) < (0 : Int32))) then (1 : Int32) else 0))]))
      refine own_go (XS.iload X86.here hx rfl (hb hby at_162) rfl (Steps.refl _)) ?_
      show own_Fin _ _ _ _ (T86.setTop (mkF m 164 #[.val (.int p1), .val (.int p2), .val (.int p3), .val (.int p4), .val (.int p5), .val (.int (1 : Int32)), .val (.ref b75), .val (.ref b76), .val (.int xe82), .val (.ref b84)] [(.int xe82), (.int (if (decide ((own_var p2) < (0 : Int32))) then (1 : Int32) else 0))]))
      refine own_go (XS.icmpNo X86.here hx rfl (hb hby at_164) rfl (teq (show (if (decide ((own_var p2) < (0 : Int32))) then (1 : Int32) else 0) = xe82 from by rw [hj83]; simp only [own_varneg])).2 (Steps.refl _)) ?_
      show own_Fin _ _ _ _ (T86.setTop (mkF m 167 #[.val (.int p1), .val (.int p2), .val (.int p3), .val (.int p4), .val (.int p5), .val (.int (1 : Int32)), .val (.ref b75), .val (.ref b76), .val (.int xe82), .val (.ref b84)] []))
      refine own_go (XS.iconst X86.here hx rfl (hb hby at_167) (Steps.refl _)) ?_
      show own_Fin _ _ _ _ (T86.setTop (mkF m 168 #[.val (.int p1), .val (.int p2), .val (.int p3), .val (.int p4), .val (.int p5), .val (.int (1 : Int32)), .val (.ref b75), .val (.ref b76), .val (.int xe82), .val (.ref b84)] [(.int (1 : Int32))]))
      refine own_go (XS.goto X86.here hx rfl (pc0 := 168) (pc' := 172) rfl (hb hby at_168) (by decide) (by decide) (Steps.refl _)) ?_
      show own_Fin _ _ _ _ (T86.setTop (mkF m 172 #[.val (.int p1), .val (.int p2), .val (.int p3), .val (.int p4), .val (.int p5), .val (.int (1 : Int32)), .val (.ref b75), .val (.ref b76), .val (.int xe82), .val (.ref b84)] [(.int (1 : Int32))]))
      obtain ⟨fs87, hr87, hrun87, hended87, hW87, hsame87⟩ := X86.leave (v := some (.int (1 : Int32))) (fun h => by rw [Bd.returns] at h; cases h)
      refine own_done (retN X86 hx (t := .boolean) Bd.returns (by simp) (hb hby at_172) hr87) hrun87 hended87 ⟨_, _, rfl, ?_, ⟨_, rfl⟩, hW87, hsame87.mono (by decide) (by decide)⟩
      show Q0 Z p1 p2 p3 p4 p5 h0 n0 _ T86.heap _
      rw [e86]
      exact ⟨rfl, N86⟩
    by_cases c103_88 : p2 < (0 : Int32)
    · refine own_go (XS.ifYes X81.here hx rfl (pc0 := 103) (pc' := 137) rfl (hb hby at_103) rfl ((if0 _ _).trans (tlt c103_88).1) (by decide) (by decide) (Steps.refl _)) ?_
      show own_Fin _ _ _ _ (T81.setTop (mkF m 137 #[.val (.int p1), .val (.int p2), .val (.int p3), .val (.int p4), .val (.int p5), .val (.int (1 : Int32)), .val (.ref b75), .val (.ref b76), .unset, .unset] []))
      refine own_go (XS.iconst X81.here hx rfl (hb hby at_137) (Steps.refl _)) ?_
      show own_Fin _ _ _ _ (T81.setTop (mkF m 138 #[.val (.int p1), .val (.int p2), .val (.int p3), .val (.int p4), .val (.int p5), .val (.int (1 : Int32)), .val (.ref b75), .val (.ref b76), .unset, .unset] [(.int (1 : Int32))]))
      refine own_go (XS.goto X81.here hx rfl (pc0 := 138) (pc' := 142) rfl (hb hby at_138) (by decide) (by decide) (Steps.refl _)) ?_
      show own_Fin _ _ _ _ (T81.setTop (mkF m 142 #[.val (.int p1), .val (.int p2), .val (.int p3), .val (.int p4), .val (.int p5), .val (.int (1 : Int32)), .val (.ref b75), .val (.ref b76), .unset, .unset] [(.int (1 : Int32))]))
      exact jn83 T81 _ (1 : Int32) X81 e81 N81 (by simp [c103_88])
    · refine own_go (XS.ifNo X81.here hx rfl (hb hby at_103) rfl ((if0 _ _).trans (flt c103_88).1) (Steps.refl _)) ?_
      show own_Fin _ _ _ _ (T81.setTop (mkF m 106 #[.val (.int p1), .val (.int p2), .val (.int p3), .val (.int p4), .val (.int p5), .val (.int (1 : Int32)), .val (.ref b75), .val (.ref b76), .unset, .unset] []))
      refine own_go (XS.iload X81.here hx rfl (hb hby at_106) rfl (Steps.refl _)) ?_
      show own_Fin _ _ _ _ (T81.setTop (mkF m 108 #[.val (.int p1), .val (.int p2), .val (.int p3), .val (.int p4), .val (.int p5), .val (.int (1 : Int32)), .val (.ref b75), .val (.ref b76), .unset, .unset] [(.int (1 : Int32))]))
      refine own_go (XS.iconst X81.here hx rfl (hb hby at_108) (Steps.refl _)) ?_
      show own_Fin _ _ _ _ (T81.setTop (mkF m 109 #[.val (.int p1), .val (.int p2), .val (.int p3), .val (.int p4), .val (.int p5), .val (.int (1 : Int32)), .val (.ref b75), .val (.ref b76), .unset, .unset] [(.int (1 : Int32)), (.int (1 : Int32))]))
      refine own_go (XS.icmpYes X81.here hx rfl (pc0 := 109) (pc' := 116) rfl (hb hby at_109) rfl (flt (by decide : ¬ ((1 : Int32) < (1 : Int32)))).2.2.2 (by decide) (by decide) (Steps.refl _)) ?_
      show own_Fin _ _ _ _ (T81.setTop (mkF m 116 #[.val (.int p1), .val (.int p2), .val (.int p3), .val (.int p4), .val (.int p5), .val (.int (1 : Int32)), .val (.ref b75), .val (.ref b76), .unset, .unset] []))
      refine own_go (XS.iload X81.here hx rfl (hb hby at_116) rfl (Steps.refl _)) ?_
      show own_Fin _ _ _ _ (T81.setTop (mkF m 118 #[.val (.int p1), .val (.int p2), .val (.int p3), .val (.int p4), .val (.int p5), .val (.int (1 : Int32)), .val (.ref b75), .val (.ref b76), .unset, .unset] [(.int (1 : Int32))]))
      refine own_go (XS.iconst X81.here hx rfl (hb hby at_118) (Steps.refl _)) ?_
      show own_Fin _ _ _ _ (T81.setTop (mkF m 119 #[.val (.int p1), .val (.int p2), .val (.int p3), .val (.int p4), .val (.int p5), .val (.int (1 : Int32)), .val (.ref b75), .val (.ref b76), .unset, .unset] [(.int (2 : Int32)), (.int (1 : Int32))]))
      refine own_go (XS.icmpYes X81.here hx rfl (pc0 := 119) (pc' := 126) rfl (hb hby at_119) rfl (flt (by decide : ¬ ((2 : Int32) < (1 : Int32)))).2.2.2 (by decide) (by decide) (Steps.refl _)) ?_
      show own_Fin _ _ _ _ (T81.setTop (mkF m 126 #[.val (.int p1), .val (.int p2), .val (.int p3), .val (.int p4), .val (.int p5), .val (.int (1 : Int32)), .val (.ref b75), .val (.ref b76), .unset, .unset] []))
      refine own_go (XS.iload X81.here hx rfl (hb hby at_126) rfl (Steps.refl _)) ?_
      show own_Fin _ _ _ _ (T81.setTop (mkF m 128 #[.val (.int p1), .val (.int p2), .val (.int p3), .val (.int p4), .val (.int p5), .val (.int (1 : Int32)), .val (.ref b75), .val (.ref b76), .unset, .unset] [(.int (1 : Int32))]))
      refine own_go (XS.iconst X81.here hx rfl (hb hby at_128) (Steps.refl _)) ?_
      show own_Fin _ _ _ _ (T81.setTop (mkF m 129 #[.val (.int p1), .val (.int p2), .val (.int p3), .val (.int p4), .val (.int p5), .val (.int (1 : Int32)), .val (.ref b75), .val (.ref b76), .unset, .unset] [(.int (3 : Int32)), (.int (1 : Int32))]))
      refine own_go (XS.icmpYes X81.here hx rfl (pc0 := 129) (pc' := 141) rfl (hb hby at_129) rfl (flt (by decide : ¬ ((3 : Int32) < (1 : Int32)))).2.2.2 (by decide) (by decide) (Steps.refl _)) ?_
      show own_Fin _ _ _ _ (T81.setTop (mkF m 141 #[.val (.int p1), .val (.int p2), .val (.int p3), .val (.int p4), .val (.int p5), .val (.int (1 : Int32)), .val (.ref b75), .val (.ref b76), .unset, .unset] []))
      refine own_go (XS.iconst X81.here hx rfl (hb hby at_141) (Steps.refl _)) ?_
      show own_Fin _ _ _ _ (T81.setTop (mkF m 142 #[.val (.int p1), .val (.int p2), .val (.int p3), .val (.int p4), .val (.int p5), .val (.int (1 : Int32)), .val (.ref b75), .val (.ref b76), .unset, .unset] [(.int (0 : Int32))]))
      exact jn83 T81 _ (0 : Int32) X81 e81 N81 (by simp [c103_88])
  · show own_Fin _ _ _ _ (s₁.setTop (mkF m 8 #[.val (.int p1), .val (.int p2), .val (.int p3), .val (.int p4), .val (.int p5), .val (.int (2 : Int32)), .unset, .unset, .unset, .unset] []))
    refine own_go (XS.iload X0.here hx rfl (hb hby at_8) rfl (Steps.refl _)) ?_
    show own_Fin _ _ _ _ (s₁.setTop (mkF m 10 #[.val (.int p1), .val (.int p2), .val (.int p3), .val (.int p4), .val (.int p5), .val (.int (2 : Int32)), .unset, .unset, .unset, .unset] [(.int (2 : Int32))]))
    obtain ⟨T89, h89, k89, X89, e89, E89, A89, B89, st89⟩ := newPE X0 hx hZ (hw _ (List.mem_of_getElem? (i := 1) rfl)) e0 (g := (mkF m 10 #[.val (.int p1), .val (.int p2), .val (.int p3), .val (.int p4), .val (.int p5), .val (.int (2 : Int32)), .unset, .unset, .unset, .unset] [(.int (2 : Int32))])) rfl (hb hby at_10) rfl (by decide) (cap := 2) (by decide) (by decide) (by decide) (by decide) (ad := "[I") (by decide)
    obtain ⟨b89, g89⟩ : ∃ z, z = h0.size := ⟨_, rfl⟩
    rw [← g89] at A89 B89 st89
    refine own_by st89 ?_
    have g_b89 : n0 ≤ b89 := Nat.le_trans Z0 (Nat.le_of_eq g89.symm)
    have Z89 : n0 ≤ h89.size := Nat.le_trans Z0 E89.1
    have V_b89 : Arv Z h89 b89 k89 .int (2 : Int32) [(.int (0 : Int32)), (.int (0 : Int32))] (.int (0 : Int32)) := (Arv.new A89 (by decide)).pad (pad_rep [] (.int (0 : Int32)) 2)
    have E_b89 := B89
    show own_Fin _ _ _ _ (T89.setTop (mkF m 12 #[.val (.int p1), .val (.int p2), .val (.int p3), .val (.int p4), .val (.int p5), .val (.int (2 : Int32)), .unset, .unset, .unset, .unset] [(.ref b89)]))
    refine own_go (XS.astore X89.here hx rfl (hb hby at_12) rfl rfl (l' := #[.val (.int p1), .val (.int p2), .val (.int p3), .val (.int p4), .val (.int p5), .val (.int (2 : Int32)), .val (.ref b89), .unset, .unset, .unset]) rfl (Steps.refl _)) ?_
    show own_Fin _ _ _ _ (T89.setTop (mkF m 14 #[.val (.int p1), .val (.int p2), .val (.int p3), .val (.int p4), .val (.int p5), .val (.int (2 : Int32)), .val (.ref b89), .unset, .unset, .unset] []))
    refine own_go (XS.iload X89.here hx rfl (hb hby at_14) rfl (Steps.refl _)) ?_
    show own_Fin _ _ _ _ (T89.setTop (mkF m 16 #[.val (.int p1), .val (.int p2), .val (.int p3), .val (.int p4), .val (.int p5), .val (.int (2 : Int32)), .val (.ref b89), .unset, .unset, .unset] [(.int (2 : Int32))]))
    obtain ⟨T90, h90, k90, X90, e90, E90, A90, B90, st90⟩ := newPE X89 hx hZ (hw _ (List.mem_of_getElem? (i := 1) rfl)) e89 (g := (mkF m 16 #[.val (.int p1), .val (.int p2), .val (.int p3), .val (.int p4), .val (.int p5), .val (.int (2 : Int32)), .val (.ref b89), .unset, .unset, .unset] [(.int (2 : Int32))])) rfl (hb hby at_16) rfl (by decide) (cap := 2) (by decide) (by decide) (by decide) (by decide) (ad := "[I") (by decide)
    obtain ⟨b90, g90⟩ : ∃ z, z = h89.size := ⟨_, rfl⟩
    rw [← g90] at A90 B90 st90
    refine own_by st90 ?_
    have ne_b89_b90 : b89 ≠ b90 := Nat.ne_of_lt (Nat.lt_of_lt_of_eq V_b89.lt g90.symm)
    have V_b89_90 := V_b89.ext E90
    have E_b89_90 := E_b89.ext E90
    have g_b90 : n0 ≤ b90 := Nat.le_trans Z89 (Nat.le_of_eq g90.symm)
    have Z90 : n0 ≤ h90.size := Nat.le_trans Z89 E90.1
    have V_b90 : Arv Z h90 b90 k90 .int (2 : Int32) [(.int (0 : Int32)), (.int (0 : Int32))] (.int (0 : Int32)) := (Arv.new A90 (by decide)).pad (pad_rep [] (.int (0 : Int32)) 2)
    have E_b90 := B90
    show own_Fin _ _ _ _ (T90.setTop (mkF m 18 #[.val (.int p1), .val (.int p2), .val (.int p3), .val (.int p4), .val (.int p5), .val (.int (2 : Int32)), .val (.ref b89), .unset, .unset, .unset] [(.ref b90)]))
    refine own_go (XS.astore X90.here hx rfl (hb hby at_18) rfl rfl (l' := #[.val (.int p1), .val (.int p2), .val (.int p3), .val (.int p4), .val (.int p5), .val (.int (2 : Int32)), .val (.ref b89), .val (.ref b90), .unset, .unset]) rfl (Steps.refl _)) ?_
    show own_Fin _ _ _ _ (T90.setTop (mkF m 20 #[.val (.int p1), .val (.int p2), .val (.int p3), .val (.int p4), .val (.int p5), .val (.int (2 : Int32)), .val (.ref b89), .val (.ref b90), .unset, .unset] []))
    refine own_go (XS.iload X90.here hx rfl (hb hby at_20) rfl (Steps.refl _)) ?_
    show own_Fin _ _ _ _ (T90.setTop (mkF m 22 #[.val (.int p1), .val (.int p2), .val (.int p3), .val (.int p4), .val (.int p5), .val (.int (2 : Int32)), .val (.ref b89), .val (.ref b90), .unset, .unset] [(.int (2 : Int32))]))
    refine own_go (XS.ifNo X90.here hx rfl (hb hby at_22) rfl ((if0 _ _).trans (tlt (by decide : (0 : Int32) < (2 : Int32))).2.2.2) (Steps.refl _)) ?_
    show own_Fin _ _ _ _ (T90.setTop (mkF m 25 #[.val (.int p1), .val (.int p2), .val (.int p3), .val (.int p4), .val (.int p5), .val (.int (2 : Int32)), .val (.ref b89), .val (.ref b90), .unset, .unset] []))
    refine own_go (XS.aload X90.here hx rfl (hb hby at_25) rfl rfl (Steps.refl _)) ?_
    show own_Fin _ _ _ _ (T90.setTop (mkF m 27 #[.val (.int p1), .val (.int p2), .val (.int p3), .val (.int p4), .val (.int p5), .val (.int (2 : Int32)), .val (.ref b89), .val (.ref b90), .unset, .unset] [(.ref b89)]))
    refine own_go (XS.iconst X90.here hx rfl (hb hby at_27) (Steps.refl _)) ?_
    show own_Fin _ _ _ _ (T90.setTop (mkF m 28 #[.val (.int p1), .val (.int p2), .val (.int p3), .val (.int p4), .val (.int p5), .val (.int (2 : Int32)), .val (.ref b89), .val (.ref b90), .unset, .unset] [(.int (0 : Int32)), (.ref b89)]))
    refine own_go (XS.iloadN X90.here hx rfl (hb hby at_28) rfl (Steps.refl _)) ?_
    show own_Fin _ _ _ _ (T90.setTop (mkF m 29 #[.val (.int p1), .val (.int p2), .val (.int p3), .val (.int p4), .val (.int p5), .val (.int (2 : Int32)), .val (.ref b89), .val (.ref b90), .unset, .unset] [(.int p2), (.int (0 : Int32)), (.ref b89)]))
    obtain ⟨_, _, ⟨T91, L91, k91, n91⟩, -, X91, ⟨Lc91, hQ91, l91, y91, z91⟩, st91⟩ := Jvm.LawKit.callS X90 hx (y := (⟨"com/example/nosto/nosto/ArgumentsNamesConstantPinLaw", "var", "(I)I"⟩ : MethodName)) hown (mvT hZ (hw _ (List.mem_of_getElem? (i := 29) rfl))) (mvT hZ (hw _ (List.mem_of_getElem? (i := 30) rfl))) (mvT hZ (hw _ (List.mem_of_getElem? (i := 31) rfl))) (mvT hZ (hw _ (List.mem_of_getElem? (i := 32) rfl))) (by decide) (backOf (W := 2) (rm4 l Z a0 hw [] p2 h90 n0 Z90) hZ (hw _ (List.mem_of_getElem? (i := 32) rfl)) (hw _ (List.mem_of_getElem? (i := 31) rfl)) (by decide) (by decide)) (g := (mkF m 29 #[.val (.int p1), .val (.int p2), .val (.int p3), .val (.int p4), .val (.int p5), .val (.int (2 : Int32)), .val (.ref b89), .val (.ref b90), .unset, .unset] [(.int p2), (.int (0 : Int32)), (.ref b89)])) rfl (by rw [hml]; rfl) (argsL := [(.int p2)]) (rest := [(.int (0 : Int32)), (.ref b89)]) (lenOf pd__28_I_29_I rfl) rfl (by show 2 * 0 + _ ≤ _; exact Nat.le_of_eq rfl) (hb hby at_29) (fun _ _ => ⟨rfl, e90, (by decide : 2 + 0 ≤ _), (by decide : 4 + 0 ≤ _)⟩)
    dsimp only [Pt.U, Pt.locs, Pt.cells, Pt.slots] at X91 l91 y91 z91 st91 hQ91
    subst l91 y91 z91
    obtain ⟨rfl, Nq91, e91⟩ := hQ91
    refine own_by st91 ?_
    have N91 := Fr.app N0 Nq91
    show own_Fin _ _ _ _ (T91.setTop (mkF m 32 #[.val (.int p1), .val (.int p2), .val (.int p3), .val (.int p4), .val (.int p5), .val (.int (2 : Int32)), .val (.ref b89), .val (.ref b90), .unset, .unset] [(.int (own_var p2)), (.int (0 : Int32)), (.ref b89)]))
    obtain ⟨cl92, Ar92, qa92, Sa92, Na92, Ha92, Ga92⟩ := id V_b89_90
    have hin92 : ¬ ((0 : Int32) < 0 ∨ cl92.slots.size ≤ ((0 : Int32)).toNatClampNeg) := inb_of Sa92 ⟨by decide, by decide⟩
    obtain ⟨T93, h93, X93, e93, W93, st93⟩ := stI X91 hx hZ e91 Ar92 (j := (0 : Int32)) hin92 (g := (mkF m 32 #[.val (.int p1), .val (.int p2), .val (.int p3), .val (.int p4), .val (.int p5), .val (.int (2 : Int32)), .val (.ref b89), .val (.ref b90), .unset, .unset] [(.int (own_var p2)), (.int (0 : Int32)), (.ref b89)])) rfl rfl (hb hby at_32)
    refine own_by st93 ?_
    have V_b89_93 : Arv Z h93 b89 k89 .int (2 : Int32) [(.int (own_var p2)), (.int (0 : Int32))] (.int (0 : Int32)) := Arv.set Ar92 qa92 Sa92 Na92 Ha92 Ga92 rfl W93 0 rfl (Nat.le_of_ble_eq_true rfl)
    have E_b89_93 := E_b89_90.wr W93
    have V_b90_93 := V_b90.other W93 (Ne.symm ne_b89_b90)
    have E_b90_93 := E_b90.wr W93
    have N93 := Fr.snoc X93 N91 g_b89
    have Z93 : n0 ≤ h93.size := Nat.le_trans Z90 (Keep.of_wr W93).1
    show own_Fin _ _ _ _ (T93.setTop (mkF m 33 #[.val (.int p1), .val (.int p2), .val (.int p3), .val (.int p4), .val (.int p5), .val (.int (2 : Int32)), .val (.ref b89), .val (.ref b90), .unset, .unset] []))
    refine own_go (XS.aload X93.here hx rfl (hb hby at_33) rfl rfl (Steps.refl _)) ?_
    show own_Fin _ _ _ _ (T93.setTop (mkF m 35 #[.val (.int p1), .val (.int p2), .val (.int p3), .val (.int p4), .val (.int p5), .val (.int (2 : Int32)), .val (.ref b89), .val (.ref b90), .unset, .unset] [(.ref b90)]))
    refine own_go (XS.iconst X93.here hx rfl (hb hby at_35) (Steps.refl _)) ?_
    show own_Fin _ _ _ _ (T93.setTop (mkF m 36 #[.val (.int p1), .val (.int p2), .val (.int p3), .val (.int p4), .val (.int p5), .val (.int (2 : Int32)), .val (.ref b89), .val (.ref b90), .unset, .unset] [(.int (0 : Int32)), (.ref b90)]))
    refine own_go (XS.iloadN X93.here hx rfl (hb hby at_36) rfl (Steps.refl _)) ?_
    show own_Fin _ _ _ _ (T93.setTop (mkF m 37 #[.val (.int p1), .val (.int p2), .val (.int p3), .val (.int p4), .val (.int p5), .val (.int (2 : Int32)), .val (.ref b89), .val (.ref b90), .unset, .unset] [(.int p2), (.int (0 : Int32)), (.ref b90)]))
    obtain ⟨cl94, Ar94, qa94, Sa94, Na94, Ha94, Ga94⟩ := id V_b90_93
    have hin94 : ¬ ((0 : Int32) < 0 ∨ cl94.slots.size ≤ ((0 : Int32)).toNatClampNeg) := inb_of Sa94 ⟨by decide, by decide⟩
    obtain ⟨T95, h95, X95, e95, W95, st95⟩ := stI X93 hx hZ e93 Ar94 (j := (0 : Int32)) hin94 (g := (mkF m 37 #[.val (.int p1), .val (.int p2), .val (.int p3), .val (.int p4), .val (.int p5), .val (.int (2 : Int32)), .val (.ref b89), .val (.ref b90), .unset, .unset] [(.int p2), (.int (0 : Int32)), (.ref b90)])) rfl rfl (hb hby at_37)
    refine own_by st95 ?_
    have V_b90_95 : Arv Z h95 b90 k90 .int (2 : Int32) [(.int p2), (.int (0 : Int32))] (.int (0 : Int32)) := Arv.set Ar94 qa94 Sa94 Na94 Ha94 Ga94 rfl W95 0 rfl (Nat.le_of_ble_eq_true rfl)
    have V_b89_95 := V_b89_93.other W95 ne_b89_b90
    have E_b89_95 := E_b89_93.wr W95
    have E_b90_95 := E_b90_93.wr W95
    have N95 := Fr.snoc X95 N93 g_b90
    have Z95 : n0 ≤ h95.size := Nat.le_trans Z93 (Keep.of_wr W95).1
    show own_Fin _ _ _ _ (T95.setTop (mkF m 38 #[.val (.int p1), .val (.int p2), .val (.int p3), .val (.int p4), .val (.int p5), .val (.int (2 : Int32)), .val (.ref b89), .val (.ref b90), .unset, .unset] []))
    refine own_go (XS.iload X95.here hx rfl (hb hby at_38) rfl (Steps.refl _)) ?_
    show own_Fin _ _ _ _ (T95.setTop (mkF m 40 #[.val (.int p1), .val (.int p2), .val (.int p3), .val (.int p4), .val (.int p5), .val (.int (2 : Int32)), .val (.ref b89), .val (.ref b90), .unset, .unset] [(.int (2 : Int32))]))
    refine own_go (XS.iconst X95.here hx rfl (hb hby at_40) (Steps.refl _)) ?_
    show own_Fin _ _ _ _ (T95.setTop (mkF m 41 #[.val (.int p1), .val (.int p2), .val (.int p3), .val (.int p4), .val (.int p5), .val (.int (2 : Int32)), .val (.ref b89), .val (.ref b90), .unset, .unset] [(.int (1 : Int32)), (.int (2 : Int32))]))
    refine own_go (XS.icmpNo X95.here hx rfl (hb hby at_41) rfl (tlt (by decide : (1 : Int32) < (2 : Int32))).2.2.2 (Steps.refl _)) ?_
    show own_Fin _ _ _ _ (T95.setTop (mkF m 44 #[.val (.int p1), .val (.int p2), .val (.int p3), .val (.int p4), .val (.int p5), .val (.int (2 : Int32)), .val (.ref b89), .val (.ref b90), .unset, .unset] []))
    refine own_go (XS.aload X95.here hx rfl (hb hby at_44) rfl rfl (Steps.refl _)) ?_
    show own_Fin _ _ _ _ (T95.setTop (mkF m 46 #[.val (.int p1), .val (.int p2), .val (.int p3), .val (.int p4), .val (.int p5), .val (.int (2 : Int32)), .val (.ref b89), .val (.ref b90), .unset, .unset] [(.ref b89)]))
    refine own_go (XS.iconst X95.here hx rfl (hb hby at_46) (Steps.refl _)) ?_
    show own_Fin _ _ _ _ (T95.setTop (mkF m 47 #[.val (.int p1), .val (.int p2), .val (.int p3), .val (.int p4), .val (.int p5), .val (.int (2 : Int32)), .val (.ref b89), .val (.ref b90), .unset, .unset] [(.int (1 : Int32)), (.ref b89)]))
    refine own_go (XS.iloadN X95.here hx rfl (hb hby at_47) rfl (Steps.refl _)) ?_
    show own_Fin _ _ _ _ (T95.setTop (mkF m 48 #[.val (.int p1), .val (.int p2), .val (.int p3), .val (.int p4), .val (.int p5), .val (.int (2 : Int32)), .val (.ref b89), .val (.ref b90), .unset, .unset] [(.int p3), (.int (1 : Int32)), (.ref b89)]))
    obtain ⟨_, _, ⟨T96, L96, k96, n96⟩, -, X96, ⟨Lc96, hQ96, l96, y96, z96⟩, st96⟩ := Jvm.LawKit.callS X95 hx (y := (⟨"com/example/nosto/nosto/ArgumentsNamesConstantPinLaw", "var", "(I)I"⟩ : MethodName)) hown (mvT hZ (hw _ (List.mem_of_getElem? (i := 29) rfl))) (mvT hZ (hw _ (List.mem_of_getElem? (i := 30) rfl))) (mvT hZ (hw _ (List.mem_of_getElem? (i := 31) rfl))) (mvT hZ (hw _ (List.mem_of_getElem? (i := 32) rfl))) (by decide) (backOf (W := 2) (rm4 l Z a0 hw [] p3 h95 n0 Z95) hZ (hw _ (List.mem_of_getElem? (i := 32) rfl)) (hw _ (List.mem_of_getElem? (i := 31) rfl)) (by decide) (by decide)) (g := (mkF m 48 #[.val (.int p1), .val (.int p2), .val (.int p3), .val (.int p4), .val (.int p5), .val (.int (2 : Int32)), .val (.ref b89), .val (.ref b90), .unset, .unset] [(.int p3), (.int (1 : Int32)), (.ref b89)])) rfl (by rw [hml]; rfl) (argsL := [(.int p3)]) (rest := [(.int (1 : Int32)), (.ref b89)]) (lenOf pd__28_I_29_I rfl) rfl (by show 2 * 0 + _ ≤ _; exact Nat.le_of_eq rfl) (hb hby at_48) (fun _ _ => ⟨rfl, e95, (by decide : 2 + 0 ≤ _), (by decide : 4 + 0 ≤ _)⟩)
    dsimp only [Pt.U, Pt.locs, Pt.cells, Pt.slots] at X96 l96 y96 z96 st96 hQ96
    subst l96 y96 z96
    obtain ⟨rfl, Nq96, e96⟩ := hQ96
    refine own_by st96 ?_
    have N96 := Fr.app N95 Nq96
    show own_Fin _ _ _ _ (T96.setTop (mkF m 51 #[.val (.int p1), .val (.int p2), .val (.int p3), .val (.int p4), .val (.int p5), .val (.int (2 : Int32)), .val (.ref b89), .val (.ref b90), .unset, .unset] [(.int (own_var p3)), (.int (1 : Int32)), (.ref b89)]))
    obtain ⟨cl97, Ar97, qa97, Sa97, Na97, Ha97, Ga97⟩ := id V_b89_95
    have hin97 : ¬ ((1 : Int32) < 0 ∨ cl97.slots.size ≤ ((1 : Int32)).toNatClampNeg) := inb_of Sa97 ⟨by decide, by decide⟩
    obtain ⟨T98, h98, X98, e98, W98, st98⟩ := stI X96 hx hZ e96 Ar97 (j := (1 : Int32)) hin97 (g := (mkF m 51 #[.val (.int p1), .val (.int p2), .val (.int p3), .val (.int p4), .val (.int p5), .val (.int (2 : Int32)), .val (.ref b89), .val (.ref b90), .unset, .unset] [(.int (own_var p3)), (.int (1 : Int32)), (.ref b89)])) rfl rfl (hb hby at_51)
    refine own_by st98 ?_
    have V_b89_98 : Arv Z h98 b89 k89 .int (2 : Int32) [(.int (own_var p2)), (.int (own_var p3))] (.int (0 : Int32)) := Arv.set Ar97 qa97 Sa97 Na97 Ha97 Ga97 rfl W98 1 rfl (Nat.le_of_ble_eq_true rfl)
    have E_b89_98 := E_b89_95.wr W98
    have V_b90_98 := V_b90_95.other W98 (Ne.symm ne_b89_b90)
    have E_b90_98 := E_b90_95.wr W98
    have N98 := Fr.snoc X98 N96 g_b89
    have Z98 : n0 ≤ h98.size := Nat.le_trans Z95 (Keep.of_wr W98).1
    show own_Fin _ _ _ _ (T98.setTop (mkF m 52 #[.val (.int p1), .val (.int p2), .val (.int p3), .val (.int p4), .val (.int p5), .val (.int (2 : Int32)), .val (.ref b89), .val (.ref b90), .unset, .unset] []))
    refine own_go (XS.aload X98.here hx rfl (hb hby at_52) rfl rfl (Steps.refl _)) ?_
    show own_Fin _ _ _ _ (T98.setTop (mkF m 54 #[.val (.int p1), .val (.int p2), .val (.int p3), .val (.int p4), .val (.int p5), .val (.int (2 : Int32)), .val (.ref b89), .val (.ref b90), .unset, .unset] [(.ref b90)]))
    refine own_go (XS.iconst X98.here hx rfl (hb hby at_54) (Steps.refl _)) ?_
    show own_Fin _ _ _ _ (T98.setTop (mkF m 55 #[.val (.int p1), .val (.int p2), .val (.int p3), .val (.int p4), .val (.int p5), .val (.int (2 : Int32)), .val (.ref b89), .val (.ref b90), .unset, .unset] [(.int (1 : Int32)), (.ref b90)]))
    refine own_go (XS.iloadN X98.here hx rfl (hb hby at_55) rfl (Steps.refl _)) ?_
    show own_Fin _ _ _ _ (T98.setTop (mkF m 56 #[.val (.int p1), .val (.int p2), .val (.int p3), .val (.int p4), .val (.int p5), .val (.int (2 : Int32)), .val (.ref b89), .val (.ref b90), .unset, .unset] [(.int p3), (.int (1 : Int32)), (.ref b90)]))
    obtain ⟨cl99, Ar99, qa99, Sa99, Na99, Ha99, Ga99⟩ := id V_b90_98
    have hin99 : ¬ ((1 : Int32) < 0 ∨ cl99.slots.size ≤ ((1 : Int32)).toNatClampNeg) := inb_of Sa99 ⟨by decide, by decide⟩
    obtain ⟨T100, h100, X100, e100, W100, st100⟩ := stI X98 hx hZ e98 Ar99 (j := (1 : Int32)) hin99 (g := (mkF m 56 #[.val (.int p1), .val (.int p2), .val (.int p3), .val (.int p4), .val (.int p5), .val (.int (2 : Int32)), .val (.ref b89), .val (.ref b90), .unset, .unset] [(.int p3), (.int (1 : Int32)), (.ref b90)])) rfl rfl (hb hby at_56)
    refine own_by st100 ?_
    have V_b90_100 : Arv Z h100 b90 k90 .int (2 : Int32) [(.int p2), (.int p3)] (.int (0 : Int32)) := Arv.set Ar99 qa99 Sa99 Na99 Ha99 Ga99 rfl W100 1 rfl (Nat.le_of_ble_eq_true rfl)
    have V_b89_100 := V_b89_98.other W100 ne_b89_b90
    have E_b89_100 := E_b89_98.wr W100
    have E_b90_100 := E_b90_98.wr W100
    have N100 := Fr.snoc X100 N98 g_b90
    have Z100 : n0 ≤ h100.size := Nat.le_trans Z98 (Keep.of_wr W100).1
    show own_Fin _ _ _ _ (T100.setTop (mkF m 57 #[.val (.int p1), .val (.int p2), .val (.int p3), .val (.int p4), .val (.int p5), .val (.int (2 : Int32)), .val (.ref b89), .val (.ref b90), .unset, .unset] []))
    refine own_go (XS.iload X100.here hx rfl (hb hby at_57) rfl (Steps.refl _)) ?_
    show own_Fin _ _ _ _ (T100.setTop (mkF m 59 #[.val (.int p1), .val (.int p2), .val (.int p3), .val (.int p4), .val (.int p5), .val (.int (2 : Int32)), .val (.ref b89), .val (.ref b90), .unset, .unset] [(.int (2 : Int32))]))
    refine own_go (XS.iconst X100.here hx rfl (hb hby at_59) (Steps.refl _)) ?_
    show own_Fin _ _ _ _ (T100.setTop (mkF m 60 #[.val (.int p1), .val (.int p2), .val (.int p3), .val (.int p4), .val (.int p5), .val (.int (2 : Int32)), .val (.ref b89), .val (.ref b90), .unset, .unset] [(.int (2 : Int32)), (.int (2 : Int32))]))
    refine own_go (XS.icmpYes X100.here hx rfl (pc0 := 60) (pc' := 76) rfl (hb hby at_60) rfl (flt (by decide : ¬ ((2 : Int32) < (2 : Int32)))).2.2.2 (by decide) (by decide) (Steps.refl _)) ?_
    show own_Fin _ _ _ _ (T100.setTop (mkF m 76 #[.val (.int p1), .val (.int p2), .val (.int p3), .val (.int p4), .val (.int p5), .val (.int (2 : Int32)), .val (.ref b89), .val (.ref b90), .unset, .unset] []))
    refine own_go (XS.iload X100.here hx rfl (hb hby at_76) rfl (Steps.refl _)) ?_
    show own_Fin _ _ _ _ (T100.setTop (mkF m 78 #[.val (.int p1), .val (.int p2), .val (.int p3), .val (.int p4), .val (.int p5), .val (.int (2 : Int32)), .val (.ref b89), .val (.ref b90), .unset, .unset] [(.int (2 : Int32))]))
    refine own_go (XS.iconst X100.here hx rfl (hb hby at_78) (Steps.refl _)) ?_
    show own_Fin _ _ _ _ (T100.setTop (mkF m 79 #[.val (.int p1), .val (.int p2), .val (.int p3), .val (.int p4), .val (.int p5), .val (.int (2 : Int32)), .val (.ref b89), .val (.ref b90), .unset, .unset] [(.int (3 : Int32)), (.int (2 : Int32))]))
    refine own_go (XS.icmpYes X100.here hx rfl (pc0 := 79) (pc' := 97) rfl (hb hby at_79) rfl (flt (by decide : ¬ ((3 : Int32) < (2 : Int32)))).2.2.2 (by decide) (by decide) (Steps.refl _)) ?_
    show own_Fin _ _ _ _ (T100.setTop (mkF m 97 #[.val (.int p1), .val (.int p2), .val (.int p3), .val (.int p4), .val (.int p5), .val (.int (2 : Int32)), .val (.ref b89), .val (.ref b90), .unset, .unset] []))
    refine own_go (XS.iload X100.here hx rfl (hb hby at_97) rfl (Steps.refl _)) ?_
    show own_Fin _ _ _ _ (T100.setTop (mkF m 99 #[.val (.int p1), .val (.int p2), .val (.int p3), .val (.int p4), .val (.int p5), .val (.int (2 : Int32)), .val (.ref b89), .val (.ref b90), .unset, .unset] [(.int (2 : Int32))]))
    refine own_go (XS.ifNo X100.here hx rfl (hb hby at_99) rfl ((if0 _ _).trans (tlt (by decide : (0 : Int32) < (2 : Int32))).2.2.2) (Steps.refl _)) ?_
    show own_Fin _ _ _ _ (T100.setTop (mkF m 102 #[.val (.int p1), .val (.int p2), .val (.int p3), .val (.int p4), .val (.int p5), .val (.int (2 : Int32)), .val (.ref b89), .val (.ref b90), .unset, .unset] []))
    refine own_go (XS.iloadN X100.here hx rfl (hb hby at_102) rfl (Steps.refl _)) ?_
    show own_Fin _ _ _ _ (T100.setTop (mkF m 103 #[.val (.int p1), .val (.int p2), .val (.int p3), .val (.int p4), .val (.int p5), .val (.int (2 : Int32)), .val (.ref b89), .val (.ref b90), .unset, .unset] [(.int p2)]))
    have jn102 : ∀ (Tj102 : State) (Lj102 : List Loc) (xe101 : Int32), Stand p l e room_1 s m #[(.int p1), (.int p2), (.int p3), (.int p4), (.int p5)] below meth c Tj102 Lj102 2 4 → Tj102.heap = h100 → Fr n0 Lj102 → (xe101 = (if (decide (p2 < (0 : Int32)) || decide (p3 < (0 : Int32))) then (1 : Int32) else 0)) → own_Fin p e below (G0 Z p1 p2 p3 p4 p5 h0 n0 s) (Tj102.setTop (mkF m 142 #[.val (.int p1), .val (.int p2), .val (.int p3), .val (.int p4), .val (.int p5), .val (.int (2 : Int32)), .val (.ref b89), .val (.ref b90), .unset, .unset] [(.int xe101)])) := by
      intro Tj102 Lj102 xe101 Xj102 ej102 Nj102 hj102
      refine own_go (XS.istore Xj102.here hx rfl (hb hby at_142) rfl (l' := #[.val (.int p1), .val (.int p2), .val (.int p3), .val (.int p4), .val (.int p5), .val (.int (2 : Int32)), .val (.ref b89), .val (.ref b90), .val (.int xe101), .unset]) rfl (Steps.refl _)) ?_
      show own_Fin _ _ _ _ (Tj102.setTop (mkF m 144 #[.val (.int p1), .val (.int p2), .val (.int p3), .val (.int p4), .val (.int p5), .val (.int (2 : Int32)), .val (.ref b89), .val (.ref b90), .val (.int xe101), .unset] []))
      obtain ⟨T103, h103, X103, e103, E103, A103, D103, U103, st103⟩ := newO Xj102 hx hZ hown (hw _ (List.mem_of_getElem? (i := 2) rfl)) (hw _ (List.mem_of_getElem? (i := 3) rfl)) (hw _ (List.mem_of_getElem? (i := 4) rfl)) ej102 (g := (mkF m 144 #[.val (.int p1), .val (.int p2), .val (.int p3), .val (.int p4), .val (.int p5), .val (.int (2 : Int32)), .val (.ref b89), .val (.ref b90), .val (.int xe101), .unset] [])) rfl (hb hby at_144) (by decide) (by decide)
      obtain ⟨b103, g103⟩ : ∃ z, z = h100.size := ⟨_, rfl⟩
      rw [← g103] at A103 D103 U103 st103
      refine own_by st103 ?_
      have ne_b89_b103 : b89 ≠ b103 := Nat.ne_of_lt (Nat.lt_of_lt_of_eq V_b89_100.lt g103.symm)
      have ne_b90_b103 : b90 ≠ b103 := Nat.ne_of_lt (Nat.lt_of_lt_of_eq V_b90_100.lt g103.symm)
      have V_b89_103 := V_b89_100.ext E103
      have E_b89_103 := E_b89_100.ext E103
      have V_b90_103 := V_b90_100.ext E103
      have E_b90_103 := E_b90_100.ext E103
      have g_b103 : n0 ≤ b103 := Nat.le_trans Z100 (Nat.le_of_eq g103.symm)
      have Z103 : n0 ≤ h103.size := Nat.le_trans Z100 E103.1
      have E_b103 := A103
      have F_variables_b103 : Fld Z h103 b103 "com/example/nosto/nosto/Arguments" "variables" "[I" .null := D103 (Or.inr (hw _ (List.mem_of_getElem? (i := 21) rfl))) (ty := (.array .int)) (by decide)
      have F_constants_b103 : Fld Z h103 b103 "com/example/nosto/nosto/Arguments" "constants" "[I" .null := D103 (Or.inr (hw _ (List.mem_of_getElem? (i := 23) rfl))) (ty := (.array .int)) (by decide)
      show own_Fin _ _ _ _ (T103.setTop (mkF m 147 #[.val (.int p1), .val (.int p2), .val (.int p3), .val (.int p4), .val (.int p5), .val (.int (2 : Int32)), .val (.ref b89), .val (.ref b90), .val (.int xe101), .unset] [(.ref b103)]))
      refine own_go (XS.dup X103.here hx rfl (hb hby at_147) rfl rfl (Steps.refl _)) ?_
      show own_Fin _ _ _ _ (T103.setTop (mkF m 148 #[.val (.int p1), .val (.int p2), .val (.int p3), .val (.int p4), .val (.int p5), .val (.int (2 : Int32)), .val (.ref b89), .val (.ref b90), .val (.int xe101), .unset] [(.ref b103), (.ref b103)]))
      refine own_go (XS.aload X103.here hx rfl (hb hby at_148) rfl rfl (Steps.refl _)) ?_
      show own_Fin _ _ _ _ (T103.setTop (mkF m 150 #[.val (.int p1), .val (.int p2), .val (.int p3), .val (.int p4), .val (.int p5), .val (.int (2 : Int32)), .val (.ref b89), .val (.ref b90), .val (.int xe101), .unset] [(.ref b89), (.ref b103), (.ref b103)]))
      refine own_go (XS.aload X103.here hx rfl (hb hby at_150) rfl rfl (Steps.refl _)) ?_
      show own_Fin _ _ _ _ (T103.setTop (mkF m 152 #[.val (.int p1), .val (.int p2), .val (.int p3), .val (.int p4), .val (.int p5), .val (.int (2 : Int32)), .val (.ref b89), .val (.ref b90), .val (.int xe101), .unset] [(.ref b90), (.ref b89), (.ref b103), (.ref b103)]))
      obtain ⟨_, _, ⟨T104, L104, k104, n104⟩, -, X104, ⟨Lc104, hQ104, l104, y104, z104⟩, st104⟩ := X103.specialBack hx (y := (⟨"com/example/nosto/nosto/Arguments", "<init>", "([I[I)V"⟩ : MethodName)) rfl hown (mvT hZ (hw _ (List.mem_of_getElem? (i := 5) rfl))) (mvT hZ (hw _ (List.mem_of_getElem? (i := 6) rfl))) (mvT hZ (hw _ (List.mem_of_getElem? (i := 7) rfl))) (by decide) (backOf (W := 1) (rm1 l Z a0 hw [] b103 b89 b90 k89 (2 : Int32) [(.int (own_var p2)), (.int (own_var p3))] (.int (0 : Int32)) k90 (2 : Int32) [(.int p2), (.int p3)] (.int (0 : Int32)) h103 n0 Z103 E_b103 F_variables_b103 F_constants_b103 g_b103 ne_b89_b103 ne_b90_b103 V_b89_103 E_b89_103 (by decide) V_b90_103 E_b90_103 (by decide)) hZ (hw _ (List.mem_of_getElem? (i := 7) rfl)) (hw _ (List.mem_of_getElem? (i := 4) rfl)) (by decide) (by decide)) (g := (mkF m 152 #[.val (.int p1), .val (.int p2), .val (.int p3), .val (.int p4), .val (.int p5), .val (.int (2 : Int32)), .val (.ref b89), .val (.ref b90), .val (.int xe101), .unset] [(.ref b90), (.ref b89), (.ref b103), (.ref b103)])) rfl (by rw [hml]; rfl) (Steps.refl _) (a := b103) (argsL := [(.ref b89), (.ref b90)]) (rest := [(.ref b103)]) (lenOf pd__28__5b_I_5b_I_29_V rfl) rfl (by show 2 * 0 + _ ≤ _; exact Nat.le_of_eq rfl) (hb hby at_152) (fun _ _ => ⟨rfl, e103, (by decide : 3 + 2 ≤ _), (by decide : 6 + 8 ≤ _)⟩)
      dsimp only [Pt.U, Pt.locs, Pt.cells, Pt.slots] at X104 l104 y104 z104 st104 hQ104
      subst l104 y104 z104
      refine own_go st104 ?_
      obtain ⟨rfl, Nq104, K104, Ek104, bb104, gb104, Fk104, Vk104⟩ := hQ104
      have V_b89_104 := V_b89_103.keep K104 (ninS ne_b89_b103 nin0)
      have E_b89_104 := E_b89_103.keep K104
      have V_b90_104 := V_b90_103.keep K104 (ninS ne_b90_b103 nin0)
      have E_b90_104 := E_b90_103.keep K104
      have E_b103_104 := E_b103.keep K104
      have Z104 := Nat.le_trans Z103 K104.1
      have N104 := Fr.app Nj102 Nq104
      show own_Fin _ _ _ _ (T104.setTop (mkF m 155 #[.val (.int p1), .val (.int p2), .val (.int p3), .val (.int p4), .val (.int p5), .val (.int (2 : Int32)), .val (.ref b89), .val (.ref b90), .val (.int xe101), .unset] [(.ref b103)]))
      refine own_go (XS.astore X104.here hx rfl (hb hby at_155) rfl rfl (l' := #[.val (.int p1), .val (.int p2), .val (.int p3), .val (.int p4), .val (.int p5), .val (.int (2 : Int32)), .val (.ref b89), .val (.ref b90), .val (.int xe101), .val (.ref b103)]) rfl (Steps.refl _)) ?_
      show own_Fin _ _ _ _ (T104.setTop (mkF m 157 #[.val (.int p1), .val (.int p2), .val (.int p3), .val (.int p4), .val (.int p5), .val (.int (2 : Int32)), .val (.ref b89), .val (.ref b90), .val (.int xe101), .val (.ref b103)] []))
      refine own_go (XS.aload X104.here hx rfl (hb hby at_157) rfl rfl (Steps.refl _)) ?_
      show own_Fin _ _ _ _ (T104.setTop (mkF m 159 #[.val (.int p1), .val (.int p2), .val (.int p3), .val (.int p4), .val (.int p5), .val (.int (2 : Int32)), .val (.ref b89), .val (.ref b90), .val (.int xe101), .val (.ref b103)] [(.ref b103)]))
      obtain ⟨cq105, kq105, q105a, q105b, q105c⟩ := isOf hZ rfl Ek104
      obtain ⟨_, _, ⟨T105, L105, k105, n105⟩, -, X105, ⟨Lc105, hQ105, l105, y105, z105⟩, st105⟩ := X104.virtualBack hx (y := (⟨"com/example/nosto/nosto/Arguments", "namesConstant", "()Z"⟩ : MethodName)) (z := (⟨"com/example/nosto/nosto/Arguments", "namesConstant", "()Z"⟩ : MethodName)) hown (mvT hZ (hw _ (List.mem_of_getElem? (i := 24) rfl))) (mvT hZ (hw _ (List.mem_of_getElem? (i := 25) rfl))) (notFace_of_selects (args := #[]) (mvT hZ (hw _ (List.mem_of_getElem? (i := 27) rfl)))) (mvT hZ (hw _ (List.mem_of_getElem? (i := 27) rfl))) (mvT hZ (hw _ (List.mem_of_getElem? (i := 26) rfl))) (by decide) (backOf (W := 0) (rm3_2 l Z a0 hw [] b103 bb104 k89 (own_var p2) (own_var p3) T104.heap n0 Z104 Fk104 Vk104) hZ (hw _ (List.mem_of_getElem? (i := 28) rfl)) (hw _ (List.mem_of_getElem? (i := 4) rfl)) (by decide) (by decide)) q105a q105c (g := (mkF m 159 #[.val (.int p1), .val (.int p2), .val (.int p3), .val (.int p4), .val (.int p5), .val (.int (2 : Int32)), .val (.ref b89), .val (.ref b90), .val (.int xe101), .val (.ref b103)] [(.ref b103)])) rfl (by rw [hml]; rfl) (Steps.refl _) (argsL := []) (rest := []) (lenOf pd__28__29_Z rfl) rfl (by show 2 * 0 + _ ≤ _; exact Nat.le_of_eq rfl) (hb hby at_159) (fun _ _ => ⟨rfl, rfl, (by decide : 5 + 0 ≤ _), (by decide : 14 + 0 ≤ _)⟩)
      dsimp only [Pt.U, Pt.locs, Pt.cells, Pt.slots] at X105 l105 y105 z105 st105 hQ105
      subst l105 y105 z105
      obtain ⟨rfl, Nq105, e105⟩ := hQ105
      refine own_go st105 ?_
      have N105 := Fr.app N104 Nq105
      show own_Fin _ _ _ _ (T105.setTop (mkF m 162 #[.val (.int p1), .val (.int p2), .val (.int p3), .val (.int p4), .val (.int p5), .val (.int (2 : Int32)), .val (.ref b89), .val (.ref b90), .val (.int xe101), .val (.ref b103)] [(.int (if (decide ((own_var p2) < (0 : Int32)) || decide ((own_var p3) < (0 : Int32))) then (1 : Int32) else 0))]))
      refine own_go (XS.iload X105.here hx rfl (hb hby at_162) rfl (Steps.refl _)) ?_
      show own_Fin _ _ _ _ (T105.setTop (mkF m 164 #[.val (.int p1), .val (.int p2), .val (.int p3), .val (.int p4), .val (.int p5), .val (.int (2 : Int32)), .val (.ref b89), .val (.ref b90), .val (.int xe101), .val (.ref b103)] [(.int xe101), (.int (if (decide ((own_var p2) < (0 : Int32)) || decide ((own_var p3) < (0 : Int32))) then (1 : Int32) else 0))]))
      refine own_go (XS.icmpNo X105.here hx rfl (hb hby at_164) rfl (teq (show (if (decide ((own_var p2) < (0 : Int32)) || decide ((own_var p3) < (0 : Int32))) then (1 : Int32) else 0) = xe101 from by rw [hj102]; simp only [own_varneg])).2 (Steps.refl _)) ?_
      show own_Fin _ _ _ _ (T105.setTop (mkF m 167 #[.val (.int p1), .val (.int p2), .val (.int p3), .val (.int p4), .val (.int p5), .val (.int (2 : Int32)), .val (.ref b89), .val (.ref b90), .val (.int xe101), .val (.ref b103)] []))
      refine own_go (XS.iconst X105.here hx rfl (hb hby at_167) (Steps.refl _)) ?_
      show own_Fin _ _ _ _ (T105.setTop (mkF m 168 #[.val (.int p1), .val (.int p2), .val (.int p3), .val (.int p4), .val (.int p5), .val (.int (2 : Int32)), .val (.ref b89), .val (.ref b90), .val (.int xe101), .val (.ref b103)] [(.int (1 : Int32))]))
      refine own_go (XS.goto X105.here hx rfl (pc0 := 168) (pc' := 172) rfl (hb hby at_168) (by decide) (by decide) (Steps.refl _)) ?_
      show own_Fin _ _ _ _ (T105.setTop (mkF m 172 #[.val (.int p1), .val (.int p2), .val (.int p3), .val (.int p4), .val (.int p5), .val (.int (2 : Int32)), .val (.ref b89), .val (.ref b90), .val (.int xe101), .val (.ref b103)] [(.int (1 : Int32))]))
      obtain ⟨fs106, hr106, hrun106, hended106, hW106, hsame106⟩ := X105.leave (v := some (.int (1 : Int32))) (fun h => by rw [Bd.returns] at h; cases h)
      refine own_done (retN X105 hx (t := .boolean) Bd.returns (by simp) (hb hby at_172) hr106) hrun106 hended106 ⟨_, _, rfl, ?_, ⟨_, rfl⟩, hW106, hsame106.mono (by decide) (by decide)⟩
      show Q0 Z p1 p2 p3 p4 p5 h0 n0 _ T105.heap _
      rw [e105]
      exact ⟨rfl, N105⟩
    by_cases c103_107 : p2 < (0 : Int32)
    · refine own_go (XS.ifYes X100.here hx rfl (pc0 := 103) (pc' := 137) rfl (hb hby at_103) rfl ((if0 _ _).trans (tlt c103_107).1) (by decide) (by decide) (Steps.refl _)) ?_
      show own_Fin _ _ _ _ (T100.setTop (mkF m 137 #[.val (.int p1), .val (.int p2), .val (.int p3), .val (.int p4), .val (.int p5), .val (.int (2 : Int32)), .val (.ref b89), .val (.ref b90), .unset, .unset] []))
      refine own_go (XS.iconst X100.here hx rfl (hb hby at_137) (Steps.refl _)) ?_
      show own_Fin _ _ _ _ (T100.setTop (mkF m 138 #[.val (.int p1), .val (.int p2), .val (.int p3), .val (.int p4), .val (.int p5), .val (.int (2 : Int32)), .val (.ref b89), .val (.ref b90), .unset, .unset] [(.int (1 : Int32))]))
      refine own_go (XS.goto X100.here hx rfl (pc0 := 138) (pc' := 142) rfl (hb hby at_138) (by decide) (by decide) (Steps.refl _)) ?_
      show own_Fin _ _ _ _ (T100.setTop (mkF m 142 #[.val (.int p1), .val (.int p2), .val (.int p3), .val (.int p4), .val (.int p5), .val (.int (2 : Int32)), .val (.ref b89), .val (.ref b90), .unset, .unset] [(.int (1 : Int32))]))
      exact jn102 T100 _ (1 : Int32) X100 e100 N100 (by simp [c103_107])
    · refine own_go (XS.ifNo X100.here hx rfl (hb hby at_103) rfl ((if0 _ _).trans (flt c103_107).1) (Steps.refl _)) ?_
      show own_Fin _ _ _ _ (T100.setTop (mkF m 106 #[.val (.int p1), .val (.int p2), .val (.int p3), .val (.int p4), .val (.int p5), .val (.int (2 : Int32)), .val (.ref b89), .val (.ref b90), .unset, .unset] []))
      refine own_go (XS.iload X100.here hx rfl (hb hby at_106) rfl (Steps.refl _)) ?_
      show own_Fin _ _ _ _ (T100.setTop (mkF m 108 #[.val (.int p1), .val (.int p2), .val (.int p3), .val (.int p4), .val (.int p5), .val (.int (2 : Int32)), .val (.ref b89), .val (.ref b90), .unset, .unset] [(.int (2 : Int32))]))
      refine own_go (XS.iconst X100.here hx rfl (hb hby at_108) (Steps.refl _)) ?_
      show own_Fin _ _ _ _ (T100.setTop (mkF m 109 #[.val (.int p1), .val (.int p2), .val (.int p3), .val (.int p4), .val (.int p5), .val (.int (2 : Int32)), .val (.ref b89), .val (.ref b90), .unset, .unset] [(.int (1 : Int32)), (.int (2 : Int32))]))
      refine own_go (XS.icmpNo X100.here hx rfl (hb hby at_109) rfl (tlt (by decide : (1 : Int32) < (2 : Int32))).2.2.2 (Steps.refl _)) ?_
      show own_Fin _ _ _ _ (T100.setTop (mkF m 112 #[.val (.int p1), .val (.int p2), .val (.int p3), .val (.int p4), .val (.int p5), .val (.int (2 : Int32)), .val (.ref b89), .val (.ref b90), .unset, .unset] []))
      refine own_go (XS.iloadN X100.here hx rfl (hb hby at_112) rfl (Steps.refl _)) ?_
      show own_Fin _ _ _ _ (T100.setTop (mkF m 113 #[.val (.int p1), .val (.int p2), .val (.int p3), .val (.int p4), .val (.int p5), .val (.int (2 : Int32)), .val (.ref b89), .val (.ref b90), .unset, .unset] [(.int p3)]))
      by_cases c113_108 : p3 < (0 : Int32)
      · refine own_go (XS.ifYes X100.here hx rfl (pc0 := 113) (pc' := 137) rfl (hb hby at_113) rfl ((if0 _ _).trans (tlt c113_108).1) (by decide) (by decide) (Steps.refl _)) ?_
        show own_Fin _ _ _ _ (T100.setTop (mkF m 137 #[.val (.int p1), .val (.int p2), .val (.int p3), .val (.int p4), .val (.int p5), .val (.int (2 : Int32)), .val (.ref b89), .val (.ref b90), .unset, .unset] []))
        refine own_go (XS.iconst X100.here hx rfl (hb hby at_137) (Steps.refl _)) ?_
        show own_Fin _ _ _ _ (T100.setTop (mkF m 138 #[.val (.int p1), .val (.int p2), .val (.int p3), .val (.int p4), .val (.int p5), .val (.int (2 : Int32)), .val (.ref b89), .val (.ref b90), .unset, .unset] [(.int (1 : Int32))]))
        refine own_go (XS.goto X100.here hx rfl (pc0 := 138) (pc' := 142) rfl (hb hby at_138) (by decide) (by decide) (Steps.refl _)) ?_
        show own_Fin _ _ _ _ (T100.setTop (mkF m 142 #[.val (.int p1), .val (.int p2), .val (.int p3), .val (.int p4), .val (.int p5), .val (.int (2 : Int32)), .val (.ref b89), .val (.ref b90), .unset, .unset] [(.int (1 : Int32))]))
        exact jn102 T100 _ (1 : Int32) X100 e100 N100 (by simp [c103_107, c113_108])
      · refine own_go (XS.ifNo X100.here hx rfl (hb hby at_113) rfl ((if0 _ _).trans (flt c113_108).1) (Steps.refl _)) ?_
        show own_Fin _ _ _ _ (T100.setTop (mkF m 116 #[.val (.int p1), .val (.int p2), .val (.int p3), .val (.int p4), .val (.int p5), .val (.int (2 : Int32)), .val (.ref b89), .val (.ref b90), .unset, .unset] []))
        refine own_go (XS.iload X100.here hx rfl (hb hby at_116) rfl (Steps.refl _)) ?_
        show own_Fin _ _ _ _ (T100.setTop (mkF m 118 #[.val (.int p1), .val (.int p2), .val (.int p3), .val (.int p4), .val (.int p5), .val (.int (2 : Int32)), .val (.ref b89), .val (.ref b90), .unset, .unset] [(.int (2 : Int32))]))
        refine own_go (XS.iconst X100.here hx rfl (hb hby at_118) (Steps.refl _)) ?_
        show own_Fin _ _ _ _ (T100.setTop (mkF m 119 #[.val (.int p1), .val (.int p2), .val (.int p3), .val (.int p4), .val (.int p5), .val (.int (2 : Int32)), .val (.ref b89), .val (.ref b90), .unset, .unset] [(.int (2 : Int32)), (.int (2 : Int32))]))
        refine own_go (XS.icmpYes X100.here hx rfl (pc0 := 119) (pc' := 126) rfl (hb hby at_119) rfl (flt (by decide : ¬ ((2 : Int32) < (2 : Int32)))).2.2.2 (by decide) (by decide) (Steps.refl _)) ?_
        show own_Fin _ _ _ _ (T100.setTop (mkF m 126 #[.val (.int p1), .val (.int p2), .val (.int p3), .val (.int p4), .val (.int p5), .val (.int (2 : Int32)), .val (.ref b89), .val (.ref b90), .unset, .unset] []))
        refine own_go (XS.iload X100.here hx rfl (hb hby at_126) rfl (Steps.refl _)) ?_
        show own_Fin _ _ _ _ (T100.setTop (mkF m 128 #[.val (.int p1), .val (.int p2), .val (.int p3), .val (.int p4), .val (.int p5), .val (.int (2 : Int32)), .val (.ref b89), .val (.ref b90), .unset, .unset] [(.int (2 : Int32))]))
        refine own_go (XS.iconst X100.here hx rfl (hb hby at_128) (Steps.refl _)) ?_
        show own_Fin _ _ _ _ (T100.setTop (mkF m 129 #[.val (.int p1), .val (.int p2), .val (.int p3), .val (.int p4), .val (.int p5), .val (.int (2 : Int32)), .val (.ref b89), .val (.ref b90), .unset, .unset] [(.int (3 : Int32)), (.int (2 : Int32))]))
        refine own_go (XS.icmpYes X100.here hx rfl (pc0 := 129) (pc' := 141) rfl (hb hby at_129) rfl (flt (by decide : ¬ ((3 : Int32) < (2 : Int32)))).2.2.2 (by decide) (by decide) (Steps.refl _)) ?_
        show own_Fin _ _ _ _ (T100.setTop (mkF m 141 #[.val (.int p1), .val (.int p2), .val (.int p3), .val (.int p4), .val (.int p5), .val (.int (2 : Int32)), .val (.ref b89), .val (.ref b90), .unset, .unset] []))
        refine own_go (XS.iconst X100.here hx rfl (hb hby at_141) (Steps.refl _)) ?_
        show own_Fin _ _ _ _ (T100.setTop (mkF m 142 #[.val (.int p1), .val (.int p2), .val (.int p3), .val (.int p4), .val (.int p5), .val (.int (2 : Int32)), .val (.ref b89), .val (.ref b90), .unset, .unset] [(.int (0 : Int32))]))
        exact jn102 T100 _ (0 : Int32) X100 e100 N100 (by simp [c103_107, c113_108])
  · show own_Fin _ _ _ _ (s₁.setTop (mkF m 8 #[.val (.int p1), .val (.int p2), .val (.int p3), .val (.int p4), .val (.int p5), .val (.int (3 : Int32)), .unset, .unset, .unset, .unset] []))
    refine own_go (XS.iload X0.here hx rfl (hb hby at_8) rfl (Steps.refl _)) ?_
    show own_Fin _ _ _ _ (s₁.setTop (mkF m 10 #[.val (.int p1), .val (.int p2), .val (.int p3), .val (.int p4), .val (.int p5), .val (.int (3 : Int32)), .unset, .unset, .unset, .unset] [(.int (3 : Int32))]))
    obtain ⟨T109, h109, k109, X109, e109, E109, A109, B109, st109⟩ := newPE X0 hx hZ (hw _ (List.mem_of_getElem? (i := 1) rfl)) e0 (g := (mkF m 10 #[.val (.int p1), .val (.int p2), .val (.int p3), .val (.int p4), .val (.int p5), .val (.int (3 : Int32)), .unset, .unset, .unset, .unset] [(.int (3 : Int32))])) rfl (hb hby at_10) rfl (by decide) (cap := 3) (by decide) (by decide) (by decide) (by decide) (ad := "[I") (by decide)
    obtain ⟨b109, g109⟩ : ∃ z, z = h0.size := ⟨_, rfl⟩
    rw [← g109] at A109 B109 st109
    refine own_by st109 ?_
    have g_b109 : n0 ≤ b109 := Nat.le_trans Z0 (Nat.le_of_eq g109.symm)
    have Z109 : n0 ≤ h109.size := Nat.le_trans Z0 E109.1
    have V_b109 : Arv Z h109 b109 k109 .int (3 : Int32) [(.int (0 : Int32)), (.int (0 : Int32)), (.int (0 : Int32))] (.int (0 : Int32)) := (Arv.new A109 (by decide)).pad (pad_rep [] (.int (0 : Int32)) 3)
    have E_b109 := B109
    show own_Fin _ _ _ _ (T109.setTop (mkF m 12 #[.val (.int p1), .val (.int p2), .val (.int p3), .val (.int p4), .val (.int p5), .val (.int (3 : Int32)), .unset, .unset, .unset, .unset] [(.ref b109)]))
    refine own_go (XS.astore X109.here hx rfl (hb hby at_12) rfl rfl (l' := #[.val (.int p1), .val (.int p2), .val (.int p3), .val (.int p4), .val (.int p5), .val (.int (3 : Int32)), .val (.ref b109), .unset, .unset, .unset]) rfl (Steps.refl _)) ?_
    show own_Fin _ _ _ _ (T109.setTop (mkF m 14 #[.val (.int p1), .val (.int p2), .val (.int p3), .val (.int p4), .val (.int p5), .val (.int (3 : Int32)), .val (.ref b109), .unset, .unset, .unset] []))
    refine own_go (XS.iload X109.here hx rfl (hb hby at_14) rfl (Steps.refl _)) ?_
    show own_Fin _ _ _ _ (T109.setTop (mkF m 16 #[.val (.int p1), .val (.int p2), .val (.int p3), .val (.int p4), .val (.int p5), .val (.int (3 : Int32)), .val (.ref b109), .unset, .unset, .unset] [(.int (3 : Int32))]))
    obtain ⟨T110, h110, k110, X110, e110, E110, A110, B110, st110⟩ := newPE X109 hx hZ (hw _ (List.mem_of_getElem? (i := 1) rfl)) e109 (g := (mkF m 16 #[.val (.int p1), .val (.int p2), .val (.int p3), .val (.int p4), .val (.int p5), .val (.int (3 : Int32)), .val (.ref b109), .unset, .unset, .unset] [(.int (3 : Int32))])) rfl (hb hby at_16) rfl (by decide) (cap := 3) (by decide) (by decide) (by decide) (by decide) (ad := "[I") (by decide)
    obtain ⟨b110, g110⟩ : ∃ z, z = h109.size := ⟨_, rfl⟩
    rw [← g110] at A110 B110 st110
    refine own_by st110 ?_
    have ne_b109_b110 : b109 ≠ b110 := Nat.ne_of_lt (Nat.lt_of_lt_of_eq V_b109.lt g110.symm)
    have V_b109_110 := V_b109.ext E110
    have E_b109_110 := E_b109.ext E110
    have g_b110 : n0 ≤ b110 := Nat.le_trans Z109 (Nat.le_of_eq g110.symm)
    have Z110 : n0 ≤ h110.size := Nat.le_trans Z109 E110.1
    have V_b110 : Arv Z h110 b110 k110 .int (3 : Int32) [(.int (0 : Int32)), (.int (0 : Int32)), (.int (0 : Int32))] (.int (0 : Int32)) := (Arv.new A110 (by decide)).pad (pad_rep [] (.int (0 : Int32)) 3)
    have E_b110 := B110
    show own_Fin _ _ _ _ (T110.setTop (mkF m 18 #[.val (.int p1), .val (.int p2), .val (.int p3), .val (.int p4), .val (.int p5), .val (.int (3 : Int32)), .val (.ref b109), .unset, .unset, .unset] [(.ref b110)]))
    refine own_go (XS.astore X110.here hx rfl (hb hby at_18) rfl rfl (l' := #[.val (.int p1), .val (.int p2), .val (.int p3), .val (.int p4), .val (.int p5), .val (.int (3 : Int32)), .val (.ref b109), .val (.ref b110), .unset, .unset]) rfl (Steps.refl _)) ?_
    show own_Fin _ _ _ _ (T110.setTop (mkF m 20 #[.val (.int p1), .val (.int p2), .val (.int p3), .val (.int p4), .val (.int p5), .val (.int (3 : Int32)), .val (.ref b109), .val (.ref b110), .unset, .unset] []))
    refine own_go (XS.iload X110.here hx rfl (hb hby at_20) rfl (Steps.refl _)) ?_
    show own_Fin _ _ _ _ (T110.setTop (mkF m 22 #[.val (.int p1), .val (.int p2), .val (.int p3), .val (.int p4), .val (.int p5), .val (.int (3 : Int32)), .val (.ref b109), .val (.ref b110), .unset, .unset] [(.int (3 : Int32))]))
    refine own_go (XS.ifNo X110.here hx rfl (hb hby at_22) rfl ((if0 _ _).trans (tlt (by decide : (0 : Int32) < (3 : Int32))).2.2.2) (Steps.refl _)) ?_
    show own_Fin _ _ _ _ (T110.setTop (mkF m 25 #[.val (.int p1), .val (.int p2), .val (.int p3), .val (.int p4), .val (.int p5), .val (.int (3 : Int32)), .val (.ref b109), .val (.ref b110), .unset, .unset] []))
    refine own_go (XS.aload X110.here hx rfl (hb hby at_25) rfl rfl (Steps.refl _)) ?_
    show own_Fin _ _ _ _ (T110.setTop (mkF m 27 #[.val (.int p1), .val (.int p2), .val (.int p3), .val (.int p4), .val (.int p5), .val (.int (3 : Int32)), .val (.ref b109), .val (.ref b110), .unset, .unset] [(.ref b109)]))
    refine own_go (XS.iconst X110.here hx rfl (hb hby at_27) (Steps.refl _)) ?_
    show own_Fin _ _ _ _ (T110.setTop (mkF m 28 #[.val (.int p1), .val (.int p2), .val (.int p3), .val (.int p4), .val (.int p5), .val (.int (3 : Int32)), .val (.ref b109), .val (.ref b110), .unset, .unset] [(.int (0 : Int32)), (.ref b109)]))
    refine own_go (XS.iloadN X110.here hx rfl (hb hby at_28) rfl (Steps.refl _)) ?_
    show own_Fin _ _ _ _ (T110.setTop (mkF m 29 #[.val (.int p1), .val (.int p2), .val (.int p3), .val (.int p4), .val (.int p5), .val (.int (3 : Int32)), .val (.ref b109), .val (.ref b110), .unset, .unset] [(.int p2), (.int (0 : Int32)), (.ref b109)]))
    obtain ⟨_, _, ⟨T111, L111, k111, n111⟩, -, X111, ⟨Lc111, hQ111, l111, y111, z111⟩, st111⟩ := Jvm.LawKit.callS X110 hx (y := (⟨"com/example/nosto/nosto/ArgumentsNamesConstantPinLaw", "var", "(I)I"⟩ : MethodName)) hown (mvT hZ (hw _ (List.mem_of_getElem? (i := 29) rfl))) (mvT hZ (hw _ (List.mem_of_getElem? (i := 30) rfl))) (mvT hZ (hw _ (List.mem_of_getElem? (i := 31) rfl))) (mvT hZ (hw _ (List.mem_of_getElem? (i := 32) rfl))) (by decide) (backOf (W := 2) (rm4 l Z a0 hw [] p2 h110 n0 Z110) hZ (hw _ (List.mem_of_getElem? (i := 32) rfl)) (hw _ (List.mem_of_getElem? (i := 31) rfl)) (by decide) (by decide)) (g := (mkF m 29 #[.val (.int p1), .val (.int p2), .val (.int p3), .val (.int p4), .val (.int p5), .val (.int (3 : Int32)), .val (.ref b109), .val (.ref b110), .unset, .unset] [(.int p2), (.int (0 : Int32)), (.ref b109)])) rfl (by rw [hml]; rfl) (argsL := [(.int p2)]) (rest := [(.int (0 : Int32)), (.ref b109)]) (lenOf pd__28_I_29_I rfl) rfl (by show 2 * 0 + _ ≤ _; exact Nat.le_of_eq rfl) (hb hby at_29) (fun _ _ => ⟨rfl, e110, (by decide : 2 + 0 ≤ _), (by decide : 6 + 0 ≤ _)⟩)
    dsimp only [Pt.U, Pt.locs, Pt.cells, Pt.slots] at X111 l111 y111 z111 st111 hQ111
    subst l111 y111 z111
    obtain ⟨rfl, Nq111, e111⟩ := hQ111
    refine own_by st111 ?_
    have N111 := Fr.app N0 Nq111
    show own_Fin _ _ _ _ (T111.setTop (mkF m 32 #[.val (.int p1), .val (.int p2), .val (.int p3), .val (.int p4), .val (.int p5), .val (.int (3 : Int32)), .val (.ref b109), .val (.ref b110), .unset, .unset] [(.int (own_var p2)), (.int (0 : Int32)), (.ref b109)]))
    obtain ⟨cl112, Ar112, qa112, Sa112, Na112, Ha112, Ga112⟩ := id V_b109_110
    have hin112 : ¬ ((0 : Int32) < 0 ∨ cl112.slots.size ≤ ((0 : Int32)).toNatClampNeg) := inb_of Sa112 ⟨by decide, by decide⟩
    obtain ⟨T113, h113, X113, e113, W113, st113⟩ := stI X111 hx hZ e111 Ar112 (j := (0 : Int32)) hin112 (g := (mkF m 32 #[.val (.int p1), .val (.int p2), .val (.int p3), .val (.int p4), .val (.int p5), .val (.int (3 : Int32)), .val (.ref b109), .val (.ref b110), .unset, .unset] [(.int (own_var p2)), (.int (0 : Int32)), (.ref b109)])) rfl rfl (hb hby at_32)
    refine own_by st113 ?_
    have V_b109_113 : Arv Z h113 b109 k109 .int (3 : Int32) [(.int (own_var p2)), (.int (0 : Int32)), (.int (0 : Int32))] (.int (0 : Int32)) := Arv.set Ar112 qa112 Sa112 Na112 Ha112 Ga112 rfl W113 0 rfl (Nat.le_of_ble_eq_true rfl)
    have E_b109_113 := E_b109_110.wr W113
    have V_b110_113 := V_b110.other W113 (Ne.symm ne_b109_b110)
    have E_b110_113 := E_b110.wr W113
    have N113 := Fr.snoc X113 N111 g_b109
    have Z113 : n0 ≤ h113.size := Nat.le_trans Z110 (Keep.of_wr W113).1
    show own_Fin _ _ _ _ (T113.setTop (mkF m 33 #[.val (.int p1), .val (.int p2), .val (.int p3), .val (.int p4), .val (.int p5), .val (.int (3 : Int32)), .val (.ref b109), .val (.ref b110), .unset, .unset] []))
    refine own_go (XS.aload X113.here hx rfl (hb hby at_33) rfl rfl (Steps.refl _)) ?_
    show own_Fin _ _ _ _ (T113.setTop (mkF m 35 #[.val (.int p1), .val (.int p2), .val (.int p3), .val (.int p4), .val (.int p5), .val (.int (3 : Int32)), .val (.ref b109), .val (.ref b110), .unset, .unset] [(.ref b110)]))
    refine own_go (XS.iconst X113.here hx rfl (hb hby at_35) (Steps.refl _)) ?_
    show own_Fin _ _ _ _ (T113.setTop (mkF m 36 #[.val (.int p1), .val (.int p2), .val (.int p3), .val (.int p4), .val (.int p5), .val (.int (3 : Int32)), .val (.ref b109), .val (.ref b110), .unset, .unset] [(.int (0 : Int32)), (.ref b110)]))
    refine own_go (XS.iloadN X113.here hx rfl (hb hby at_36) rfl (Steps.refl _)) ?_
    show own_Fin _ _ _ _ (T113.setTop (mkF m 37 #[.val (.int p1), .val (.int p2), .val (.int p3), .val (.int p4), .val (.int p5), .val (.int (3 : Int32)), .val (.ref b109), .val (.ref b110), .unset, .unset] [(.int p2), (.int (0 : Int32)), (.ref b110)]))
    obtain ⟨cl114, Ar114, qa114, Sa114, Na114, Ha114, Ga114⟩ := id V_b110_113
    have hin114 : ¬ ((0 : Int32) < 0 ∨ cl114.slots.size ≤ ((0 : Int32)).toNatClampNeg) := inb_of Sa114 ⟨by decide, by decide⟩
    obtain ⟨T115, h115, X115, e115, W115, st115⟩ := stI X113 hx hZ e113 Ar114 (j := (0 : Int32)) hin114 (g := (mkF m 37 #[.val (.int p1), .val (.int p2), .val (.int p3), .val (.int p4), .val (.int p5), .val (.int (3 : Int32)), .val (.ref b109), .val (.ref b110), .unset, .unset] [(.int p2), (.int (0 : Int32)), (.ref b110)])) rfl rfl (hb hby at_37)
    refine own_by st115 ?_
    have V_b110_115 : Arv Z h115 b110 k110 .int (3 : Int32) [(.int p2), (.int (0 : Int32)), (.int (0 : Int32))] (.int (0 : Int32)) := Arv.set Ar114 qa114 Sa114 Na114 Ha114 Ga114 rfl W115 0 rfl (Nat.le_of_ble_eq_true rfl)
    have V_b109_115 := V_b109_113.other W115 ne_b109_b110
    have E_b109_115 := E_b109_113.wr W115
    have E_b110_115 := E_b110_113.wr W115
    have N115 := Fr.snoc X115 N113 g_b110
    have Z115 : n0 ≤ h115.size := Nat.le_trans Z113 (Keep.of_wr W115).1
    show own_Fin _ _ _ _ (T115.setTop (mkF m 38 #[.val (.int p1), .val (.int p2), .val (.int p3), .val (.int p4), .val (.int p5), .val (.int (3 : Int32)), .val (.ref b109), .val (.ref b110), .unset, .unset] []))
    refine own_go (XS.iload X115.here hx rfl (hb hby at_38) rfl (Steps.refl _)) ?_
    show own_Fin _ _ _ _ (T115.setTop (mkF m 40 #[.val (.int p1), .val (.int p2), .val (.int p3), .val (.int p4), .val (.int p5), .val (.int (3 : Int32)), .val (.ref b109), .val (.ref b110), .unset, .unset] [(.int (3 : Int32))]))
    refine own_go (XS.iconst X115.here hx rfl (hb hby at_40) (Steps.refl _)) ?_
    show own_Fin _ _ _ _ (T115.setTop (mkF m 41 #[.val (.int p1), .val (.int p2), .val (.int p3), .val (.int p4), .val (.int p5), .val (.int (3 : Int32)), .val (.ref b109), .val (.ref b110), .unset, .unset] [(.int (1 : Int32)), (.int (3 : Int32))]))
    refine own_go (XS.icmpNo X115.here hx rfl (hb hby at_41) rfl (tlt (by decide : (1 : Int32) < (3 : Int32))).2.2.2 (Steps.refl _)) ?_
    show own_Fin _ _ _ _ (T115.setTop (mkF m 44 #[.val (.int p1), .val (.int p2), .val (.int p3), .val (.int p4), .val (.int p5), .val (.int (3 : Int32)), .val (.ref b109), .val (.ref b110), .unset, .unset] []))
    refine own_go (XS.aload X115.here hx rfl (hb hby at_44) rfl rfl (Steps.refl _)) ?_
    show own_Fin _ _ _ _ (T115.setTop (mkF m 46 #[.val (.int p1), .val (.int p2), .val (.int p3), .val (.int p4), .val (.int p5), .val (.int (3 : Int32)), .val (.ref b109), .val (.ref b110), .unset, .unset] [(.ref b109)]))
    refine own_go (XS.iconst X115.here hx rfl (hb hby at_46) (Steps.refl _)) ?_
    show own_Fin _ _ _ _ (T115.setTop (mkF m 47 #[.val (.int p1), .val (.int p2), .val (.int p3), .val (.int p4), .val (.int p5), .val (.int (3 : Int32)), .val (.ref b109), .val (.ref b110), .unset, .unset] [(.int (1 : Int32)), (.ref b109)]))
    refine own_go (XS.iloadN X115.here hx rfl (hb hby at_47) rfl (Steps.refl _)) ?_
    show own_Fin _ _ _ _ (T115.setTop (mkF m 48 #[.val (.int p1), .val (.int p2), .val (.int p3), .val (.int p4), .val (.int p5), .val (.int (3 : Int32)), .val (.ref b109), .val (.ref b110), .unset, .unset] [(.int p3), (.int (1 : Int32)), (.ref b109)]))
    obtain ⟨_, _, ⟨T116, L116, k116, n116⟩, -, X116, ⟨Lc116, hQ116, l116, y116, z116⟩, st116⟩ := Jvm.LawKit.callS X115 hx (y := (⟨"com/example/nosto/nosto/ArgumentsNamesConstantPinLaw", "var", "(I)I"⟩ : MethodName)) hown (mvT hZ (hw _ (List.mem_of_getElem? (i := 29) rfl))) (mvT hZ (hw _ (List.mem_of_getElem? (i := 30) rfl))) (mvT hZ (hw _ (List.mem_of_getElem? (i := 31) rfl))) (mvT hZ (hw _ (List.mem_of_getElem? (i := 32) rfl))) (by decide) (backOf (W := 2) (rm4 l Z a0 hw [] p3 h115 n0 Z115) hZ (hw _ (List.mem_of_getElem? (i := 32) rfl)) (hw _ (List.mem_of_getElem? (i := 31) rfl)) (by decide) (by decide)) (g := (mkF m 48 #[.val (.int p1), .val (.int p2), .val (.int p3), .val (.int p4), .val (.int p5), .val (.int (3 : Int32)), .val (.ref b109), .val (.ref b110), .unset, .unset] [(.int p3), (.int (1 : Int32)), (.ref b109)])) rfl (by rw [hml]; rfl) (argsL := [(.int p3)]) (rest := [(.int (1 : Int32)), (.ref b109)]) (lenOf pd__28_I_29_I rfl) rfl (by show 2 * 0 + _ ≤ _; exact Nat.le_of_eq rfl) (hb hby at_48) (fun _ _ => ⟨rfl, e115, (by decide : 2 + 0 ≤ _), (by decide : 6 + 0 ≤ _)⟩)
    dsimp only [Pt.U, Pt.locs, Pt.cells, Pt.slots] at X116 l116 y116 z116 st116 hQ116
    subst l116 y116 z116
    obtain ⟨rfl, Nq116, e116⟩ := hQ116
    refine own_by st116 ?_
    have N116 := Fr.app N115 Nq116
    show own_Fin _ _ _ _ (T116.setTop (mkF m 51 #[.val (.int p1), .val (.int p2), .val (.int p3), .val (.int p4), .val (.int p5), .val (.int (3 : Int32)), .val (.ref b109), .val (.ref b110), .unset, .unset] [(.int (own_var p3)), (.int (1 : Int32)), (.ref b109)]))
    obtain ⟨cl117, Ar117, qa117, Sa117, Na117, Ha117, Ga117⟩ := id V_b109_115
    have hin117 : ¬ ((1 : Int32) < 0 ∨ cl117.slots.size ≤ ((1 : Int32)).toNatClampNeg) := inb_of Sa117 ⟨by decide, by decide⟩
    obtain ⟨T118, h118, X118, e118, W118, st118⟩ := stI X116 hx hZ e116 Ar117 (j := (1 : Int32)) hin117 (g := (mkF m 51 #[.val (.int p1), .val (.int p2), .val (.int p3), .val (.int p4), .val (.int p5), .val (.int (3 : Int32)), .val (.ref b109), .val (.ref b110), .unset, .unset] [(.int (own_var p3)), (.int (1 : Int32)), (.ref b109)])) rfl rfl (hb hby at_51)
    refine own_by st118 ?_
    have V_b109_118 : Arv Z h118 b109 k109 .int (3 : Int32) [(.int (own_var p2)), (.int (own_var p3)), (.int (0 : Int32))] (.int (0 : Int32)) := Arv.set Ar117 qa117 Sa117 Na117 Ha117 Ga117 rfl W118 1 rfl (Nat.le_of_ble_eq_true rfl)
    have E_b109_118 := E_b109_115.wr W118
    have V_b110_118 := V_b110_115.other W118 (Ne.symm ne_b109_b110)
    have E_b110_118 := E_b110_115.wr W118
    have N118 := Fr.snoc X118 N116 g_b109
    have Z118 : n0 ≤ h118.size := Nat.le_trans Z115 (Keep.of_wr W118).1
    show own_Fin _ _ _ _ (T118.setTop (mkF m 52 #[.val (.int p1), .val (.int p2), .val (.int p3), .val (.int p4), .val (.int p5), .val (.int (3 : Int32)), .val (.ref b109), .val (.ref b110), .unset, .unset] []))
    refine own_go (XS.aload X118.here hx rfl (hb hby at_52) rfl rfl (Steps.refl _)) ?_
    show own_Fin _ _ _ _ (T118.setTop (mkF m 54 #[.val (.int p1), .val (.int p2), .val (.int p3), .val (.int p4), .val (.int p5), .val (.int (3 : Int32)), .val (.ref b109), .val (.ref b110), .unset, .unset] [(.ref b110)]))
    refine own_go (XS.iconst X118.here hx rfl (hb hby at_54) (Steps.refl _)) ?_
    show own_Fin _ _ _ _ (T118.setTop (mkF m 55 #[.val (.int p1), .val (.int p2), .val (.int p3), .val (.int p4), .val (.int p5), .val (.int (3 : Int32)), .val (.ref b109), .val (.ref b110), .unset, .unset] [(.int (1 : Int32)), (.ref b110)]))
    refine own_go (XS.iloadN X118.here hx rfl (hb hby at_55) rfl (Steps.refl _)) ?_
    show own_Fin _ _ _ _ (T118.setTop (mkF m 56 #[.val (.int p1), .val (.int p2), .val (.int p3), .val (.int p4), .val (.int p5), .val (.int (3 : Int32)), .val (.ref b109), .val (.ref b110), .unset, .unset] [(.int p3), (.int (1 : Int32)), (.ref b110)]))
    obtain ⟨cl119, Ar119, qa119, Sa119, Na119, Ha119, Ga119⟩ := id V_b110_118
    have hin119 : ¬ ((1 : Int32) < 0 ∨ cl119.slots.size ≤ ((1 : Int32)).toNatClampNeg) := inb_of Sa119 ⟨by decide, by decide⟩
    obtain ⟨T120, h120, X120, e120, W120, st120⟩ := stI X118 hx hZ e118 Ar119 (j := (1 : Int32)) hin119 (g := (mkF m 56 #[.val (.int p1), .val (.int p2), .val (.int p3), .val (.int p4), .val (.int p5), .val (.int (3 : Int32)), .val (.ref b109), .val (.ref b110), .unset, .unset] [(.int p3), (.int (1 : Int32)), (.ref b110)])) rfl rfl (hb hby at_56)
    refine own_by st120 ?_
    have V_b110_120 : Arv Z h120 b110 k110 .int (3 : Int32) [(.int p2), (.int p3), (.int (0 : Int32))] (.int (0 : Int32)) := Arv.set Ar119 qa119 Sa119 Na119 Ha119 Ga119 rfl W120 1 rfl (Nat.le_of_ble_eq_true rfl)
    have V_b109_120 := V_b109_118.other W120 ne_b109_b110
    have E_b109_120 := E_b109_118.wr W120
    have E_b110_120 := E_b110_118.wr W120
    have N120 := Fr.snoc X120 N118 g_b110
    have Z120 : n0 ≤ h120.size := Nat.le_trans Z118 (Keep.of_wr W120).1
    show own_Fin _ _ _ _ (T120.setTop (mkF m 57 #[.val (.int p1), .val (.int p2), .val (.int p3), .val (.int p4), .val (.int p5), .val (.int (3 : Int32)), .val (.ref b109), .val (.ref b110), .unset, .unset] []))
    refine own_go (XS.iload X120.here hx rfl (hb hby at_57) rfl (Steps.refl _)) ?_
    show own_Fin _ _ _ _ (T120.setTop (mkF m 59 #[.val (.int p1), .val (.int p2), .val (.int p3), .val (.int p4), .val (.int p5), .val (.int (3 : Int32)), .val (.ref b109), .val (.ref b110), .unset, .unset] [(.int (3 : Int32))]))
    refine own_go (XS.iconst X120.here hx rfl (hb hby at_59) (Steps.refl _)) ?_
    show own_Fin _ _ _ _ (T120.setTop (mkF m 60 #[.val (.int p1), .val (.int p2), .val (.int p3), .val (.int p4), .val (.int p5), .val (.int (3 : Int32)), .val (.ref b109), .val (.ref b110), .unset, .unset] [(.int (2 : Int32)), (.int (3 : Int32))]))
    refine own_go (XS.icmpNo X120.here hx rfl (hb hby at_60) rfl (tlt (by decide : (2 : Int32) < (3 : Int32))).2.2.2 (Steps.refl _)) ?_
    show own_Fin _ _ _ _ (T120.setTop (mkF m 63 #[.val (.int p1), .val (.int p2), .val (.int p3), .val (.int p4), .val (.int p5), .val (.int (3 : Int32)), .val (.ref b109), .val (.ref b110), .unset, .unset] []))
    refine own_go (XS.aload X120.here hx rfl (hb hby at_63) rfl rfl (Steps.refl _)) ?_
    show own_Fin _ _ _ _ (T120.setTop (mkF m 65 #[.val (.int p1), .val (.int p2), .val (.int p3), .val (.int p4), .val (.int p5), .val (.int (3 : Int32)), .val (.ref b109), .val (.ref b110), .unset, .unset] [(.ref b109)]))
    refine own_go (XS.iconst X120.here hx rfl (hb hby at_65) (Steps.refl _)) ?_
    show own_Fin _ _ _ _ (T120.setTop (mkF m 66 #[.val (.int p1), .val (.int p2), .val (.int p3), .val (.int p4), .val (.int p5), .val (.int (3 : Int32)), .val (.ref b109), .val (.ref b110), .unset, .unset] [(.int (2 : Int32)), (.ref b109)]))
    refine own_go (XS.iloadN X120.here hx rfl (hb hby at_66) rfl (Steps.refl _)) ?_
    show own_Fin _ _ _ _ (T120.setTop (mkF m 67 #[.val (.int p1), .val (.int p2), .val (.int p3), .val (.int p4), .val (.int p5), .val (.int (3 : Int32)), .val (.ref b109), .val (.ref b110), .unset, .unset] [(.int p4), (.int (2 : Int32)), (.ref b109)]))
    obtain ⟨_, _, ⟨T121, L121, k121, n121⟩, -, X121, ⟨Lc121, hQ121, l121, y121, z121⟩, st121⟩ := Jvm.LawKit.callS X120 hx (y := (⟨"com/example/nosto/nosto/ArgumentsNamesConstantPinLaw", "var", "(I)I"⟩ : MethodName)) hown (mvT hZ (hw _ (List.mem_of_getElem? (i := 29) rfl))) (mvT hZ (hw _ (List.mem_of_getElem? (i := 30) rfl))) (mvT hZ (hw _ (List.mem_of_getElem? (i := 31) rfl))) (mvT hZ (hw _ (List.mem_of_getElem? (i := 32) rfl))) (by decide) (backOf (W := 2) (rm4 l Z a0 hw [] p4 h120 n0 Z120) hZ (hw _ (List.mem_of_getElem? (i := 32) rfl)) (hw _ (List.mem_of_getElem? (i := 31) rfl)) (by decide) (by decide)) (g := (mkF m 67 #[.val (.int p1), .val (.int p2), .val (.int p3), .val (.int p4), .val (.int p5), .val (.int (3 : Int32)), .val (.ref b109), .val (.ref b110), .unset, .unset] [(.int p4), (.int (2 : Int32)), (.ref b109)])) rfl (by rw [hml]; rfl) (argsL := [(.int p4)]) (rest := [(.int (2 : Int32)), (.ref b109)]) (lenOf pd__28_I_29_I rfl) rfl (by show 2 * 0 + _ ≤ _; exact Nat.le_of_eq rfl) (hb hby at_67) (fun _ _ => ⟨rfl, e120, (by decide : 2 + 0 ≤ _), (by decide : 6 + 0 ≤ _)⟩)
    dsimp only [Pt.U, Pt.locs, Pt.cells, Pt.slots] at X121 l121 y121 z121 st121 hQ121
    subst l121 y121 z121
    obtain ⟨rfl, Nq121, e121⟩ := hQ121
    refine own_by st121 ?_
    have N121 := Fr.app N120 Nq121
    show own_Fin _ _ _ _ (T121.setTop (mkF m 70 #[.val (.int p1), .val (.int p2), .val (.int p3), .val (.int p4), .val (.int p5), .val (.int (3 : Int32)), .val (.ref b109), .val (.ref b110), .unset, .unset] [(.int (own_var p4)), (.int (2 : Int32)), (.ref b109)]))
    obtain ⟨cl122, Ar122, qa122, Sa122, Na122, Ha122, Ga122⟩ := id V_b109_120
    have hin122 : ¬ ((2 : Int32) < 0 ∨ cl122.slots.size ≤ ((2 : Int32)).toNatClampNeg) := inb_of Sa122 ⟨by decide, by decide⟩
    obtain ⟨T123, h123, X123, e123, W123, st123⟩ := stI X121 hx hZ e121 Ar122 (j := (2 : Int32)) hin122 (g := (mkF m 70 #[.val (.int p1), .val (.int p2), .val (.int p3), .val (.int p4), .val (.int p5), .val (.int (3 : Int32)), .val (.ref b109), .val (.ref b110), .unset, .unset] [(.int (own_var p4)), (.int (2 : Int32)), (.ref b109)])) rfl rfl (hb hby at_70)
    refine own_by st123 ?_
    have V_b109_123 : Arv Z h123 b109 k109 .int (3 : Int32) [(.int (own_var p2)), (.int (own_var p3)), (.int (own_var p4))] (.int (0 : Int32)) := Arv.set Ar122 qa122 Sa122 Na122 Ha122 Ga122 rfl W123 2 rfl (Nat.le_of_ble_eq_true rfl)
    have E_b109_123 := E_b109_120.wr W123
    have V_b110_123 := V_b110_120.other W123 (Ne.symm ne_b109_b110)
    have E_b110_123 := E_b110_120.wr W123
    have N123 := Fr.snoc X123 N121 g_b109
    have Z123 : n0 ≤ h123.size := Nat.le_trans Z120 (Keep.of_wr W123).1
    show own_Fin _ _ _ _ (T123.setTop (mkF m 71 #[.val (.int p1), .val (.int p2), .val (.int p3), .val (.int p4), .val (.int p5), .val (.int (3 : Int32)), .val (.ref b109), .val (.ref b110), .unset, .unset] []))
    refine own_go (XS.aload X123.here hx rfl (hb hby at_71) rfl rfl (Steps.refl _)) ?_
    show own_Fin _ _ _ _ (T123.setTop (mkF m 73 #[.val (.int p1), .val (.int p2), .val (.int p3), .val (.int p4), .val (.int p5), .val (.int (3 : Int32)), .val (.ref b109), .val (.ref b110), .unset, .unset] [(.ref b110)]))
    refine own_go (XS.iconst X123.here hx rfl (hb hby at_73) (Steps.refl _)) ?_
    show own_Fin _ _ _ _ (T123.setTop (mkF m 74 #[.val (.int p1), .val (.int p2), .val (.int p3), .val (.int p4), .val (.int p5), .val (.int (3 : Int32)), .val (.ref b109), .val (.ref b110), .unset, .unset] [(.int (2 : Int32)), (.ref b110)]))
    refine own_go (XS.iloadN X123.here hx rfl (hb hby at_74) rfl (Steps.refl _)) ?_
    show own_Fin _ _ _ _ (T123.setTop (mkF m 75 #[.val (.int p1), .val (.int p2), .val (.int p3), .val (.int p4), .val (.int p5), .val (.int (3 : Int32)), .val (.ref b109), .val (.ref b110), .unset, .unset] [(.int p4), (.int (2 : Int32)), (.ref b110)]))
    obtain ⟨cl124, Ar124, qa124, Sa124, Na124, Ha124, Ga124⟩ := id V_b110_123
    have hin124 : ¬ ((2 : Int32) < 0 ∨ cl124.slots.size ≤ ((2 : Int32)).toNatClampNeg) := inb_of Sa124 ⟨by decide, by decide⟩
    obtain ⟨T125, h125, X125, e125, W125, st125⟩ := stI X123 hx hZ e123 Ar124 (j := (2 : Int32)) hin124 (g := (mkF m 75 #[.val (.int p1), .val (.int p2), .val (.int p3), .val (.int p4), .val (.int p5), .val (.int (3 : Int32)), .val (.ref b109), .val (.ref b110), .unset, .unset] [(.int p4), (.int (2 : Int32)), (.ref b110)])) rfl rfl (hb hby at_75)
    refine own_by st125 ?_
    have V_b110_125 : Arv Z h125 b110 k110 .int (3 : Int32) [(.int p2), (.int p3), (.int p4)] (.int (0 : Int32)) := Arv.set Ar124 qa124 Sa124 Na124 Ha124 Ga124 rfl W125 2 rfl (Nat.le_of_ble_eq_true rfl)
    have V_b109_125 := V_b109_123.other W125 ne_b109_b110
    have E_b109_125 := E_b109_123.wr W125
    have E_b110_125 := E_b110_123.wr W125
    have N125 := Fr.snoc X125 N123 g_b110
    have Z125 : n0 ≤ h125.size := Nat.le_trans Z123 (Keep.of_wr W125).1
    show own_Fin _ _ _ _ (T125.setTop (mkF m 76 #[.val (.int p1), .val (.int p2), .val (.int p3), .val (.int p4), .val (.int p5), .val (.int (3 : Int32)), .val (.ref b109), .val (.ref b110), .unset, .unset] []))
    refine own_go (XS.iload X125.here hx rfl (hb hby at_76) rfl (Steps.refl _)) ?_
    show own_Fin _ _ _ _ (T125.setTop (mkF m 78 #[.val (.int p1), .val (.int p2), .val (.int p3), .val (.int p4), .val (.int p5), .val (.int (3 : Int32)), .val (.ref b109), .val (.ref b110), .unset, .unset] [(.int (3 : Int32))]))
    refine own_go (XS.iconst X125.here hx rfl (hb hby at_78) (Steps.refl _)) ?_
    show own_Fin _ _ _ _ (T125.setTop (mkF m 79 #[.val (.int p1), .val (.int p2), .val (.int p3), .val (.int p4), .val (.int p5), .val (.int (3 : Int32)), .val (.ref b109), .val (.ref b110), .unset, .unset] [(.int (3 : Int32)), (.int (3 : Int32))]))
    refine own_go (XS.icmpYes X125.here hx rfl (pc0 := 79) (pc' := 97) rfl (hb hby at_79) rfl (flt (by decide : ¬ ((3 : Int32) < (3 : Int32)))).2.2.2 (by decide) (by decide) (Steps.refl _)) ?_
    show own_Fin _ _ _ _ (T125.setTop (mkF m 97 #[.val (.int p1), .val (.int p2), .val (.int p3), .val (.int p4), .val (.int p5), .val (.int (3 : Int32)), .val (.ref b109), .val (.ref b110), .unset, .unset] []))
    refine own_go (XS.iload X125.here hx rfl (hb hby at_97) rfl (Steps.refl _)) ?_
    show own_Fin _ _ _ _ (T125.setTop (mkF m 99 #[.val (.int p1), .val (.int p2), .val (.int p3), .val (.int p4), .val (.int p5), .val (.int (3 : Int32)), .val (.ref b109), .val (.ref b110), .unset, .unset] [(.int (3 : Int32))]))
    refine own_go (XS.ifNo X125.here hx rfl (hb hby at_99) rfl ((if0 _ _).trans (tlt (by decide : (0 : Int32) < (3 : Int32))).2.2.2) (Steps.refl _)) ?_
    show own_Fin _ _ _ _ (T125.setTop (mkF m 102 #[.val (.int p1), .val (.int p2), .val (.int p3), .val (.int p4), .val (.int p5), .val (.int (3 : Int32)), .val (.ref b109), .val (.ref b110), .unset, .unset] []))
    refine own_go (XS.iloadN X125.here hx rfl (hb hby at_102) rfl (Steps.refl _)) ?_
    show own_Fin _ _ _ _ (T125.setTop (mkF m 103 #[.val (.int p1), .val (.int p2), .val (.int p3), .val (.int p4), .val (.int p5), .val (.int (3 : Int32)), .val (.ref b109), .val (.ref b110), .unset, .unset] [(.int p2)]))
    have jn127 : ∀ (Tj127 : State) (Lj127 : List Loc) (xe126 : Int32), Stand p l e room_1 s m #[(.int p1), (.int p2), (.int p3), (.int p4), (.int p5)] below meth c Tj127 Lj127 2 6 → Tj127.heap = h125 → Fr n0 Lj127 → (xe126 = (if (decide (p2 < (0 : Int32)) || decide (p3 < (0 : Int32)) || decide (p4 < (0 : Int32))) then (1 : Int32) else 0)) → own_Fin p e below (G0 Z p1 p2 p3 p4 p5 h0 n0 s) (Tj127.setTop (mkF m 142 #[.val (.int p1), .val (.int p2), .val (.int p3), .val (.int p4), .val (.int p5), .val (.int (3 : Int32)), .val (.ref b109), .val (.ref b110), .unset, .unset] [(.int xe126)])) := by
      intro Tj127 Lj127 xe126 Xj127 ej127 Nj127 hj127
      refine own_go (XS.istore Xj127.here hx rfl (hb hby at_142) rfl (l' := #[.val (.int p1), .val (.int p2), .val (.int p3), .val (.int p4), .val (.int p5), .val (.int (3 : Int32)), .val (.ref b109), .val (.ref b110), .val (.int xe126), .unset]) rfl (Steps.refl _)) ?_
      show own_Fin _ _ _ _ (Tj127.setTop (mkF m 144 #[.val (.int p1), .val (.int p2), .val (.int p3), .val (.int p4), .val (.int p5), .val (.int (3 : Int32)), .val (.ref b109), .val (.ref b110), .val (.int xe126), .unset] []))
      obtain ⟨T128, h128, X128, e128, E128, A128, D128, U128, st128⟩ := newO Xj127 hx hZ hown (hw _ (List.mem_of_getElem? (i := 2) rfl)) (hw _ (List.mem_of_getElem? (i := 3) rfl)) (hw _ (List.mem_of_getElem? (i := 4) rfl)) ej127 (g := (mkF m 144 #[.val (.int p1), .val (.int p2), .val (.int p3), .val (.int p4), .val (.int p5), .val (.int (3 : Int32)), .val (.ref b109), .val (.ref b110), .val (.int xe126), .unset] [])) rfl (hb hby at_144) (by decide) (by decide)
      obtain ⟨b128, g128⟩ : ∃ z, z = h125.size := ⟨_, rfl⟩
      rw [← g128] at A128 D128 U128 st128
      refine own_by st128 ?_
      have ne_b109_b128 : b109 ≠ b128 := Nat.ne_of_lt (Nat.lt_of_lt_of_eq V_b109_125.lt g128.symm)
      have ne_b110_b128 : b110 ≠ b128 := Nat.ne_of_lt (Nat.lt_of_lt_of_eq V_b110_125.lt g128.symm)
      have V_b109_128 := V_b109_125.ext E128
      have E_b109_128 := E_b109_125.ext E128
      have V_b110_128 := V_b110_125.ext E128
      have E_b110_128 := E_b110_125.ext E128
      have g_b128 : n0 ≤ b128 := Nat.le_trans Z125 (Nat.le_of_eq g128.symm)
      have Z128 : n0 ≤ h128.size := Nat.le_trans Z125 E128.1
      have E_b128 := A128
      have F_variables_b128 : Fld Z h128 b128 "com/example/nosto/nosto/Arguments" "variables" "[I" .null := D128 (Or.inr (hw _ (List.mem_of_getElem? (i := 21) rfl))) (ty := (.array .int)) (by decide)
      have F_constants_b128 : Fld Z h128 b128 "com/example/nosto/nosto/Arguments" "constants" "[I" .null := D128 (Or.inr (hw _ (List.mem_of_getElem? (i := 23) rfl))) (ty := (.array .int)) (by decide)
      show own_Fin _ _ _ _ (T128.setTop (mkF m 147 #[.val (.int p1), .val (.int p2), .val (.int p3), .val (.int p4), .val (.int p5), .val (.int (3 : Int32)), .val (.ref b109), .val (.ref b110), .val (.int xe126), .unset] [(.ref b128)]))
      refine own_go (XS.dup X128.here hx rfl (hb hby at_147) rfl rfl (Steps.refl _)) ?_
      show own_Fin _ _ _ _ (T128.setTop (mkF m 148 #[.val (.int p1), .val (.int p2), .val (.int p3), .val (.int p4), .val (.int p5), .val (.int (3 : Int32)), .val (.ref b109), .val (.ref b110), .val (.int xe126), .unset] [(.ref b128), (.ref b128)]))
      refine own_go (XS.aload X128.here hx rfl (hb hby at_148) rfl rfl (Steps.refl _)) ?_
      show own_Fin _ _ _ _ (T128.setTop (mkF m 150 #[.val (.int p1), .val (.int p2), .val (.int p3), .val (.int p4), .val (.int p5), .val (.int (3 : Int32)), .val (.ref b109), .val (.ref b110), .val (.int xe126), .unset] [(.ref b109), (.ref b128), (.ref b128)]))
      refine own_go (XS.aload X128.here hx rfl (hb hby at_150) rfl rfl (Steps.refl _)) ?_
      show own_Fin _ _ _ _ (T128.setTop (mkF m 152 #[.val (.int p1), .val (.int p2), .val (.int p3), .val (.int p4), .val (.int p5), .val (.int (3 : Int32)), .val (.ref b109), .val (.ref b110), .val (.int xe126), .unset] [(.ref b110), (.ref b109), (.ref b128), (.ref b128)]))
      obtain ⟨_, _, ⟨T129, L129, k129, n129⟩, -, X129, ⟨Lc129, hQ129, l129, y129, z129⟩, st129⟩ := X128.specialBack hx (y := (⟨"com/example/nosto/nosto/Arguments", "<init>", "([I[I)V"⟩ : MethodName)) rfl hown (mvT hZ (hw _ (List.mem_of_getElem? (i := 5) rfl))) (mvT hZ (hw _ (List.mem_of_getElem? (i := 6) rfl))) (mvT hZ (hw _ (List.mem_of_getElem? (i := 7) rfl))) (by decide) (backOf (W := 1) (rm1 l Z a0 hw [] b128 b109 b110 k109 (3 : Int32) [(.int (own_var p2)), (.int (own_var p3)), (.int (own_var p4))] (.int (0 : Int32)) k110 (3 : Int32) [(.int p2), (.int p3), (.int p4)] (.int (0 : Int32)) h128 n0 Z128 E_b128 F_variables_b128 F_constants_b128 g_b128 ne_b109_b128 ne_b110_b128 V_b109_128 E_b109_128 (by decide) V_b110_128 E_b110_128 (by decide)) hZ (hw _ (List.mem_of_getElem? (i := 7) rfl)) (hw _ (List.mem_of_getElem? (i := 4) rfl)) (by decide) (by decide)) (g := (mkF m 152 #[.val (.int p1), .val (.int p2), .val (.int p3), .val (.int p4), .val (.int p5), .val (.int (3 : Int32)), .val (.ref b109), .val (.ref b110), .val (.int xe126), .unset] [(.ref b110), (.ref b109), (.ref b128), (.ref b128)])) rfl (by rw [hml]; rfl) (Steps.refl _) (a := b128) (argsL := [(.ref b109), (.ref b110)]) (rest := [(.ref b128)]) (lenOf pd__28__5b_I_5b_I_29_V rfl) rfl (by show 2 * 0 + _ ≤ _; exact Nat.le_of_eq rfl) (hb hby at_152) (fun _ _ => ⟨rfl, e128, (by decide : 3 + 2 ≤ _), (by decide : 8 + 8 ≤ _)⟩)
      dsimp only [Pt.U, Pt.locs, Pt.cells, Pt.slots] at X129 l129 y129 z129 st129 hQ129
      subst l129 y129 z129
      refine own_go st129 ?_
      obtain ⟨rfl, Nq129, K129, Ek129, bb129, gb129, Fk129, Vk129⟩ := hQ129
      have V_b109_129 := V_b109_128.keep K129 (ninS ne_b109_b128 nin0)
      have E_b109_129 := E_b109_128.keep K129
      have V_b110_129 := V_b110_128.keep K129 (ninS ne_b110_b128 nin0)
      have E_b110_129 := E_b110_128.keep K129
      have E_b128_129 := E_b128.keep K129
      have Z129 := Nat.le_trans Z128 K129.1
      have N129 := Fr.app Nj127 Nq129
      show own_Fin _ _ _ _ (T129.setTop (mkF m 155 #[.val (.int p1), .val (.int p2), .val (.int p3), .val (.int p4), .val (.int p5), .val (.int (3 : Int32)), .val (.ref b109), .val (.ref b110), .val (.int xe126), .unset] [(.ref b128)]))
      refine own_go (XS.astore X129.here hx rfl (hb hby at_155) rfl rfl (l' := #[.val (.int p1), .val (.int p2), .val (.int p3), .val (.int p4), .val (.int p5), .val (.int (3 : Int32)), .val (.ref b109), .val (.ref b110), .val (.int xe126), .val (.ref b128)]) rfl (Steps.refl _)) ?_
      show own_Fin _ _ _ _ (T129.setTop (mkF m 157 #[.val (.int p1), .val (.int p2), .val (.int p3), .val (.int p4), .val (.int p5), .val (.int (3 : Int32)), .val (.ref b109), .val (.ref b110), .val (.int xe126), .val (.ref b128)] []))
      refine own_go (XS.aload X129.here hx rfl (hb hby at_157) rfl rfl (Steps.refl _)) ?_
      show own_Fin _ _ _ _ (T129.setTop (mkF m 159 #[.val (.int p1), .val (.int p2), .val (.int p3), .val (.int p4), .val (.int p5), .val (.int (3 : Int32)), .val (.ref b109), .val (.ref b110), .val (.int xe126), .val (.ref b128)] [(.ref b128)]))
      obtain ⟨cq130, kq130, q130a, q130b, q130c⟩ := isOf hZ rfl Ek129
      obtain ⟨_, _, ⟨T130, L130, k130, n130⟩, -, X130, ⟨Lc130, hQ130, l130, y130, z130⟩, st130⟩ := X129.virtualBack hx (y := (⟨"com/example/nosto/nosto/Arguments", "namesConstant", "()Z"⟩ : MethodName)) (z := (⟨"com/example/nosto/nosto/Arguments", "namesConstant", "()Z"⟩ : MethodName)) hown (mvT hZ (hw _ (List.mem_of_getElem? (i := 24) rfl))) (mvT hZ (hw _ (List.mem_of_getElem? (i := 25) rfl))) (notFace_of_selects (args := #[]) (mvT hZ (hw _ (List.mem_of_getElem? (i := 27) rfl)))) (mvT hZ (hw _ (List.mem_of_getElem? (i := 27) rfl))) (mvT hZ (hw _ (List.mem_of_getElem? (i := 26) rfl))) (by decide) (backOf (W := 0) (rm3_3 l Z a0 hw [] b128 bb129 k109 (own_var p2) (own_var p3) (own_var p4) T129.heap n0 Z129 Fk129 Vk129) hZ (hw _ (List.mem_of_getElem? (i := 28) rfl)) (hw _ (List.mem_of_getElem? (i := 4) rfl)) (by decide) (by decide)) q130a q130c (g := (mkF m 159 #[.val (.int p1), .val (.int p2), .val (.int p3), .val (.int p4), .val (.int p5), .val (.int (3 : Int32)), .val (.ref b109), .val (.ref b110), .val (.int xe126), .val (.ref b128)] [(.ref b128)])) rfl (by rw [hml]; rfl) (Steps.refl _) (argsL := []) (rest := []) (lenOf pd__28__29_Z rfl) rfl (by show 2 * 0 + _ ≤ _; exact Nat.le_of_eq rfl) (hb hby at_159) (fun _ _ => ⟨rfl, rfl, (by decide : 5 + 0 ≤ _), (by decide : 16 + 0 ≤ _)⟩)
      dsimp only [Pt.U, Pt.locs, Pt.cells, Pt.slots] at X130 l130 y130 z130 st130 hQ130
      subst l130 y130 z130
      obtain ⟨rfl, Nq130, e130⟩ := hQ130
      refine own_go st130 ?_
      have N130 := Fr.app N129 Nq130
      show own_Fin _ _ _ _ (T130.setTop (mkF m 162 #[.val (.int p1), .val (.int p2), .val (.int p3), .val (.int p4), .val (.int p5), .val (.int (3 : Int32)), .val (.ref b109), .val (.ref b110), .val (.int xe126), .val (.ref b128)] [(.int (if (decide ((own_var p2) < (0 : Int32)) || decide ((own_var p3) < (0 : Int32)) || decide ((own_var p4) < (0 : Int32))) then (1 : Int32) else 0))]))
      refine own_go (XS.iload X130.here hx rfl (hb hby at_162) rfl (Steps.refl _)) ?_
      show own_Fin _ _ _ _ (T130.setTop (mkF m 164 #[.val (.int p1), .val (.int p2), .val (.int p3), .val (.int p4), .val (.int p5), .val (.int (3 : Int32)), .val (.ref b109), .val (.ref b110), .val (.int xe126), .val (.ref b128)] [(.int xe126), (.int (if (decide ((own_var p2) < (0 : Int32)) || decide ((own_var p3) < (0 : Int32)) || decide ((own_var p4) < (0 : Int32))) then (1 : Int32) else 0))]))
      refine own_go (XS.icmpNo X130.here hx rfl (hb hby at_164) rfl (teq (show (if (decide ((own_var p2) < (0 : Int32)) || decide ((own_var p3) < (0 : Int32)) || decide ((own_var p4) < (0 : Int32))) then (1 : Int32) else 0) = xe126 from by rw [hj127]; simp only [own_varneg])).2 (Steps.refl _)) ?_
      show own_Fin _ _ _ _ (T130.setTop (mkF m 167 #[.val (.int p1), .val (.int p2), .val (.int p3), .val (.int p4), .val (.int p5), .val (.int (3 : Int32)), .val (.ref b109), .val (.ref b110), .val (.int xe126), .val (.ref b128)] []))
      refine own_go (XS.iconst X130.here hx rfl (hb hby at_167) (Steps.refl _)) ?_
      show own_Fin _ _ _ _ (T130.setTop (mkF m 168 #[.val (.int p1), .val (.int p2), .val (.int p3), .val (.int p4), .val (.int p5), .val (.int (3 : Int32)), .val (.ref b109), .val (.ref b110), .val (.int xe126), .val (.ref b128)] [(.int (1 : Int32))]))
      refine own_go (XS.goto X130.here hx rfl (pc0 := 168) (pc' := 172) rfl (hb hby at_168) (by decide) (by decide) (Steps.refl _)) ?_
      show own_Fin _ _ _ _ (T130.setTop (mkF m 172 #[.val (.int p1), .val (.int p2), .val (.int p3), .val (.int p4), .val (.int p5), .val (.int (3 : Int32)), .val (.ref b109), .val (.ref b110), .val (.int xe126), .val (.ref b128)] [(.int (1 : Int32))]))
      obtain ⟨fs131, hr131, hrun131, hended131, hW131, hsame131⟩ := X130.leave (v := some (.int (1 : Int32))) (fun h => by rw [Bd.returns] at h; cases h)
      refine own_done (retN X130 hx (t := .boolean) Bd.returns (by simp) (hb hby at_172) hr131) hrun131 hended131 ⟨_, _, rfl, ?_, ⟨_, rfl⟩, hW131, hsame131.mono (by decide) (by decide)⟩
      show Q0 Z p1 p2 p3 p4 p5 h0 n0 _ T130.heap _
      rw [e130]
      exact ⟨rfl, N130⟩
    by_cases c103_132 : p2 < (0 : Int32)
    · refine own_go (XS.ifYes X125.here hx rfl (pc0 := 103) (pc' := 137) rfl (hb hby at_103) rfl ((if0 _ _).trans (tlt c103_132).1) (by decide) (by decide) (Steps.refl _)) ?_
      show own_Fin _ _ _ _ (T125.setTop (mkF m 137 #[.val (.int p1), .val (.int p2), .val (.int p3), .val (.int p4), .val (.int p5), .val (.int (3 : Int32)), .val (.ref b109), .val (.ref b110), .unset, .unset] []))
      refine own_go (XS.iconst X125.here hx rfl (hb hby at_137) (Steps.refl _)) ?_
      show own_Fin _ _ _ _ (T125.setTop (mkF m 138 #[.val (.int p1), .val (.int p2), .val (.int p3), .val (.int p4), .val (.int p5), .val (.int (3 : Int32)), .val (.ref b109), .val (.ref b110), .unset, .unset] [(.int (1 : Int32))]))
      refine own_go (XS.goto X125.here hx rfl (pc0 := 138) (pc' := 142) rfl (hb hby at_138) (by decide) (by decide) (Steps.refl _)) ?_
      show own_Fin _ _ _ _ (T125.setTop (mkF m 142 #[.val (.int p1), .val (.int p2), .val (.int p3), .val (.int p4), .val (.int p5), .val (.int (3 : Int32)), .val (.ref b109), .val (.ref b110), .unset, .unset] [(.int (1 : Int32))]))
      exact jn127 T125 _ (1 : Int32) X125 e125 N125 (by simp [c103_132])
    · refine own_go (XS.ifNo X125.here hx rfl (hb hby at_103) rfl ((if0 _ _).trans (flt c103_132).1) (Steps.refl _)) ?_
      show own_Fin _ _ _ _ (T125.setTop (mkF m 106 #[.val (.int p1), .val (.int p2), .val (.int p3), .val (.int p4), .val (.int p5), .val (.int (3 : Int32)), .val (.ref b109), .val (.ref b110), .unset, .unset] []))
      refine own_go (XS.iload X125.here hx rfl (hb hby at_106) rfl (Steps.refl _)) ?_
      show own_Fin _ _ _ _ (T125.setTop (mkF m 108 #[.val (.int p1), .val (.int p2), .val (.int p3), .val (.int p4), .val (.int p5), .val (.int (3 : Int32)), .val (.ref b109), .val (.ref b110), .unset, .unset] [(.int (3 : Int32))]))
      refine own_go (XS.iconst X125.here hx rfl (hb hby at_108) (Steps.refl _)) ?_
      show own_Fin _ _ _ _ (T125.setTop (mkF m 109 #[.val (.int p1), .val (.int p2), .val (.int p3), .val (.int p4), .val (.int p5), .val (.int (3 : Int32)), .val (.ref b109), .val (.ref b110), .unset, .unset] [(.int (1 : Int32)), (.int (3 : Int32))]))
      refine own_go (XS.icmpNo X125.here hx rfl (hb hby at_109) rfl (tlt (by decide : (1 : Int32) < (3 : Int32))).2.2.2 (Steps.refl _)) ?_
      show own_Fin _ _ _ _ (T125.setTop (mkF m 112 #[.val (.int p1), .val (.int p2), .val (.int p3), .val (.int p4), .val (.int p5), .val (.int (3 : Int32)), .val (.ref b109), .val (.ref b110), .unset, .unset] []))
      refine own_go (XS.iloadN X125.here hx rfl (hb hby at_112) rfl (Steps.refl _)) ?_
      show own_Fin _ _ _ _ (T125.setTop (mkF m 113 #[.val (.int p1), .val (.int p2), .val (.int p3), .val (.int p4), .val (.int p5), .val (.int (3 : Int32)), .val (.ref b109), .val (.ref b110), .unset, .unset] [(.int p3)]))
      by_cases c113_133 : p3 < (0 : Int32)
      · refine own_go (XS.ifYes X125.here hx rfl (pc0 := 113) (pc' := 137) rfl (hb hby at_113) rfl ((if0 _ _).trans (tlt c113_133).1) (by decide) (by decide) (Steps.refl _)) ?_
        show own_Fin _ _ _ _ (T125.setTop (mkF m 137 #[.val (.int p1), .val (.int p2), .val (.int p3), .val (.int p4), .val (.int p5), .val (.int (3 : Int32)), .val (.ref b109), .val (.ref b110), .unset, .unset] []))
        refine own_go (XS.iconst X125.here hx rfl (hb hby at_137) (Steps.refl _)) ?_
        show own_Fin _ _ _ _ (T125.setTop (mkF m 138 #[.val (.int p1), .val (.int p2), .val (.int p3), .val (.int p4), .val (.int p5), .val (.int (3 : Int32)), .val (.ref b109), .val (.ref b110), .unset, .unset] [(.int (1 : Int32))]))
        refine own_go (XS.goto X125.here hx rfl (pc0 := 138) (pc' := 142) rfl (hb hby at_138) (by decide) (by decide) (Steps.refl _)) ?_
        show own_Fin _ _ _ _ (T125.setTop (mkF m 142 #[.val (.int p1), .val (.int p2), .val (.int p3), .val (.int p4), .val (.int p5), .val (.int (3 : Int32)), .val (.ref b109), .val (.ref b110), .unset, .unset] [(.int (1 : Int32))]))
        exact jn127 T125 _ (1 : Int32) X125 e125 N125 (by simp [c103_132, c113_133])
      · refine own_go (XS.ifNo X125.here hx rfl (hb hby at_113) rfl ((if0 _ _).trans (flt c113_133).1) (Steps.refl _)) ?_
        show own_Fin _ _ _ _ (T125.setTop (mkF m 116 #[.val (.int p1), .val (.int p2), .val (.int p3), .val (.int p4), .val (.int p5), .val (.int (3 : Int32)), .val (.ref b109), .val (.ref b110), .unset, .unset] []))
        refine own_go (XS.iload X125.here hx rfl (hb hby at_116) rfl (Steps.refl _)) ?_
        show own_Fin _ _ _ _ (T125.setTop (mkF m 118 #[.val (.int p1), .val (.int p2), .val (.int p3), .val (.int p4), .val (.int p5), .val (.int (3 : Int32)), .val (.ref b109), .val (.ref b110), .unset, .unset] [(.int (3 : Int32))]))
        refine own_go (XS.iconst X125.here hx rfl (hb hby at_118) (Steps.refl _)) ?_
        show own_Fin _ _ _ _ (T125.setTop (mkF m 119 #[.val (.int p1), .val (.int p2), .val (.int p3), .val (.int p4), .val (.int p5), .val (.int (3 : Int32)), .val (.ref b109), .val (.ref b110), .unset, .unset] [(.int (2 : Int32)), (.int (3 : Int32))]))
        refine own_go (XS.icmpNo X125.here hx rfl (hb hby at_119) rfl (tlt (by decide : (2 : Int32) < (3 : Int32))).2.2.2 (Steps.refl _)) ?_
        show own_Fin _ _ _ _ (T125.setTop (mkF m 122 #[.val (.int p1), .val (.int p2), .val (.int p3), .val (.int p4), .val (.int p5), .val (.int (3 : Int32)), .val (.ref b109), .val (.ref b110), .unset, .unset] []))
        refine own_go (XS.iloadN X125.here hx rfl (hb hby at_122) rfl (Steps.refl _)) ?_
        show own_Fin _ _ _ _ (T125.setTop (mkF m 123 #[.val (.int p1), .val (.int p2), .val (.int p3), .val (.int p4), .val (.int p5), .val (.int (3 : Int32)), .val (.ref b109), .val (.ref b110), .unset, .unset] [(.int p4)]))
        by_cases c123_134 : p4 < (0 : Int32)
        · refine own_go (XS.ifYes X125.here hx rfl (pc0 := 123) (pc' := 137) rfl (hb hby at_123) rfl ((if0 _ _).trans (tlt c123_134).1) (by decide) (by decide) (Steps.refl _)) ?_
          show own_Fin _ _ _ _ (T125.setTop (mkF m 137 #[.val (.int p1), .val (.int p2), .val (.int p3), .val (.int p4), .val (.int p5), .val (.int (3 : Int32)), .val (.ref b109), .val (.ref b110), .unset, .unset] []))
          refine own_go (XS.iconst X125.here hx rfl (hb hby at_137) (Steps.refl _)) ?_
          show own_Fin _ _ _ _ (T125.setTop (mkF m 138 #[.val (.int p1), .val (.int p2), .val (.int p3), .val (.int p4), .val (.int p5), .val (.int (3 : Int32)), .val (.ref b109), .val (.ref b110), .unset, .unset] [(.int (1 : Int32))]))
          refine own_go (XS.goto X125.here hx rfl (pc0 := 138) (pc' := 142) rfl (hb hby at_138) (by decide) (by decide) (Steps.refl _)) ?_
          show own_Fin _ _ _ _ (T125.setTop (mkF m 142 #[.val (.int p1), .val (.int p2), .val (.int p3), .val (.int p4), .val (.int p5), .val (.int (3 : Int32)), .val (.ref b109), .val (.ref b110), .unset, .unset] [(.int (1 : Int32))]))
          exact jn127 T125 _ (1 : Int32) X125 e125 N125 (by simp [c103_132, c113_133, c123_134])
        · refine own_go (XS.ifNo X125.here hx rfl (hb hby at_123) rfl ((if0 _ _).trans (flt c123_134).1) (Steps.refl _)) ?_
          show own_Fin _ _ _ _ (T125.setTop (mkF m 126 #[.val (.int p1), .val (.int p2), .val (.int p3), .val (.int p4), .val (.int p5), .val (.int (3 : Int32)), .val (.ref b109), .val (.ref b110), .unset, .unset] []))
          refine own_go (XS.iload X125.here hx rfl (hb hby at_126) rfl (Steps.refl _)) ?_
          show own_Fin _ _ _ _ (T125.setTop (mkF m 128 #[.val (.int p1), .val (.int p2), .val (.int p3), .val (.int p4), .val (.int p5), .val (.int (3 : Int32)), .val (.ref b109), .val (.ref b110), .unset, .unset] [(.int (3 : Int32))]))
          refine own_go (XS.iconst X125.here hx rfl (hb hby at_128) (Steps.refl _)) ?_
          show own_Fin _ _ _ _ (T125.setTop (mkF m 129 #[.val (.int p1), .val (.int p2), .val (.int p3), .val (.int p4), .val (.int p5), .val (.int (3 : Int32)), .val (.ref b109), .val (.ref b110), .unset, .unset] [(.int (3 : Int32)), (.int (3 : Int32))]))
          refine own_go (XS.icmpYes X125.here hx rfl (pc0 := 129) (pc' := 141) rfl (hb hby at_129) rfl (flt (by decide : ¬ ((3 : Int32) < (3 : Int32)))).2.2.2 (by decide) (by decide) (Steps.refl _)) ?_
          show own_Fin _ _ _ _ (T125.setTop (mkF m 141 #[.val (.int p1), .val (.int p2), .val (.int p3), .val (.int p4), .val (.int p5), .val (.int (3 : Int32)), .val (.ref b109), .val (.ref b110), .unset, .unset] []))
          refine own_go (XS.iconst X125.here hx rfl (hb hby at_141) (Steps.refl _)) ?_
          show own_Fin _ _ _ _ (T125.setTop (mkF m 142 #[.val (.int p1), .val (.int p2), .val (.int p3), .val (.int p4), .val (.int p5), .val (.int (3 : Int32)), .val (.ref b109), .val (.ref b110), .unset, .unset] [(.int (0 : Int32))]))
          exact jn127 T125 _ (0 : Int32) X125 e125 N125 (by simp [c103_132, c113_133, c123_134])
  · show own_Fin _ _ _ _ (s₁.setTop (mkF m 8 #[.val (.int p1), .val (.int p2), .val (.int p3), .val (.int p4), .val (.int p5), .val (.int (4 : Int32)), .unset, .unset, .unset, .unset] []))
    refine own_go (XS.iload X0.here hx rfl (hb hby at_8) rfl (Steps.refl _)) ?_
    show own_Fin _ _ _ _ (s₁.setTop (mkF m 10 #[.val (.int p1), .val (.int p2), .val (.int p3), .val (.int p4), .val (.int p5), .val (.int (4 : Int32)), .unset, .unset, .unset, .unset] [(.int (4 : Int32))]))
    obtain ⟨T135, h135, k135, X135, e135, E135, A135, B135, st135⟩ := newPE X0 hx hZ (hw _ (List.mem_of_getElem? (i := 1) rfl)) e0 (g := (mkF m 10 #[.val (.int p1), .val (.int p2), .val (.int p3), .val (.int p4), .val (.int p5), .val (.int (4 : Int32)), .unset, .unset, .unset, .unset] [(.int (4 : Int32))])) rfl (hb hby at_10) rfl (by decide) (cap := 4) (by decide) (by decide) (by decide) (by decide) (ad := "[I") (by decide)
    obtain ⟨b135, g135⟩ : ∃ z, z = h0.size := ⟨_, rfl⟩
    rw [← g135] at A135 B135 st135
    refine own_by st135 ?_
    have g_b135 : n0 ≤ b135 := Nat.le_trans Z0 (Nat.le_of_eq g135.symm)
    have Z135 : n0 ≤ h135.size := Nat.le_trans Z0 E135.1
    have V_b135 : Arv Z h135 b135 k135 .int (4 : Int32) [(.int (0 : Int32)), (.int (0 : Int32)), (.int (0 : Int32)), (.int (0 : Int32))] (.int (0 : Int32)) := (Arv.new A135 (by decide)).pad (pad_rep [] (.int (0 : Int32)) 4)
    have E_b135 := B135
    show own_Fin _ _ _ _ (T135.setTop (mkF m 12 #[.val (.int p1), .val (.int p2), .val (.int p3), .val (.int p4), .val (.int p5), .val (.int (4 : Int32)), .unset, .unset, .unset, .unset] [(.ref b135)]))
    refine own_go (XS.astore X135.here hx rfl (hb hby at_12) rfl rfl (l' := #[.val (.int p1), .val (.int p2), .val (.int p3), .val (.int p4), .val (.int p5), .val (.int (4 : Int32)), .val (.ref b135), .unset, .unset, .unset]) rfl (Steps.refl _)) ?_
    show own_Fin _ _ _ _ (T135.setTop (mkF m 14 #[.val (.int p1), .val (.int p2), .val (.int p3), .val (.int p4), .val (.int p5), .val (.int (4 : Int32)), .val (.ref b135), .unset, .unset, .unset] []))
    refine own_go (XS.iload X135.here hx rfl (hb hby at_14) rfl (Steps.refl _)) ?_
    show own_Fin _ _ _ _ (T135.setTop (mkF m 16 #[.val (.int p1), .val (.int p2), .val (.int p3), .val (.int p4), .val (.int p5), .val (.int (4 : Int32)), .val (.ref b135), .unset, .unset, .unset] [(.int (4 : Int32))]))
    obtain ⟨T136, h136, k136, X136, e136, E136, A136, B136, st136⟩ := newPE X135 hx hZ (hw _ (List.mem_of_getElem? (i := 1) rfl)) e135 (g := (mkF m 16 #[.val (.int p1), .val (.int p2), .val (.int p3), .val (.int p4), .val (.int p5), .val (.int (4 : Int32)), .val (.ref b135), .unset, .unset, .unset] [(.int (4 : Int32))])) rfl (hb hby at_16) rfl (by decide) (cap := 4) (by decide) (by decide) (by decide) (by decide) (ad := "[I") (by decide)
    obtain ⟨b136, g136⟩ : ∃ z, z = h135.size := ⟨_, rfl⟩
    rw [← g136] at A136 B136 st136
    refine own_by st136 ?_
    have ne_b135_b136 : b135 ≠ b136 := Nat.ne_of_lt (Nat.lt_of_lt_of_eq V_b135.lt g136.symm)
    have V_b135_136 := V_b135.ext E136
    have E_b135_136 := E_b135.ext E136
    have g_b136 : n0 ≤ b136 := Nat.le_trans Z135 (Nat.le_of_eq g136.symm)
    have Z136 : n0 ≤ h136.size := Nat.le_trans Z135 E136.1
    have V_b136 : Arv Z h136 b136 k136 .int (4 : Int32) [(.int (0 : Int32)), (.int (0 : Int32)), (.int (0 : Int32)), (.int (0 : Int32))] (.int (0 : Int32)) := (Arv.new A136 (by decide)).pad (pad_rep [] (.int (0 : Int32)) 4)
    have E_b136 := B136
    show own_Fin _ _ _ _ (T136.setTop (mkF m 18 #[.val (.int p1), .val (.int p2), .val (.int p3), .val (.int p4), .val (.int p5), .val (.int (4 : Int32)), .val (.ref b135), .unset, .unset, .unset] [(.ref b136)]))
    refine own_go (XS.astore X136.here hx rfl (hb hby at_18) rfl rfl (l' := #[.val (.int p1), .val (.int p2), .val (.int p3), .val (.int p4), .val (.int p5), .val (.int (4 : Int32)), .val (.ref b135), .val (.ref b136), .unset, .unset]) rfl (Steps.refl _)) ?_
    show own_Fin _ _ _ _ (T136.setTop (mkF m 20 #[.val (.int p1), .val (.int p2), .val (.int p3), .val (.int p4), .val (.int p5), .val (.int (4 : Int32)), .val (.ref b135), .val (.ref b136), .unset, .unset] []))
    refine own_go (XS.iload X136.here hx rfl (hb hby at_20) rfl (Steps.refl _)) ?_
    show own_Fin _ _ _ _ (T136.setTop (mkF m 22 #[.val (.int p1), .val (.int p2), .val (.int p3), .val (.int p4), .val (.int p5), .val (.int (4 : Int32)), .val (.ref b135), .val (.ref b136), .unset, .unset] [(.int (4 : Int32))]))
    refine own_go (XS.ifNo X136.here hx rfl (hb hby at_22) rfl ((if0 _ _).trans (tlt (by decide : (0 : Int32) < (4 : Int32))).2.2.2) (Steps.refl _)) ?_
    show own_Fin _ _ _ _ (T136.setTop (mkF m 25 #[.val (.int p1), .val (.int p2), .val (.int p3), .val (.int p4), .val (.int p5), .val (.int (4 : Int32)), .val (.ref b135), .val (.ref b136), .unset, .unset] []))
    refine own_go (XS.aload X136.here hx rfl (hb hby at_25) rfl rfl (Steps.refl _)) ?_
    show own_Fin _ _ _ _ (T136.setTop (mkF m 27 #[.val (.int p1), .val (.int p2), .val (.int p3), .val (.int p4), .val (.int p5), .val (.int (4 : Int32)), .val (.ref b135), .val (.ref b136), .unset, .unset] [(.ref b135)]))
    refine own_go (XS.iconst X136.here hx rfl (hb hby at_27) (Steps.refl _)) ?_
    show own_Fin _ _ _ _ (T136.setTop (mkF m 28 #[.val (.int p1), .val (.int p2), .val (.int p3), .val (.int p4), .val (.int p5), .val (.int (4 : Int32)), .val (.ref b135), .val (.ref b136), .unset, .unset] [(.int (0 : Int32)), (.ref b135)]))
    refine own_go (XS.iloadN X136.here hx rfl (hb hby at_28) rfl (Steps.refl _)) ?_
    show own_Fin _ _ _ _ (T136.setTop (mkF m 29 #[.val (.int p1), .val (.int p2), .val (.int p3), .val (.int p4), .val (.int p5), .val (.int (4 : Int32)), .val (.ref b135), .val (.ref b136), .unset, .unset] [(.int p2), (.int (0 : Int32)), (.ref b135)]))
    obtain ⟨_, _, ⟨T137, L137, k137, n137⟩, -, X137, ⟨Lc137, hQ137, l137, y137, z137⟩, st137⟩ := Jvm.LawKit.callS X136 hx (y := (⟨"com/example/nosto/nosto/ArgumentsNamesConstantPinLaw", "var", "(I)I"⟩ : MethodName)) hown (mvT hZ (hw _ (List.mem_of_getElem? (i := 29) rfl))) (mvT hZ (hw _ (List.mem_of_getElem? (i := 30) rfl))) (mvT hZ (hw _ (List.mem_of_getElem? (i := 31) rfl))) (mvT hZ (hw _ (List.mem_of_getElem? (i := 32) rfl))) (by decide) (backOf (W := 2) (rm4 l Z a0 hw [] p2 h136 n0 Z136) hZ (hw _ (List.mem_of_getElem? (i := 32) rfl)) (hw _ (List.mem_of_getElem? (i := 31) rfl)) (by decide) (by decide)) (g := (mkF m 29 #[.val (.int p1), .val (.int p2), .val (.int p3), .val (.int p4), .val (.int p5), .val (.int (4 : Int32)), .val (.ref b135), .val (.ref b136), .unset, .unset] [(.int p2), (.int (0 : Int32)), (.ref b135)])) rfl (by rw [hml]; rfl) (argsL := [(.int p2)]) (rest := [(.int (0 : Int32)), (.ref b135)]) (lenOf pd__28_I_29_I rfl) rfl (by show 2 * 0 + _ ≤ _; exact Nat.le_of_eq rfl) (hb hby at_29) (fun _ _ => ⟨rfl, e136, (by decide : 2 + 0 ≤ _), (by decide : 8 + 0 ≤ _)⟩)
    dsimp only [Pt.U, Pt.locs, Pt.cells, Pt.slots] at X137 l137 y137 z137 st137 hQ137
    subst l137 y137 z137
    obtain ⟨rfl, Nq137, e137⟩ := hQ137
    refine own_by st137 ?_
    have N137 := Fr.app N0 Nq137
    show own_Fin _ _ _ _ (T137.setTop (mkF m 32 #[.val (.int p1), .val (.int p2), .val (.int p3), .val (.int p4), .val (.int p5), .val (.int (4 : Int32)), .val (.ref b135), .val (.ref b136), .unset, .unset] [(.int (own_var p2)), (.int (0 : Int32)), (.ref b135)]))
    obtain ⟨cl138, Ar138, qa138, Sa138, Na138, Ha138, Ga138⟩ := id V_b135_136
    have hin138 : ¬ ((0 : Int32) < 0 ∨ cl138.slots.size ≤ ((0 : Int32)).toNatClampNeg) := inb_of Sa138 ⟨by decide, by decide⟩
    obtain ⟨T139, h139, X139, e139, W139, st139⟩ := stI X137 hx hZ e137 Ar138 (j := (0 : Int32)) hin138 (g := (mkF m 32 #[.val (.int p1), .val (.int p2), .val (.int p3), .val (.int p4), .val (.int p5), .val (.int (4 : Int32)), .val (.ref b135), .val (.ref b136), .unset, .unset] [(.int (own_var p2)), (.int (0 : Int32)), (.ref b135)])) rfl rfl (hb hby at_32)
    refine own_by st139 ?_
    have V_b135_139 : Arv Z h139 b135 k135 .int (4 : Int32) [(.int (own_var p2)), (.int (0 : Int32)), (.int (0 : Int32)), (.int (0 : Int32))] (.int (0 : Int32)) := Arv.set Ar138 qa138 Sa138 Na138 Ha138 Ga138 rfl W139 0 rfl (Nat.le_of_ble_eq_true rfl)
    have E_b135_139 := E_b135_136.wr W139
    have V_b136_139 := V_b136.other W139 (Ne.symm ne_b135_b136)
    have E_b136_139 := E_b136.wr W139
    have N139 := Fr.snoc X139 N137 g_b135
    have Z139 : n0 ≤ h139.size := Nat.le_trans Z136 (Keep.of_wr W139).1
    show own_Fin _ _ _ _ (T139.setTop (mkF m 33 #[.val (.int p1), .val (.int p2), .val (.int p3), .val (.int p4), .val (.int p5), .val (.int (4 : Int32)), .val (.ref b135), .val (.ref b136), .unset, .unset] []))
    refine own_go (XS.aload X139.here hx rfl (hb hby at_33) rfl rfl (Steps.refl _)) ?_
    show own_Fin _ _ _ _ (T139.setTop (mkF m 35 #[.val (.int p1), .val (.int p2), .val (.int p3), .val (.int p4), .val (.int p5), .val (.int (4 : Int32)), .val (.ref b135), .val (.ref b136), .unset, .unset] [(.ref b136)]))
    refine own_go (XS.iconst X139.here hx rfl (hb hby at_35) (Steps.refl _)) ?_
    show own_Fin _ _ _ _ (T139.setTop (mkF m 36 #[.val (.int p1), .val (.int p2), .val (.int p3), .val (.int p4), .val (.int p5), .val (.int (4 : Int32)), .val (.ref b135), .val (.ref b136), .unset, .unset] [(.int (0 : Int32)), (.ref b136)]))
    refine own_go (XS.iloadN X139.here hx rfl (hb hby at_36) rfl (Steps.refl _)) ?_
    show own_Fin _ _ _ _ (T139.setTop (mkF m 37 #[.val (.int p1), .val (.int p2), .val (.int p3), .val (.int p4), .val (.int p5), .val (.int (4 : Int32)), .val (.ref b135), .val (.ref b136), .unset, .unset] [(.int p2), (.int (0 : Int32)), (.ref b136)]))
    obtain ⟨cl140, Ar140, qa140, Sa140, Na140, Ha140, Ga140⟩ := id V_b136_139
    have hin140 : ¬ ((0 : Int32) < 0 ∨ cl140.slots.size ≤ ((0 : Int32)).toNatClampNeg) := inb_of Sa140 ⟨by decide, by decide⟩
    obtain ⟨T141, h141, X141, e141, W141, st141⟩ := stI X139 hx hZ e139 Ar140 (j := (0 : Int32)) hin140 (g := (mkF m 37 #[.val (.int p1), .val (.int p2), .val (.int p3), .val (.int p4), .val (.int p5), .val (.int (4 : Int32)), .val (.ref b135), .val (.ref b136), .unset, .unset] [(.int p2), (.int (0 : Int32)), (.ref b136)])) rfl rfl (hb hby at_37)
    refine own_by st141 ?_
    have V_b136_141 : Arv Z h141 b136 k136 .int (4 : Int32) [(.int p2), (.int (0 : Int32)), (.int (0 : Int32)), (.int (0 : Int32))] (.int (0 : Int32)) := Arv.set Ar140 qa140 Sa140 Na140 Ha140 Ga140 rfl W141 0 rfl (Nat.le_of_ble_eq_true rfl)
    have V_b135_141 := V_b135_139.other W141 ne_b135_b136
    have E_b135_141 := E_b135_139.wr W141
    have E_b136_141 := E_b136_139.wr W141
    have N141 := Fr.snoc X141 N139 g_b136
    have Z141 : n0 ≤ h141.size := Nat.le_trans Z139 (Keep.of_wr W141).1
    show own_Fin _ _ _ _ (T141.setTop (mkF m 38 #[.val (.int p1), .val (.int p2), .val (.int p3), .val (.int p4), .val (.int p5), .val (.int (4 : Int32)), .val (.ref b135), .val (.ref b136), .unset, .unset] []))
    refine own_go (XS.iload X141.here hx rfl (hb hby at_38) rfl (Steps.refl _)) ?_
    show own_Fin _ _ _ _ (T141.setTop (mkF m 40 #[.val (.int p1), .val (.int p2), .val (.int p3), .val (.int p4), .val (.int p5), .val (.int (4 : Int32)), .val (.ref b135), .val (.ref b136), .unset, .unset] [(.int (4 : Int32))]))
    refine own_go (XS.iconst X141.here hx rfl (hb hby at_40) (Steps.refl _)) ?_
    show own_Fin _ _ _ _ (T141.setTop (mkF m 41 #[.val (.int p1), .val (.int p2), .val (.int p3), .val (.int p4), .val (.int p5), .val (.int (4 : Int32)), .val (.ref b135), .val (.ref b136), .unset, .unset] [(.int (1 : Int32)), (.int (4 : Int32))]))
    refine own_go (XS.icmpNo X141.here hx rfl (hb hby at_41) rfl (tlt (by decide : (1 : Int32) < (4 : Int32))).2.2.2 (Steps.refl _)) ?_
    show own_Fin _ _ _ _ (T141.setTop (mkF m 44 #[.val (.int p1), .val (.int p2), .val (.int p3), .val (.int p4), .val (.int p5), .val (.int (4 : Int32)), .val (.ref b135), .val (.ref b136), .unset, .unset] []))
    refine own_go (XS.aload X141.here hx rfl (hb hby at_44) rfl rfl (Steps.refl _)) ?_
    show own_Fin _ _ _ _ (T141.setTop (mkF m 46 #[.val (.int p1), .val (.int p2), .val (.int p3), .val (.int p4), .val (.int p5), .val (.int (4 : Int32)), .val (.ref b135), .val (.ref b136), .unset, .unset] [(.ref b135)]))
    refine own_go (XS.iconst X141.here hx rfl (hb hby at_46) (Steps.refl _)) ?_
    show own_Fin _ _ _ _ (T141.setTop (mkF m 47 #[.val (.int p1), .val (.int p2), .val (.int p3), .val (.int p4), .val (.int p5), .val (.int (4 : Int32)), .val (.ref b135), .val (.ref b136), .unset, .unset] [(.int (1 : Int32)), (.ref b135)]))
    refine own_go (XS.iloadN X141.here hx rfl (hb hby at_47) rfl (Steps.refl _)) ?_
    show own_Fin _ _ _ _ (T141.setTop (mkF m 48 #[.val (.int p1), .val (.int p2), .val (.int p3), .val (.int p4), .val (.int p5), .val (.int (4 : Int32)), .val (.ref b135), .val (.ref b136), .unset, .unset] [(.int p3), (.int (1 : Int32)), (.ref b135)]))
    obtain ⟨_, _, ⟨T142, L142, k142, n142⟩, -, X142, ⟨Lc142, hQ142, l142, y142, z142⟩, st142⟩ := Jvm.LawKit.callS X141 hx (y := (⟨"com/example/nosto/nosto/ArgumentsNamesConstantPinLaw", "var", "(I)I"⟩ : MethodName)) hown (mvT hZ (hw _ (List.mem_of_getElem? (i := 29) rfl))) (mvT hZ (hw _ (List.mem_of_getElem? (i := 30) rfl))) (mvT hZ (hw _ (List.mem_of_getElem? (i := 31) rfl))) (mvT hZ (hw _ (List.mem_of_getElem? (i := 32) rfl))) (by decide) (backOf (W := 2) (rm4 l Z a0 hw [] p3 h141 n0 Z141) hZ (hw _ (List.mem_of_getElem? (i := 32) rfl)) (hw _ (List.mem_of_getElem? (i := 31) rfl)) (by decide) (by decide)) (g := (mkF m 48 #[.val (.int p1), .val (.int p2), .val (.int p3), .val (.int p4), .val (.int p5), .val (.int (4 : Int32)), .val (.ref b135), .val (.ref b136), .unset, .unset] [(.int p3), (.int (1 : Int32)), (.ref b135)])) rfl (by rw [hml]; rfl) (argsL := [(.int p3)]) (rest := [(.int (1 : Int32)), (.ref b135)]) (lenOf pd__28_I_29_I rfl) rfl (by show 2 * 0 + _ ≤ _; exact Nat.le_of_eq rfl) (hb hby at_48) (fun _ _ => ⟨rfl, e141, (by decide : 2 + 0 ≤ _), (by decide : 8 + 0 ≤ _)⟩)
    dsimp only [Pt.U, Pt.locs, Pt.cells, Pt.slots] at X142 l142 y142 z142 st142 hQ142
    subst l142 y142 z142
    obtain ⟨rfl, Nq142, e142⟩ := hQ142
    refine own_by st142 ?_
    have N142 := Fr.app N141 Nq142
    show own_Fin _ _ _ _ (T142.setTop (mkF m 51 #[.val (.int p1), .val (.int p2), .val (.int p3), .val (.int p4), .val (.int p5), .val (.int (4 : Int32)), .val (.ref b135), .val (.ref b136), .unset, .unset] [(.int (own_var p3)), (.int (1 : Int32)), (.ref b135)]))
    obtain ⟨cl143, Ar143, qa143, Sa143, Na143, Ha143, Ga143⟩ := id V_b135_141
    have hin143 : ¬ ((1 : Int32) < 0 ∨ cl143.slots.size ≤ ((1 : Int32)).toNatClampNeg) := inb_of Sa143 ⟨by decide, by decide⟩
    obtain ⟨T144, h144, X144, e144, W144, st144⟩ := stI X142 hx hZ e142 Ar143 (j := (1 : Int32)) hin143 (g := (mkF m 51 #[.val (.int p1), .val (.int p2), .val (.int p3), .val (.int p4), .val (.int p5), .val (.int (4 : Int32)), .val (.ref b135), .val (.ref b136), .unset, .unset] [(.int (own_var p3)), (.int (1 : Int32)), (.ref b135)])) rfl rfl (hb hby at_51)
    refine own_by st144 ?_
    have V_b135_144 : Arv Z h144 b135 k135 .int (4 : Int32) [(.int (own_var p2)), (.int (own_var p3)), (.int (0 : Int32)), (.int (0 : Int32))] (.int (0 : Int32)) := Arv.set Ar143 qa143 Sa143 Na143 Ha143 Ga143 rfl W144 1 rfl (Nat.le_of_ble_eq_true rfl)
    have E_b135_144 := E_b135_141.wr W144
    have V_b136_144 := V_b136_141.other W144 (Ne.symm ne_b135_b136)
    have E_b136_144 := E_b136_141.wr W144
    have N144 := Fr.snoc X144 N142 g_b135
    have Z144 : n0 ≤ h144.size := Nat.le_trans Z141 (Keep.of_wr W144).1
    show own_Fin _ _ _ _ (T144.setTop (mkF m 52 #[.val (.int p1), .val (.int p2), .val (.int p3), .val (.int p4), .val (.int p5), .val (.int (4 : Int32)), .val (.ref b135), .val (.ref b136), .unset, .unset] []))
    refine own_go (XS.aload X144.here hx rfl (hb hby at_52) rfl rfl (Steps.refl _)) ?_
    show own_Fin _ _ _ _ (T144.setTop (mkF m 54 #[.val (.int p1), .val (.int p2), .val (.int p3), .val (.int p4), .val (.int p5), .val (.int (4 : Int32)), .val (.ref b135), .val (.ref b136), .unset, .unset] [(.ref b136)]))
    refine own_go (XS.iconst X144.here hx rfl (hb hby at_54) (Steps.refl _)) ?_
    show own_Fin _ _ _ _ (T144.setTop (mkF m 55 #[.val (.int p1), .val (.int p2), .val (.int p3), .val (.int p4), .val (.int p5), .val (.int (4 : Int32)), .val (.ref b135), .val (.ref b136), .unset, .unset] [(.int (1 : Int32)), (.ref b136)]))
    refine own_go (XS.iloadN X144.here hx rfl (hb hby at_55) rfl (Steps.refl _)) ?_
    show own_Fin _ _ _ _ (T144.setTop (mkF m 56 #[.val (.int p1), .val (.int p2), .val (.int p3), .val (.int p4), .val (.int p5), .val (.int (4 : Int32)), .val (.ref b135), .val (.ref b136), .unset, .unset] [(.int p3), (.int (1 : Int32)), (.ref b136)]))
    obtain ⟨cl145, Ar145, qa145, Sa145, Na145, Ha145, Ga145⟩ := id V_b136_144
    have hin145 : ¬ ((1 : Int32) < 0 ∨ cl145.slots.size ≤ ((1 : Int32)).toNatClampNeg) := inb_of Sa145 ⟨by decide, by decide⟩
    obtain ⟨T146, h146, X146, e146, W146, st146⟩ := stI X144 hx hZ e144 Ar145 (j := (1 : Int32)) hin145 (g := (mkF m 56 #[.val (.int p1), .val (.int p2), .val (.int p3), .val (.int p4), .val (.int p5), .val (.int (4 : Int32)), .val (.ref b135), .val (.ref b136), .unset, .unset] [(.int p3), (.int (1 : Int32)), (.ref b136)])) rfl rfl (hb hby at_56)
    refine own_by st146 ?_
    have V_b136_146 : Arv Z h146 b136 k136 .int (4 : Int32) [(.int p2), (.int p3), (.int (0 : Int32)), (.int (0 : Int32))] (.int (0 : Int32)) := Arv.set Ar145 qa145 Sa145 Na145 Ha145 Ga145 rfl W146 1 rfl (Nat.le_of_ble_eq_true rfl)
    have V_b135_146 := V_b135_144.other W146 ne_b135_b136
    have E_b135_146 := E_b135_144.wr W146
    have E_b136_146 := E_b136_144.wr W146
    have N146 := Fr.snoc X146 N144 g_b136
    have Z146 : n0 ≤ h146.size := Nat.le_trans Z144 (Keep.of_wr W146).1
    show own_Fin _ _ _ _ (T146.setTop (mkF m 57 #[.val (.int p1), .val (.int p2), .val (.int p3), .val (.int p4), .val (.int p5), .val (.int (4 : Int32)), .val (.ref b135), .val (.ref b136), .unset, .unset] []))
    refine own_go (XS.iload X146.here hx rfl (hb hby at_57) rfl (Steps.refl _)) ?_
    show own_Fin _ _ _ _ (T146.setTop (mkF m 59 #[.val (.int p1), .val (.int p2), .val (.int p3), .val (.int p4), .val (.int p5), .val (.int (4 : Int32)), .val (.ref b135), .val (.ref b136), .unset, .unset] [(.int (4 : Int32))]))
    refine own_go (XS.iconst X146.here hx rfl (hb hby at_59) (Steps.refl _)) ?_
    show own_Fin _ _ _ _ (T146.setTop (mkF m 60 #[.val (.int p1), .val (.int p2), .val (.int p3), .val (.int p4), .val (.int p5), .val (.int (4 : Int32)), .val (.ref b135), .val (.ref b136), .unset, .unset] [(.int (2 : Int32)), (.int (4 : Int32))]))
    refine own_go (XS.icmpNo X146.here hx rfl (hb hby at_60) rfl (tlt (by decide : (2 : Int32) < (4 : Int32))).2.2.2 (Steps.refl _)) ?_
    show own_Fin _ _ _ _ (T146.setTop (mkF m 63 #[.val (.int p1), .val (.int p2), .val (.int p3), .val (.int p4), .val (.int p5), .val (.int (4 : Int32)), .val (.ref b135), .val (.ref b136), .unset, .unset] []))
    refine own_go (XS.aload X146.here hx rfl (hb hby at_63) rfl rfl (Steps.refl _)) ?_
    show own_Fin _ _ _ _ (T146.setTop (mkF m 65 #[.val (.int p1), .val (.int p2), .val (.int p3), .val (.int p4), .val (.int p5), .val (.int (4 : Int32)), .val (.ref b135), .val (.ref b136), .unset, .unset] [(.ref b135)]))
    refine own_go (XS.iconst X146.here hx rfl (hb hby at_65) (Steps.refl _)) ?_
    show own_Fin _ _ _ _ (T146.setTop (mkF m 66 #[.val (.int p1), .val (.int p2), .val (.int p3), .val (.int p4), .val (.int p5), .val (.int (4 : Int32)), .val (.ref b135), .val (.ref b136), .unset, .unset] [(.int (2 : Int32)), (.ref b135)]))
    refine own_go (XS.iloadN X146.here hx rfl (hb hby at_66) rfl (Steps.refl _)) ?_
    show own_Fin _ _ _ _ (T146.setTop (mkF m 67 #[.val (.int p1), .val (.int p2), .val (.int p3), .val (.int p4), .val (.int p5), .val (.int (4 : Int32)), .val (.ref b135), .val (.ref b136), .unset, .unset] [(.int p4), (.int (2 : Int32)), (.ref b135)]))
    obtain ⟨_, _, ⟨T147, L147, k147, n147⟩, -, X147, ⟨Lc147, hQ147, l147, y147, z147⟩, st147⟩ := Jvm.LawKit.callS X146 hx (y := (⟨"com/example/nosto/nosto/ArgumentsNamesConstantPinLaw", "var", "(I)I"⟩ : MethodName)) hown (mvT hZ (hw _ (List.mem_of_getElem? (i := 29) rfl))) (mvT hZ (hw _ (List.mem_of_getElem? (i := 30) rfl))) (mvT hZ (hw _ (List.mem_of_getElem? (i := 31) rfl))) (mvT hZ (hw _ (List.mem_of_getElem? (i := 32) rfl))) (by decide) (backOf (W := 2) (rm4 l Z a0 hw [] p4 h146 n0 Z146) hZ (hw _ (List.mem_of_getElem? (i := 32) rfl)) (hw _ (List.mem_of_getElem? (i := 31) rfl)) (by decide) (by decide)) (g := (mkF m 67 #[.val (.int p1), .val (.int p2), .val (.int p3), .val (.int p4), .val (.int p5), .val (.int (4 : Int32)), .val (.ref b135), .val (.ref b136), .unset, .unset] [(.int p4), (.int (2 : Int32)), (.ref b135)])) rfl (by rw [hml]; rfl) (argsL := [(.int p4)]) (rest := [(.int (2 : Int32)), (.ref b135)]) (lenOf pd__28_I_29_I rfl) rfl (by show 2 * 0 + _ ≤ _; exact Nat.le_of_eq rfl) (hb hby at_67) (fun _ _ => ⟨rfl, e146, (by decide : 2 + 0 ≤ _), (by decide : 8 + 0 ≤ _)⟩)
    dsimp only [Pt.U, Pt.locs, Pt.cells, Pt.slots] at X147 l147 y147 z147 st147 hQ147
    subst l147 y147 z147
    obtain ⟨rfl, Nq147, e147⟩ := hQ147
    refine own_by st147 ?_
    have N147 := Fr.app N146 Nq147
    show own_Fin _ _ _ _ (T147.setTop (mkF m 70 #[.val (.int p1), .val (.int p2), .val (.int p3), .val (.int p4), .val (.int p5), .val (.int (4 : Int32)), .val (.ref b135), .val (.ref b136), .unset, .unset] [(.int (own_var p4)), (.int (2 : Int32)), (.ref b135)]))
    obtain ⟨cl148, Ar148, qa148, Sa148, Na148, Ha148, Ga148⟩ := id V_b135_146
    have hin148 : ¬ ((2 : Int32) < 0 ∨ cl148.slots.size ≤ ((2 : Int32)).toNatClampNeg) := inb_of Sa148 ⟨by decide, by decide⟩
    obtain ⟨T149, h149, X149, e149, W149, st149⟩ := stI X147 hx hZ e147 Ar148 (j := (2 : Int32)) hin148 (g := (mkF m 70 #[.val (.int p1), .val (.int p2), .val (.int p3), .val (.int p4), .val (.int p5), .val (.int (4 : Int32)), .val (.ref b135), .val (.ref b136), .unset, .unset] [(.int (own_var p4)), (.int (2 : Int32)), (.ref b135)])) rfl rfl (hb hby at_70)
    refine own_by st149 ?_
    have V_b135_149 : Arv Z h149 b135 k135 .int (4 : Int32) [(.int (own_var p2)), (.int (own_var p3)), (.int (own_var p4)), (.int (0 : Int32))] (.int (0 : Int32)) := Arv.set Ar148 qa148 Sa148 Na148 Ha148 Ga148 rfl W149 2 rfl (Nat.le_of_ble_eq_true rfl)
    have E_b135_149 := E_b135_146.wr W149
    have V_b136_149 := V_b136_146.other W149 (Ne.symm ne_b135_b136)
    have E_b136_149 := E_b136_146.wr W149
    have N149 := Fr.snoc X149 N147 g_b135
    have Z149 : n0 ≤ h149.size := Nat.le_trans Z146 (Keep.of_wr W149).1
    show own_Fin _ _ _ _ (T149.setTop (mkF m 71 #[.val (.int p1), .val (.int p2), .val (.int p3), .val (.int p4), .val (.int p5), .val (.int (4 : Int32)), .val (.ref b135), .val (.ref b136), .unset, .unset] []))
    refine own_go (XS.aload X149.here hx rfl (hb hby at_71) rfl rfl (Steps.refl _)) ?_
    show own_Fin _ _ _ _ (T149.setTop (mkF m 73 #[.val (.int p1), .val (.int p2), .val (.int p3), .val (.int p4), .val (.int p5), .val (.int (4 : Int32)), .val (.ref b135), .val (.ref b136), .unset, .unset] [(.ref b136)]))
    refine own_go (XS.iconst X149.here hx rfl (hb hby at_73) (Steps.refl _)) ?_
    show own_Fin _ _ _ _ (T149.setTop (mkF m 74 #[.val (.int p1), .val (.int p2), .val (.int p3), .val (.int p4), .val (.int p5), .val (.int (4 : Int32)), .val (.ref b135), .val (.ref b136), .unset, .unset] [(.int (2 : Int32)), (.ref b136)]))
    refine own_go (XS.iloadN X149.here hx rfl (hb hby at_74) rfl (Steps.refl _)) ?_
    show own_Fin _ _ _ _ (T149.setTop (mkF m 75 #[.val (.int p1), .val (.int p2), .val (.int p3), .val (.int p4), .val (.int p5), .val (.int (4 : Int32)), .val (.ref b135), .val (.ref b136), .unset, .unset] [(.int p4), (.int (2 : Int32)), (.ref b136)]))
    obtain ⟨cl150, Ar150, qa150, Sa150, Na150, Ha150, Ga150⟩ := id V_b136_149
    have hin150 : ¬ ((2 : Int32) < 0 ∨ cl150.slots.size ≤ ((2 : Int32)).toNatClampNeg) := inb_of Sa150 ⟨by decide, by decide⟩
    obtain ⟨T151, h151, X151, e151, W151, st151⟩ := stI X149 hx hZ e149 Ar150 (j := (2 : Int32)) hin150 (g := (mkF m 75 #[.val (.int p1), .val (.int p2), .val (.int p3), .val (.int p4), .val (.int p5), .val (.int (4 : Int32)), .val (.ref b135), .val (.ref b136), .unset, .unset] [(.int p4), (.int (2 : Int32)), (.ref b136)])) rfl rfl (hb hby at_75)
    refine own_by st151 ?_
    have V_b136_151 : Arv Z h151 b136 k136 .int (4 : Int32) [(.int p2), (.int p3), (.int p4), (.int (0 : Int32))] (.int (0 : Int32)) := Arv.set Ar150 qa150 Sa150 Na150 Ha150 Ga150 rfl W151 2 rfl (Nat.le_of_ble_eq_true rfl)
    have V_b135_151 := V_b135_149.other W151 ne_b135_b136
    have E_b135_151 := E_b135_149.wr W151
    have E_b136_151 := E_b136_149.wr W151
    have N151 := Fr.snoc X151 N149 g_b136
    have Z151 : n0 ≤ h151.size := Nat.le_trans Z149 (Keep.of_wr W151).1
    show own_Fin _ _ _ _ (T151.setTop (mkF m 76 #[.val (.int p1), .val (.int p2), .val (.int p3), .val (.int p4), .val (.int p5), .val (.int (4 : Int32)), .val (.ref b135), .val (.ref b136), .unset, .unset] []))
    refine own_go (XS.iload X151.here hx rfl (hb hby at_76) rfl (Steps.refl _)) ?_
    show own_Fin _ _ _ _ (T151.setTop (mkF m 78 #[.val (.int p1), .val (.int p2), .val (.int p3), .val (.int p4), .val (.int p5), .val (.int (4 : Int32)), .val (.ref b135), .val (.ref b136), .unset, .unset] [(.int (4 : Int32))]))
    refine own_go (XS.iconst X151.here hx rfl (hb hby at_78) (Steps.refl _)) ?_
    show own_Fin _ _ _ _ (T151.setTop (mkF m 79 #[.val (.int p1), .val (.int p2), .val (.int p3), .val (.int p4), .val (.int p5), .val (.int (4 : Int32)), .val (.ref b135), .val (.ref b136), .unset, .unset] [(.int (3 : Int32)), (.int (4 : Int32))]))
    refine own_go (XS.icmpNo X151.here hx rfl (hb hby at_79) rfl (tlt (by decide : (3 : Int32) < (4 : Int32))).2.2.2 (Steps.refl _)) ?_
    show own_Fin _ _ _ _ (T151.setTop (mkF m 82 #[.val (.int p1), .val (.int p2), .val (.int p3), .val (.int p4), .val (.int p5), .val (.int (4 : Int32)), .val (.ref b135), .val (.ref b136), .unset, .unset] []))
    refine own_go (XS.aload X151.here hx rfl (hb hby at_82) rfl rfl (Steps.refl _)) ?_
    show own_Fin _ _ _ _ (T151.setTop (mkF m 84 #[.val (.int p1), .val (.int p2), .val (.int p3), .val (.int p4), .val (.int p5), .val (.int (4 : Int32)), .val (.ref b135), .val (.ref b136), .unset, .unset] [(.ref b135)]))
    refine own_go (XS.iconst X151.here hx rfl (hb hby at_84) (Steps.refl _)) ?_
    show own_Fin _ _ _ _ (T151.setTop (mkF m 85 #[.val (.int p1), .val (.int p2), .val (.int p3), .val (.int p4), .val (.int p5), .val (.int (4 : Int32)), .val (.ref b135), .val (.ref b136), .unset, .unset] [(.int (3 : Int32)), (.ref b135)]))
    refine own_go (XS.iload X151.here hx rfl (hb hby at_85) rfl (Steps.refl _)) ?_
    show own_Fin _ _ _ _ (T151.setTop (mkF m 87 #[.val (.int p1), .val (.int p2), .val (.int p3), .val (.int p4), .val (.int p5), .val (.int (4 : Int32)), .val (.ref b135), .val (.ref b136), .unset, .unset] [(.int p5), (.int (3 : Int32)), (.ref b135)]))
    obtain ⟨_, _, ⟨T152, L152, k152, n152⟩, -, X152, ⟨Lc152, hQ152, l152, y152, z152⟩, st152⟩ := Jvm.LawKit.callS X151 hx (y := (⟨"com/example/nosto/nosto/ArgumentsNamesConstantPinLaw", "var", "(I)I"⟩ : MethodName)) hown (mvT hZ (hw _ (List.mem_of_getElem? (i := 29) rfl))) (mvT hZ (hw _ (List.mem_of_getElem? (i := 30) rfl))) (mvT hZ (hw _ (List.mem_of_getElem? (i := 31) rfl))) (mvT hZ (hw _ (List.mem_of_getElem? (i := 32) rfl))) (by decide) (backOf (W := 2) (rm4 l Z a0 hw [] p5 h151 n0 Z151) hZ (hw _ (List.mem_of_getElem? (i := 32) rfl)) (hw _ (List.mem_of_getElem? (i := 31) rfl)) (by decide) (by decide)) (g := (mkF m 87 #[.val (.int p1), .val (.int p2), .val (.int p3), .val (.int p4), .val (.int p5), .val (.int (4 : Int32)), .val (.ref b135), .val (.ref b136), .unset, .unset] [(.int p5), (.int (3 : Int32)), (.ref b135)])) rfl (by rw [hml]; rfl) (argsL := [(.int p5)]) (rest := [(.int (3 : Int32)), (.ref b135)]) (lenOf pd__28_I_29_I rfl) rfl (by show 2 * 0 + _ ≤ _; exact Nat.le_of_eq rfl) (hb hby at_87) (fun _ _ => ⟨rfl, e151, (by decide : 2 + 0 ≤ _), (by decide : 8 + 0 ≤ _)⟩)
    dsimp only [Pt.U, Pt.locs, Pt.cells, Pt.slots] at X152 l152 y152 z152 st152 hQ152
    subst l152 y152 z152
    obtain ⟨rfl, Nq152, e152⟩ := hQ152
    refine own_by st152 ?_
    have N152 := Fr.app N151 Nq152
    show own_Fin _ _ _ _ (T152.setTop (mkF m 90 #[.val (.int p1), .val (.int p2), .val (.int p3), .val (.int p4), .val (.int p5), .val (.int (4 : Int32)), .val (.ref b135), .val (.ref b136), .unset, .unset] [(.int (own_var p5)), (.int (3 : Int32)), (.ref b135)]))
    obtain ⟨cl153, Ar153, qa153, Sa153, Na153, Ha153, Ga153⟩ := id V_b135_151
    have hin153 : ¬ ((3 : Int32) < 0 ∨ cl153.slots.size ≤ ((3 : Int32)).toNatClampNeg) := inb_of Sa153 ⟨by decide, by decide⟩
    obtain ⟨T154, h154, X154, e154, W154, st154⟩ := stI X152 hx hZ e152 Ar153 (j := (3 : Int32)) hin153 (g := (mkF m 90 #[.val (.int p1), .val (.int p2), .val (.int p3), .val (.int p4), .val (.int p5), .val (.int (4 : Int32)), .val (.ref b135), .val (.ref b136), .unset, .unset] [(.int (own_var p5)), (.int (3 : Int32)), (.ref b135)])) rfl rfl (hb hby at_90)
    refine own_by st154 ?_
    have V_b135_154 : Arv Z h154 b135 k135 .int (4 : Int32) [(.int (own_var p2)), (.int (own_var p3)), (.int (own_var p4)), (.int (own_var p5))] (.int (0 : Int32)) := Arv.set Ar153 qa153 Sa153 Na153 Ha153 Ga153 rfl W154 3 rfl (Nat.le_of_ble_eq_true rfl)
    have E_b135_154 := E_b135_151.wr W154
    have V_b136_154 := V_b136_151.other W154 (Ne.symm ne_b135_b136)
    have E_b136_154 := E_b136_151.wr W154
    have N154 := Fr.snoc X154 N152 g_b135
    have Z154 : n0 ≤ h154.size := Nat.le_trans Z151 (Keep.of_wr W154).1
    show own_Fin _ _ _ _ (T154.setTop (mkF m 91 #[.val (.int p1), .val (.int p2), .val (.int p3), .val (.int p4), .val (.int p5), .val (.int (4 : Int32)), .val (.ref b135), .val (.ref b136), .unset, .unset] []))
    refine own_go (XS.aload X154.here hx rfl (hb hby at_91) rfl rfl (Steps.refl _)) ?_
    show own_Fin _ _ _ _ (T154.setTop (mkF m 93 #[.val (.int p1), .val (.int p2), .val (.int p3), .val (.int p4), .val (.int p5), .val (.int (4 : Int32)), .val (.ref b135), .val (.ref b136), .unset, .unset] [(.ref b136)]))
    refine own_go (XS.iconst X154.here hx rfl (hb hby at_93) (Steps.refl _)) ?_
    show own_Fin _ _ _ _ (T154.setTop (mkF m 94 #[.val (.int p1), .val (.int p2), .val (.int p3), .val (.int p4), .val (.int p5), .val (.int (4 : Int32)), .val (.ref b135), .val (.ref b136), .unset, .unset] [(.int (3 : Int32)), (.ref b136)]))
    refine own_go (XS.iload X154.here hx rfl (hb hby at_94) rfl (Steps.refl _)) ?_
    show own_Fin _ _ _ _ (T154.setTop (mkF m 96 #[.val (.int p1), .val (.int p2), .val (.int p3), .val (.int p4), .val (.int p5), .val (.int (4 : Int32)), .val (.ref b135), .val (.ref b136), .unset, .unset] [(.int p5), (.int (3 : Int32)), (.ref b136)]))
    obtain ⟨cl155, Ar155, qa155, Sa155, Na155, Ha155, Ga155⟩ := id V_b136_154
    have hin155 : ¬ ((3 : Int32) < 0 ∨ cl155.slots.size ≤ ((3 : Int32)).toNatClampNeg) := inb_of Sa155 ⟨by decide, by decide⟩
    obtain ⟨T156, h156, X156, e156, W156, st156⟩ := stI X154 hx hZ e154 Ar155 (j := (3 : Int32)) hin155 (g := (mkF m 96 #[.val (.int p1), .val (.int p2), .val (.int p3), .val (.int p4), .val (.int p5), .val (.int (4 : Int32)), .val (.ref b135), .val (.ref b136), .unset, .unset] [(.int p5), (.int (3 : Int32)), (.ref b136)])) rfl rfl (hb hby at_96)
    refine own_by st156 ?_
    have V_b136_156 : Arv Z h156 b136 k136 .int (4 : Int32) [(.int p2), (.int p3), (.int p4), (.int p5)] (.int (0 : Int32)) := Arv.set Ar155 qa155 Sa155 Na155 Ha155 Ga155 rfl W156 3 rfl (Nat.le_of_ble_eq_true rfl)
    have V_b135_156 := V_b135_154.other W156 ne_b135_b136
    have E_b135_156 := E_b135_154.wr W156
    have E_b136_156 := E_b136_154.wr W156
    have N156 := Fr.snoc X156 N154 g_b136
    have Z156 : n0 ≤ h156.size := Nat.le_trans Z154 (Keep.of_wr W156).1
    show own_Fin _ _ _ _ (T156.setTop (mkF m 97 #[.val (.int p1), .val (.int p2), .val (.int p3), .val (.int p4), .val (.int p5), .val (.int (4 : Int32)), .val (.ref b135), .val (.ref b136), .unset, .unset] []))
    refine own_go (XS.iload X156.here hx rfl (hb hby at_97) rfl (Steps.refl _)) ?_
    show own_Fin _ _ _ _ (T156.setTop (mkF m 99 #[.val (.int p1), .val (.int p2), .val (.int p3), .val (.int p4), .val (.int p5), .val (.int (4 : Int32)), .val (.ref b135), .val (.ref b136), .unset, .unset] [(.int (4 : Int32))]))
    refine own_go (XS.ifNo X156.here hx rfl (hb hby at_99) rfl ((if0 _ _).trans (tlt (by decide : (0 : Int32) < (4 : Int32))).2.2.2) (Steps.refl _)) ?_
    show own_Fin _ _ _ _ (T156.setTop (mkF m 102 #[.val (.int p1), .val (.int p2), .val (.int p3), .val (.int p4), .val (.int p5), .val (.int (4 : Int32)), .val (.ref b135), .val (.ref b136), .unset, .unset] []))
    refine own_go (XS.iloadN X156.here hx rfl (hb hby at_102) rfl (Steps.refl _)) ?_
    show own_Fin _ _ _ _ (T156.setTop (mkF m 103 #[.val (.int p1), .val (.int p2), .val (.int p3), .val (.int p4), .val (.int p5), .val (.int (4 : Int32)), .val (.ref b135), .val (.ref b136), .unset, .unset] [(.int p2)]))
    have jn158 : ∀ (Tj158 : State) (Lj158 : List Loc) (xe157 : Int32), Stand p l e room_1 s m #[(.int p1), (.int p2), (.int p3), (.int p4), (.int p5)] below meth c Tj158 Lj158 2 8 → Tj158.heap = h156 → Fr n0 Lj158 → (xe157 = (if (decide (p2 < (0 : Int32)) || decide (p3 < (0 : Int32)) || decide (p4 < (0 : Int32)) || decide (p5 < (0 : Int32))) then (1 : Int32) else 0)) → own_Fin p e below (G0 Z p1 p2 p3 p4 p5 h0 n0 s) (Tj158.setTop (mkF m 142 #[.val (.int p1), .val (.int p2), .val (.int p3), .val (.int p4), .val (.int p5), .val (.int (4 : Int32)), .val (.ref b135), .val (.ref b136), .unset, .unset] [(.int xe157)])) := by
      intro Tj158 Lj158 xe157 Xj158 ej158 Nj158 hj158
      refine own_go (XS.istore Xj158.here hx rfl (hb hby at_142) rfl (l' := #[.val (.int p1), .val (.int p2), .val (.int p3), .val (.int p4), .val (.int p5), .val (.int (4 : Int32)), .val (.ref b135), .val (.ref b136), .val (.int xe157), .unset]) rfl (Steps.refl _)) ?_
      show own_Fin _ _ _ _ (Tj158.setTop (mkF m 144 #[.val (.int p1), .val (.int p2), .val (.int p3), .val (.int p4), .val (.int p5), .val (.int (4 : Int32)), .val (.ref b135), .val (.ref b136), .val (.int xe157), .unset] []))
      obtain ⟨T159, h159, X159, e159, E159, A159, D159, U159, st159⟩ := newO Xj158 hx hZ hown (hw _ (List.mem_of_getElem? (i := 2) rfl)) (hw _ (List.mem_of_getElem? (i := 3) rfl)) (hw _ (List.mem_of_getElem? (i := 4) rfl)) ej158 (g := (mkF m 144 #[.val (.int p1), .val (.int p2), .val (.int p3), .val (.int p4), .val (.int p5), .val (.int (4 : Int32)), .val (.ref b135), .val (.ref b136), .val (.int xe157), .unset] [])) rfl (hb hby at_144) (by decide) (by decide)
      obtain ⟨b159, g159⟩ : ∃ z, z = h156.size := ⟨_, rfl⟩
      rw [← g159] at A159 D159 U159 st159
      refine own_by st159 ?_
      have ne_b135_b159 : b135 ≠ b159 := Nat.ne_of_lt (Nat.lt_of_lt_of_eq V_b135_156.lt g159.symm)
      have ne_b136_b159 : b136 ≠ b159 := Nat.ne_of_lt (Nat.lt_of_lt_of_eq V_b136_156.lt g159.symm)
      have V_b135_159 := V_b135_156.ext E159
      have E_b135_159 := E_b135_156.ext E159
      have V_b136_159 := V_b136_156.ext E159
      have E_b136_159 := E_b136_156.ext E159
      have g_b159 : n0 ≤ b159 := Nat.le_trans Z156 (Nat.le_of_eq g159.symm)
      have Z159 : n0 ≤ h159.size := Nat.le_trans Z156 E159.1
      have E_b159 := A159
      have F_variables_b159 : Fld Z h159 b159 "com/example/nosto/nosto/Arguments" "variables" "[I" .null := D159 (Or.inr (hw _ (List.mem_of_getElem? (i := 21) rfl))) (ty := (.array .int)) (by decide)
      have F_constants_b159 : Fld Z h159 b159 "com/example/nosto/nosto/Arguments" "constants" "[I" .null := D159 (Or.inr (hw _ (List.mem_of_getElem? (i := 23) rfl))) (ty := (.array .int)) (by decide)
      show own_Fin _ _ _ _ (T159.setTop (mkF m 147 #[.val (.int p1), .val (.int p2), .val (.int p3), .val (.int p4), .val (.int p5), .val (.int (4 : Int32)), .val (.ref b135), .val (.ref b136), .val (.int xe157), .unset] [(.ref b159)]))
      refine own_go (XS.dup X159.here hx rfl (hb hby at_147) rfl rfl (Steps.refl _)) ?_
      show own_Fin _ _ _ _ (T159.setTop (mkF m 148 #[.val (.int p1), .val (.int p2), .val (.int p3), .val (.int p4), .val (.int p5), .val (.int (4 : Int32)), .val (.ref b135), .val (.ref b136), .val (.int xe157), .unset] [(.ref b159), (.ref b159)]))
      refine own_go (XS.aload X159.here hx rfl (hb hby at_148) rfl rfl (Steps.refl _)) ?_
      show own_Fin _ _ _ _ (T159.setTop (mkF m 150 #[.val (.int p1), .val (.int p2), .val (.int p3), .val (.int p4), .val (.int p5), .val (.int (4 : Int32)), .val (.ref b135), .val (.ref b136), .val (.int xe157), .unset] [(.ref b135), (.ref b159), (.ref b159)]))
      refine own_go (XS.aload X159.here hx rfl (hb hby at_150) rfl rfl (Steps.refl _)) ?_
      show own_Fin _ _ _ _ (T159.setTop (mkF m 152 #[.val (.int p1), .val (.int p2), .val (.int p3), .val (.int p4), .val (.int p5), .val (.int (4 : Int32)), .val (.ref b135), .val (.ref b136), .val (.int xe157), .unset] [(.ref b136), (.ref b135), (.ref b159), (.ref b159)]))
      obtain ⟨_, _, ⟨T160, L160, k160, n160⟩, -, X160, ⟨Lc160, hQ160, l160, y160, z160⟩, st160⟩ := X159.specialBack hx (y := (⟨"com/example/nosto/nosto/Arguments", "<init>", "([I[I)V"⟩ : MethodName)) rfl hown (mvT hZ (hw _ (List.mem_of_getElem? (i := 5) rfl))) (mvT hZ (hw _ (List.mem_of_getElem? (i := 6) rfl))) (mvT hZ (hw _ (List.mem_of_getElem? (i := 7) rfl))) (by decide) (backOf (W := 1) (rm1 l Z a0 hw [] b159 b135 b136 k135 (4 : Int32) [(.int (own_var p2)), (.int (own_var p3)), (.int (own_var p4)), (.int (own_var p5))] (.int (0 : Int32)) k136 (4 : Int32) [(.int p2), (.int p3), (.int p4), (.int p5)] (.int (0 : Int32)) h159 n0 Z159 E_b159 F_variables_b159 F_constants_b159 g_b159 ne_b135_b159 ne_b136_b159 V_b135_159 E_b135_159 (by decide) V_b136_159 E_b136_159 (by decide)) hZ (hw _ (List.mem_of_getElem? (i := 7) rfl)) (hw _ (List.mem_of_getElem? (i := 4) rfl)) (by decide) (by decide)) (g := (mkF m 152 #[.val (.int p1), .val (.int p2), .val (.int p3), .val (.int p4), .val (.int p5), .val (.int (4 : Int32)), .val (.ref b135), .val (.ref b136), .val (.int xe157), .unset] [(.ref b136), (.ref b135), (.ref b159), (.ref b159)])) rfl (by rw [hml]; rfl) (Steps.refl _) (a := b159) (argsL := [(.ref b135), (.ref b136)]) (rest := [(.ref b159)]) (lenOf pd__28__5b_I_5b_I_29_V rfl) rfl (by show 2 * 0 + _ ≤ _; exact Nat.le_of_eq rfl) (hb hby at_152) (fun _ _ => ⟨rfl, e159, (by decide : 3 + 2 ≤ _), (by decide : 10 + 8 ≤ _)⟩)
      dsimp only [Pt.U, Pt.locs, Pt.cells, Pt.slots] at X160 l160 y160 z160 st160 hQ160
      subst l160 y160 z160
      refine own_go st160 ?_
      obtain ⟨rfl, Nq160, K160, Ek160, bb160, gb160, Fk160, Vk160⟩ := hQ160
      have V_b135_160 := V_b135_159.keep K160 (ninS ne_b135_b159 nin0)
      have E_b135_160 := E_b135_159.keep K160
      have V_b136_160 := V_b136_159.keep K160 (ninS ne_b136_b159 nin0)
      have E_b136_160 := E_b136_159.keep K160
      have E_b159_160 := E_b159.keep K160
      have Z160 := Nat.le_trans Z159 K160.1
      have N160 := Fr.app Nj158 Nq160
      show own_Fin _ _ _ _ (T160.setTop (mkF m 155 #[.val (.int p1), .val (.int p2), .val (.int p3), .val (.int p4), .val (.int p5), .val (.int (4 : Int32)), .val (.ref b135), .val (.ref b136), .val (.int xe157), .unset] [(.ref b159)]))
      refine own_go (XS.astore X160.here hx rfl (hb hby at_155) rfl rfl (l' := #[.val (.int p1), .val (.int p2), .val (.int p3), .val (.int p4), .val (.int p5), .val (.int (4 : Int32)), .val (.ref b135), .val (.ref b136), .val (.int xe157), .val (.ref b159)]) rfl (Steps.refl _)) ?_
      show own_Fin _ _ _ _ (T160.setTop (mkF m 157 #[.val (.int p1), .val (.int p2), .val (.int p3), .val (.int p4), .val (.int p5), .val (.int (4 : Int32)), .val (.ref b135), .val (.ref b136), .val (.int xe157), .val (.ref b159)] []))
      refine own_go (XS.aload X160.here hx rfl (hb hby at_157) rfl rfl (Steps.refl _)) ?_
      show own_Fin _ _ _ _ (T160.setTop (mkF m 159 #[.val (.int p1), .val (.int p2), .val (.int p3), .val (.int p4), .val (.int p5), .val (.int (4 : Int32)), .val (.ref b135), .val (.ref b136), .val (.int xe157), .val (.ref b159)] [(.ref b159)]))
      obtain ⟨cq161, kq161, q161a, q161b, q161c⟩ := isOf hZ rfl Ek160
      obtain ⟨_, _, ⟨T161, L161, k161, n161⟩, -, X161, ⟨Lc161, hQ161, l161, y161, z161⟩, st161⟩ := X160.virtualBack hx (y := (⟨"com/example/nosto/nosto/Arguments", "namesConstant", "()Z"⟩ : MethodName)) (z := (⟨"com/example/nosto/nosto/Arguments", "namesConstant", "()Z"⟩ : MethodName)) hown (mvT hZ (hw _ (List.mem_of_getElem? (i := 24) rfl))) (mvT hZ (hw _ (List.mem_of_getElem? (i := 25) rfl))) (notFace_of_selects (args := #[]) (mvT hZ (hw _ (List.mem_of_getElem? (i := 27) rfl)))) (mvT hZ (hw _ (List.mem_of_getElem? (i := 27) rfl))) (mvT hZ (hw _ (List.mem_of_getElem? (i := 26) rfl))) (by decide) (backOf (W := 0) (rm3_4 l Z a0 hw [] b159 bb160 k135 (own_var p2) (own_var p3) (own_var p4) (own_var p5) T160.heap n0 Z160 Fk160 Vk160) hZ (hw _ (List.mem_of_getElem? (i := 28) rfl)) (hw _ (List.mem_of_getElem? (i := 4) rfl)) (by decide) (by decide)) q161a q161c (g := (mkF m 159 #[.val (.int p1), .val (.int p2), .val (.int p3), .val (.int p4), .val (.int p5), .val (.int (4 : Int32)), .val (.ref b135), .val (.ref b136), .val (.int xe157), .val (.ref b159)] [(.ref b159)])) rfl (by rw [hml]; rfl) (Steps.refl _) (argsL := []) (rest := []) (lenOf pd__28__29_Z rfl) rfl (by show 2 * 0 + _ ≤ _; exact Nat.le_of_eq rfl) (hb hby at_159) (fun _ _ => ⟨rfl, rfl, (by decide : 5 + 0 ≤ _), (by decide : 18 + 0 ≤ _)⟩)
      dsimp only [Pt.U, Pt.locs, Pt.cells, Pt.slots] at X161 l161 y161 z161 st161 hQ161
      subst l161 y161 z161
      obtain ⟨rfl, Nq161, e161⟩ := hQ161
      refine own_go st161 ?_
      have N161 := Fr.app N160 Nq161
      show own_Fin _ _ _ _ (T161.setTop (mkF m 162 #[.val (.int p1), .val (.int p2), .val (.int p3), .val (.int p4), .val (.int p5), .val (.int (4 : Int32)), .val (.ref b135), .val (.ref b136), .val (.int xe157), .val (.ref b159)] [(.int (if (decide ((own_var p2) < (0 : Int32)) || decide ((own_var p3) < (0 : Int32)) || decide ((own_var p4) < (0 : Int32)) || decide ((own_var p5) < (0 : Int32))) then (1 : Int32) else 0))]))
      refine own_go (XS.iload X161.here hx rfl (hb hby at_162) rfl (Steps.refl _)) ?_
      show own_Fin _ _ _ _ (T161.setTop (mkF m 164 #[.val (.int p1), .val (.int p2), .val (.int p3), .val (.int p4), .val (.int p5), .val (.int (4 : Int32)), .val (.ref b135), .val (.ref b136), .val (.int xe157), .val (.ref b159)] [(.int xe157), (.int (if (decide ((own_var p2) < (0 : Int32)) || decide ((own_var p3) < (0 : Int32)) || decide ((own_var p4) < (0 : Int32)) || decide ((own_var p5) < (0 : Int32))) then (1 : Int32) else 0))]))
      refine own_go (XS.icmpNo X161.here hx rfl (hb hby at_164) rfl (teq (show (if (decide ((own_var p2) < (0 : Int32)) || decide ((own_var p3) < (0 : Int32)) || decide ((own_var p4) < (0 : Int32)) || decide ((own_var p5) < (0 : Int32))) then (1 : Int32) else 0) = xe157 from by rw [hj158]; simp only [own_varneg])).2 (Steps.refl _)) ?_
      show own_Fin _ _ _ _ (T161.setTop (mkF m 167 #[.val (.int p1), .val (.int p2), .val (.int p3), .val (.int p4), .val (.int p5), .val (.int (4 : Int32)), .val (.ref b135), .val (.ref b136), .val (.int xe157), .val (.ref b159)] []))
      refine own_go (XS.iconst X161.here hx rfl (hb hby at_167) (Steps.refl _)) ?_
      show own_Fin _ _ _ _ (T161.setTop (mkF m 168 #[.val (.int p1), .val (.int p2), .val (.int p3), .val (.int p4), .val (.int p5), .val (.int (4 : Int32)), .val (.ref b135), .val (.ref b136), .val (.int xe157), .val (.ref b159)] [(.int (1 : Int32))]))
      refine own_go (XS.goto X161.here hx rfl (pc0 := 168) (pc' := 172) rfl (hb hby at_168) (by decide) (by decide) (Steps.refl _)) ?_
      show own_Fin _ _ _ _ (T161.setTop (mkF m 172 #[.val (.int p1), .val (.int p2), .val (.int p3), .val (.int p4), .val (.int p5), .val (.int (4 : Int32)), .val (.ref b135), .val (.ref b136), .val (.int xe157), .val (.ref b159)] [(.int (1 : Int32))]))
      obtain ⟨fs162, hr162, hrun162, hended162, hW162, hsame162⟩ := X161.leave (v := some (.int (1 : Int32))) (fun h => by rw [Bd.returns] at h; cases h)
      refine own_done (retN X161 hx (t := .boolean) Bd.returns (by simp) (hb hby at_172) hr162) hrun162 hended162 ⟨_, _, rfl, ?_, ⟨_, rfl⟩, hW162, hsame162.mono (by decide) (by decide)⟩
      show Q0 Z p1 p2 p3 p4 p5 h0 n0 _ T161.heap _
      rw [e161]
      exact ⟨rfl, N161⟩
    by_cases c103_163 : p2 < (0 : Int32)
    · refine own_go (XS.ifYes X156.here hx rfl (pc0 := 103) (pc' := 137) rfl (hb hby at_103) rfl ((if0 _ _).trans (tlt c103_163).1) (by decide) (by decide) (Steps.refl _)) ?_
      show own_Fin _ _ _ _ (T156.setTop (mkF m 137 #[.val (.int p1), .val (.int p2), .val (.int p3), .val (.int p4), .val (.int p5), .val (.int (4 : Int32)), .val (.ref b135), .val (.ref b136), .unset, .unset] []))
      refine own_go (XS.iconst X156.here hx rfl (hb hby at_137) (Steps.refl _)) ?_
      show own_Fin _ _ _ _ (T156.setTop (mkF m 138 #[.val (.int p1), .val (.int p2), .val (.int p3), .val (.int p4), .val (.int p5), .val (.int (4 : Int32)), .val (.ref b135), .val (.ref b136), .unset, .unset] [(.int (1 : Int32))]))
      refine own_go (XS.goto X156.here hx rfl (pc0 := 138) (pc' := 142) rfl (hb hby at_138) (by decide) (by decide) (Steps.refl _)) ?_
      show own_Fin _ _ _ _ (T156.setTop (mkF m 142 #[.val (.int p1), .val (.int p2), .val (.int p3), .val (.int p4), .val (.int p5), .val (.int (4 : Int32)), .val (.ref b135), .val (.ref b136), .unset, .unset] [(.int (1 : Int32))]))
      exact jn158 T156 _ (1 : Int32) X156 e156 N156 (by simp [c103_163])
    · refine own_go (XS.ifNo X156.here hx rfl (hb hby at_103) rfl ((if0 _ _).trans (flt c103_163).1) (Steps.refl _)) ?_
      show own_Fin _ _ _ _ (T156.setTop (mkF m 106 #[.val (.int p1), .val (.int p2), .val (.int p3), .val (.int p4), .val (.int p5), .val (.int (4 : Int32)), .val (.ref b135), .val (.ref b136), .unset, .unset] []))
      refine own_go (XS.iload X156.here hx rfl (hb hby at_106) rfl (Steps.refl _)) ?_
      show own_Fin _ _ _ _ (T156.setTop (mkF m 108 #[.val (.int p1), .val (.int p2), .val (.int p3), .val (.int p4), .val (.int p5), .val (.int (4 : Int32)), .val (.ref b135), .val (.ref b136), .unset, .unset] [(.int (4 : Int32))]))
      refine own_go (XS.iconst X156.here hx rfl (hb hby at_108) (Steps.refl _)) ?_
      show own_Fin _ _ _ _ (T156.setTop (mkF m 109 #[.val (.int p1), .val (.int p2), .val (.int p3), .val (.int p4), .val (.int p5), .val (.int (4 : Int32)), .val (.ref b135), .val (.ref b136), .unset, .unset] [(.int (1 : Int32)), (.int (4 : Int32))]))
      refine own_go (XS.icmpNo X156.here hx rfl (hb hby at_109) rfl (tlt (by decide : (1 : Int32) < (4 : Int32))).2.2.2 (Steps.refl _)) ?_
      show own_Fin _ _ _ _ (T156.setTop (mkF m 112 #[.val (.int p1), .val (.int p2), .val (.int p3), .val (.int p4), .val (.int p5), .val (.int (4 : Int32)), .val (.ref b135), .val (.ref b136), .unset, .unset] []))
      refine own_go (XS.iloadN X156.here hx rfl (hb hby at_112) rfl (Steps.refl _)) ?_
      show own_Fin _ _ _ _ (T156.setTop (mkF m 113 #[.val (.int p1), .val (.int p2), .val (.int p3), .val (.int p4), .val (.int p5), .val (.int (4 : Int32)), .val (.ref b135), .val (.ref b136), .unset, .unset] [(.int p3)]))
      by_cases c113_164 : p3 < (0 : Int32)
      · refine own_go (XS.ifYes X156.here hx rfl (pc0 := 113) (pc' := 137) rfl (hb hby at_113) rfl ((if0 _ _).trans (tlt c113_164).1) (by decide) (by decide) (Steps.refl _)) ?_
        show own_Fin _ _ _ _ (T156.setTop (mkF m 137 #[.val (.int p1), .val (.int p2), .val (.int p3), .val (.int p4), .val (.int p5), .val (.int (4 : Int32)), .val (.ref b135), .val (.ref b136), .unset, .unset] []))
        refine own_go (XS.iconst X156.here hx rfl (hb hby at_137) (Steps.refl _)) ?_
        show own_Fin _ _ _ _ (T156.setTop (mkF m 138 #[.val (.int p1), .val (.int p2), .val (.int p3), .val (.int p4), .val (.int p5), .val (.int (4 : Int32)), .val (.ref b135), .val (.ref b136), .unset, .unset] [(.int (1 : Int32))]))
        refine own_go (XS.goto X156.here hx rfl (pc0 := 138) (pc' := 142) rfl (hb hby at_138) (by decide) (by decide) (Steps.refl _)) ?_
        show own_Fin _ _ _ _ (T156.setTop (mkF m 142 #[.val (.int p1), .val (.int p2), .val (.int p3), .val (.int p4), .val (.int p5), .val (.int (4 : Int32)), .val (.ref b135), .val (.ref b136), .unset, .unset] [(.int (1 : Int32))]))
        exact jn158 T156 _ (1 : Int32) X156 e156 N156 (by simp [c103_163, c113_164])
      · refine own_go (XS.ifNo X156.here hx rfl (hb hby at_113) rfl ((if0 _ _).trans (flt c113_164).1) (Steps.refl _)) ?_
        show own_Fin _ _ _ _ (T156.setTop (mkF m 116 #[.val (.int p1), .val (.int p2), .val (.int p3), .val (.int p4), .val (.int p5), .val (.int (4 : Int32)), .val (.ref b135), .val (.ref b136), .unset, .unset] []))
        refine own_go (XS.iload X156.here hx rfl (hb hby at_116) rfl (Steps.refl _)) ?_
        show own_Fin _ _ _ _ (T156.setTop (mkF m 118 #[.val (.int p1), .val (.int p2), .val (.int p3), .val (.int p4), .val (.int p5), .val (.int (4 : Int32)), .val (.ref b135), .val (.ref b136), .unset, .unset] [(.int (4 : Int32))]))
        refine own_go (XS.iconst X156.here hx rfl (hb hby at_118) (Steps.refl _)) ?_
        show own_Fin _ _ _ _ (T156.setTop (mkF m 119 #[.val (.int p1), .val (.int p2), .val (.int p3), .val (.int p4), .val (.int p5), .val (.int (4 : Int32)), .val (.ref b135), .val (.ref b136), .unset, .unset] [(.int (2 : Int32)), (.int (4 : Int32))]))
        refine own_go (XS.icmpNo X156.here hx rfl (hb hby at_119) rfl (tlt (by decide : (2 : Int32) < (4 : Int32))).2.2.2 (Steps.refl _)) ?_
        show own_Fin _ _ _ _ (T156.setTop (mkF m 122 #[.val (.int p1), .val (.int p2), .val (.int p3), .val (.int p4), .val (.int p5), .val (.int (4 : Int32)), .val (.ref b135), .val (.ref b136), .unset, .unset] []))
        refine own_go (XS.iloadN X156.here hx rfl (hb hby at_122) rfl (Steps.refl _)) ?_
        show own_Fin _ _ _ _ (T156.setTop (mkF m 123 #[.val (.int p1), .val (.int p2), .val (.int p3), .val (.int p4), .val (.int p5), .val (.int (4 : Int32)), .val (.ref b135), .val (.ref b136), .unset, .unset] [(.int p4)]))
        by_cases c123_165 : p4 < (0 : Int32)
        · refine own_go (XS.ifYes X156.here hx rfl (pc0 := 123) (pc' := 137) rfl (hb hby at_123) rfl ((if0 _ _).trans (tlt c123_165).1) (by decide) (by decide) (Steps.refl _)) ?_
          show own_Fin _ _ _ _ (T156.setTop (mkF m 137 #[.val (.int p1), .val (.int p2), .val (.int p3), .val (.int p4), .val (.int p5), .val (.int (4 : Int32)), .val (.ref b135), .val (.ref b136), .unset, .unset] []))
          refine own_go (XS.iconst X156.here hx rfl (hb hby at_137) (Steps.refl _)) ?_
          show own_Fin _ _ _ _ (T156.setTop (mkF m 138 #[.val (.int p1), .val (.int p2), .val (.int p3), .val (.int p4), .val (.int p5), .val (.int (4 : Int32)), .val (.ref b135), .val (.ref b136), .unset, .unset] [(.int (1 : Int32))]))
          refine own_go (XS.goto X156.here hx rfl (pc0 := 138) (pc' := 142) rfl (hb hby at_138) (by decide) (by decide) (Steps.refl _)) ?_
          show own_Fin _ _ _ _ (T156.setTop (mkF m 142 #[.val (.int p1), .val (.int p2), .val (.int p3), .val (.int p4), .val (.int p5), .val (.int (4 : Int32)), .val (.ref b135), .val (.ref b136), .unset, .unset] [(.int (1 : Int32))]))
          exact jn158 T156 _ (1 : Int32) X156 e156 N156 (by simp [c103_163, c113_164, c123_165])
        · refine own_go (XS.ifNo X156.here hx rfl (hb hby at_123) rfl ((if0 _ _).trans (flt c123_165).1) (Steps.refl _)) ?_
          show own_Fin _ _ _ _ (T156.setTop (mkF m 126 #[.val (.int p1), .val (.int p2), .val (.int p3), .val (.int p4), .val (.int p5), .val (.int (4 : Int32)), .val (.ref b135), .val (.ref b136), .unset, .unset] []))
          refine own_go (XS.iload X156.here hx rfl (hb hby at_126) rfl (Steps.refl _)) ?_
          show own_Fin _ _ _ _ (T156.setTop (mkF m 128 #[.val (.int p1), .val (.int p2), .val (.int p3), .val (.int p4), .val (.int p5), .val (.int (4 : Int32)), .val (.ref b135), .val (.ref b136), .unset, .unset] [(.int (4 : Int32))]))
          refine own_go (XS.iconst X156.here hx rfl (hb hby at_128) (Steps.refl _)) ?_
          show own_Fin _ _ _ _ (T156.setTop (mkF m 129 #[.val (.int p1), .val (.int p2), .val (.int p3), .val (.int p4), .val (.int p5), .val (.int (4 : Int32)), .val (.ref b135), .val (.ref b136), .unset, .unset] [(.int (3 : Int32)), (.int (4 : Int32))]))
          refine own_go (XS.icmpNo X156.here hx rfl (hb hby at_129) rfl (tlt (by decide : (3 : Int32) < (4 : Int32))).2.2.2 (Steps.refl _)) ?_
          show own_Fin _ _ _ _ (T156.setTop (mkF m 132 #[.val (.int p1), .val (.int p2), .val (.int p3), .val (.int p4), .val (.int p5), .val (.int (4 : Int32)), .val (.ref b135), .val (.ref b136), .unset, .unset] []))
          refine own_go (XS.iload X156.here hx rfl (hb hby at_132) rfl (Steps.refl _)) ?_
          show own_Fin _ _ _ _ (T156.setTop (mkF m 134 #[.val (.int p1), .val (.int p2), .val (.int p3), .val (.int p4), .val (.int p5), .val (.int (4 : Int32)), .val (.ref b135), .val (.ref b136), .unset, .unset] [(.int p5)]))
          by_cases c134_166 : p5 < (0 : Int32)
          · refine own_go (XS.ifNo X156.here hx rfl (hb hby at_134) rfl ((if0 _ _).trans (tlt c134_166).2.1) (Steps.refl _)) ?_
            show own_Fin _ _ _ _ (T156.setTop (mkF m 137 #[.val (.int p1), .val (.int p2), .val (.int p3), .val (.int p4), .val (.int p5), .val (.int (4 : Int32)), .val (.ref b135), .val (.ref b136), .unset, .unset] []))
            refine own_go (XS.iconst X156.here hx rfl (hb hby at_137) (Steps.refl _)) ?_
            show own_Fin _ _ _ _ (T156.setTop (mkF m 138 #[.val (.int p1), .val (.int p2), .val (.int p3), .val (.int p4), .val (.int p5), .val (.int (4 : Int32)), .val (.ref b135), .val (.ref b136), .unset, .unset] [(.int (1 : Int32))]))
            refine own_go (XS.goto X156.here hx rfl (pc0 := 138) (pc' := 142) rfl (hb hby at_138) (by decide) (by decide) (Steps.refl _)) ?_
            show own_Fin _ _ _ _ (T156.setTop (mkF m 142 #[.val (.int p1), .val (.int p2), .val (.int p3), .val (.int p4), .val (.int p5), .val (.int (4 : Int32)), .val (.ref b135), .val (.ref b136), .unset, .unset] [(.int (1 : Int32))]))
            exact jn158 T156 _ (1 : Int32) X156 e156 N156 (by simp [c103_163, c113_164, c123_165, c134_166])
          · refine own_go (XS.ifYes X156.here hx rfl (pc0 := 134) (pc' := 141) rfl (hb hby at_134) rfl ((if0 _ _).trans (flt c134_166).2.1) (by decide) (by decide) (Steps.refl _)) ?_
            show own_Fin _ _ _ _ (T156.setTop (mkF m 141 #[.val (.int p1), .val (.int p2), .val (.int p3), .val (.int p4), .val (.int p5), .val (.int (4 : Int32)), .val (.ref b135), .val (.ref b136), .unset, .unset] []))
            refine own_go (XS.iconst X156.here hx rfl (hb hby at_141) (Steps.refl _)) ?_
            show own_Fin _ _ _ _ (T156.setTop (mkF m 142 #[.val (.int p1), .val (.int p2), .val (.int p3), .val (.int p4), .val (.int p5), .val (.int (4 : Int32)), .val (.ref b135), .val (.ref b136), .unset, .unset] [(.int (0 : Int32))]))
            exact jn158 T156 _ (0 : Int32) X156 e156 N156 (by simp [c103_163, c113_164, c123_165, c134_166])
set_option maxRecDepth 65536 in
set_option maxHeartbeats 40000000 in
theorem comes_1 {Post : Tables → Env → Array Value → State → Outcome → State → Prop} (hpost : ∀ tb e args s v u, (limb_1_1.after args s (.returned v) u = true ∧ limb_1_2.after args s (.returned v) u = true ∧ True) → FrameEnd s (.returned v) u (Jvm.fieldLocs frame_1_writes args s ++ Jvm.arrayLocs frame_1_arrays args s ++ Jvm.staticLocs frame_1_statics s) 24 128 → Post tb e args s (.returned v) u) :
    ArmFor flags0 classFile x code maxLocals ret World_1 tables_1 room_1 Calls_1 rest_1 Pre_1 Post := by
  intro l hfl _ _ p e ha hc hk s m args below hf hA hF happ hP
  obtain ⟨hcalls, hrest, hpre⟩ := hP
  obtain ⟨-, -, -, hnamed, -, -, -, hat⟩ := (Spec.applies_iff hf).mp happ
  obtain ⟨hg, hn⟩ := and_e (Cond.before_iff.mp (show (Jvm.Cond.and given_1 narrow_1).before args s = true from hpre))
  obtain ⟨gg1, gg2⟩ := and_e hg
  obtain ⟨gg3, gg4⟩ := and_e gg2
  obtain ⟨gg5, gg6⟩ := and_e gg4
  obtain ⟨gg7, gg8⟩ := and_e gg6
  obtain ⟨gg9, gg10⟩ := and_e gg8
  obtain ⟨w0, w1, w2, w3, w4, rfl⟩ : ∃ w0 w1 w2 w3 w4 : Value, args = #[w0, w1, w2, w3, w4] := by
    have hs : args.size = 5 := by simpa [Cond.value, given_1] using gg1
    obtain ⟨L⟩ := args
    match L, hs with
    | [w0, w1, w2, w3, w4], _ => exact ⟨w0, w1, w2, w3, w4, rfl⟩
  have hw := fun d (hd : d ∈ tables_1) => atoms_spec (ws := Jvm.Cond.code x code maxLocals ret :: tables_1) hat d (List.mem_cons_of_mem _ hd)
  obtain ⟨i0, ei0⟩ := is_v gg3
  obtain rfl : w0 = (.int i0) := Option.some.inj ei0
  obtain ⟨i1, ei1⟩ := is_v gg5
  obtain rfl : w1 = (.int i1) := Option.some.inj ei1
  obtain ⟨i2, ei2⟩ := is_v gg7
  obtain rfl : w2 = (.int i2) := Option.some.inj ei2
  obtain ⟨i3, ei3⟩ := is_v gg9
  obtain rfl : w3 = (.int i3) := Option.some.inj ei3
  obtain ⟨i4, ei4⟩ := is_v gg10
  obtain rfl : w4 = (.int i4) := Option.some.inj ei4
  obtain ⟨n, o, h1, h2, h3, _, L, rfl, ⟨rfl, N⟩, hq⟩ := rm0 l s _ hw tables_1 i0 i1 i2 i3 i4  s.heap s.heap.size (Nat.le_refl _)  p e ha hc hk s m _ below hf ((Spec.applies_iff_loose hf).mp happ).1 ⟨rfl, State.Warmed39.refl s, rfl⟩ trivial
  refine ⟨n, _, h1, h2, h3, hpost _ _ _ _ _ _ ⟨Cond.after_iff.mpr rfl, Cond.after_iff.mpr (eq_i res_at (Term.int_eval (1)) rfl), trivial⟩ ⟨hq.1, hq.2.1, (hq.2.2.sift fun y hy => Or.inr (N y hy)).mono (by decide) (by decide)⟩⟩
theorem main_1_1 : Claimed_1_1 := comes_1 fun _ _ _ _ _ _ h hF => ⟨h.1, hF⟩
theorem main_1_2 : Claimed_1_2 := comes_1 fun _ _ _ _ _ _ h hF => ⟨h.2.1, hF⟩
end Jvm.Pilot.@@N@@
namespace Jvm.Pilot.@@N@@
open Jvm Jvm.ClassFile Sem Op Lib Jvm.Free Jvm.Stand Jvm.Pilot.@@N@@.Jvm.D
/-! MADE BY PROGRAM (witnessworld.py) out of the Statement's table words and the real class files: 9 classes; the members and pool entries that the words name. The judged class is class 1, her method 2. -/
namespace start1
open Jvm.ClassFile
def u (s : String) : CpInfo := .utf8 (stringToUtf16 s)
/-- a pool by its gaps: so many unusable entries, then the entry; so many at the end -/
def gap : Nat → List CpInfo → List CpInfo
  | 0, r => r
  | n + 1, r => .unusable :: gap n r
def poolList (es : List (Nat × CpInfo)) (last : Nat) : List CpInfo := es.foldr (fun e r => gap e.1 (e.2 :: r)) (gap last [])
def pool (es : List (Nat × CpInfo)) (last : Nat) : Array CpInfo := ⟨poolList es last⟩
def fileOf (pool : Array CpInfo) (this : Nat) (attrs : Array Attribute := #[]) (ms : Array MethodInfo := #[]) (fl : Nat := 33) (sup : Nat := 0) (ifs : Array Nat := #[]) (fds : Array FieldInfo := #[]) : ClassFile where
  minorVersion := 0
  majorVersion := 65
  constantPool := pool
  accessFlags := fl
  thisClass := this
  superClass := sup
  interfaces := ifs
  fields := fds
  methods := ms
  attributes := attrs
def plain (name : String) (sup : Option ClassId) : Class where
  name := name
  kind := .ordinary
  loader := none
  accessFlags := 33
  super := sup
  interfaces := #[]
  cf := none
  fields := #[]
  methods := #[]
  instanceTypes := #[]
  staticTypes := #[]
  resolved := #[]
  callSites := []
  init := .initialized
  statics := none
  mirror := none

def pool0 : Array CpInfo := pool [(5, u "<init>"), (0, u "()V"), (1, .class_ 10), (1, u "java/lang/Object"), (85, u "clone"), (0, u "()Ljava/lang/Object;")] 26

def k0c0 : Code := { maxStack := 0, maxLocals := 1, code := object_method_1_code, exceptionTable := #[], attributes := #[] }
def k0m0 : Method := { name := "<init>", desc := "()V", sig := { parameters := [], returnType := none }, accessFlags := 1, code := some k0c0 }
def k0m1 : Method := { name := "clone", desc := "()Ljava/lang/Object;", sig := { parameters := [], returnType := some (.object "java/lang/Object") }, accessFlags := 260, code := none }
/-- java/lang/Object -/
def k0 : Class := { plain "java/lang/Object" none with
  accessFlags := 33
  interfaces := #[]
  cf := some (fileOf pool0 8 #[] #[{ accessFlags := 1, nameIndex := 5, descriptorIndex := 6, attributes := #[] }, { accessFlags := 260, nameIndex := 96, descriptorIndex := 97, attributes := #[] }] 33 0 #[] #[])
  fields := #[]
  methods := #[k0m0, k0m1]
  instanceTypes := #[]
  staticTypes := #[]
  resolved := Array.replicate 124 none
  statics := none }

def pool1 : Array CpInfo := pool [(2, .class_ 4), (1, u "java/lang/Object"), (0, u "<init>"), (0, u "()V"), (0, .integer 2147483647), (0, .methodref 9 10), (0, .class_ 11), (0, .nameAndType 12 13), (0, u "com/example/nosto/nosto/ArgumentsNamesConstantPinLaw"), (0, u "var"), (0, u "(I)I"), (0, .class_ 15), (0, u "com/example/nosto/nosto/Arguments"), (0, .methodref 14 17), (0, .nameAndType 5 18), (0, u "([I[I)V"), (0, .methodref 14 20), (0, .nameAndType 21 22), (0, u "namesConstant"), (0, u "()Z"), (3, u "law"), (0, u "(IIIII)Z")] 4

def k1m0 : Method := { name := "<init>", desc := "()V", sig := { parameters := [], returnType := none }, accessFlags := 2, code := none }
def k1c1 : Code := { maxStack := 1, maxLocals := 1, code := method_2_code, exceptionTable := #[], attributes := #[] }
def k1m1 : Method := { name := "var", desc := "(I)I", sig := { parameters := [.int], returnType := some .int }, accessFlags := 10, code := some k1c1 }
def k1c2 : Code := { maxStack := 4, maxLocals := 10, code := code, exceptionTable := #[], attributes := #[] }
def k1m2 : Method := { name := "law", desc := "(IIIII)Z", sig := { parameters := [.int, .int, .int, .int, .int], returnType := some .boolean }, accessFlags := 9, code := some k1c2 }
/-- com/example/nosto/nosto/ArgumentsNamesConstantPinLaw -/
def k1 : Class := { plain "com/example/nosto/nosto/ArgumentsNamesConstantPinLaw" (some 0) with
  accessFlags := 49
  interfaces := #[]
  cf := some (fileOf pool1 9 #[] #[{ accessFlags := 2, nameIndex := 5, descriptorIndex := 6, attributes := #[] }, { accessFlags := 10, nameIndex := 12, descriptorIndex := 13, attributes := #[] }, { accessFlags := 9, nameIndex := 26, descriptorIndex := 27, attributes := #[] }] 49 2 #[] #[])
  fields := #[]
  methods := #[k1m0, k1m1, k1m2]
  instanceTypes := #[]
  staticTypes := #[]
  resolved := Array.replicate 32 none
  statics := none }

def pool2 : Array CpInfo := pool [(1, .methodref 2 3), (0, .class_ 4), (0, .nameAndType 5 6), (0, u "java/lang/Object"), (0, u "<init>"), (0, u "()V"), (0, .methodref 8 9), (0, .class_ 10), (0, .nameAndType 11 12), (0, u "[I"), (0, u "clone"), (0, u "()Ljava/lang/Object;"), (0, .fieldref 14 15), (0, .class_ 16), (0, .nameAndType 17 10), (0, u "com/example/nosto/nosto/Arguments"), (0, u "variables"), (0, .fieldref 14 19), (0, .nameAndType 20 10), (0, u "constants"), (2, u "([I[I)V"), (11, u "namesConstant"), (0, u "()Z")] 2

def k2c0 : Code := { maxStack := 2, maxLocals := 3, code := prog_1_method_1_code, exceptionTable := #[], attributes := #[] }
def k2m0 : Method := { name := "<init>", desc := "([I[I)V", sig := { parameters := [(.array .int), (.array .int)], returnType := none }, accessFlags := 0, code := some k2c0 }
def k2c1 : Code := { maxStack := 2, maxLocals := 6, code := prog_1_method_6_code, exceptionTable := #[], attributes := #[] }
def k2m1 : Method := { name := "namesConstant", desc := "()Z", sig := { parameters := [], returnType := some .boolean }, accessFlags := 0, code := some k2c1 }
/-- com/example/nosto/nosto/Arguments -/
def k2 : Class := { plain "com/example/nosto/nosto/Arguments" (some 0) with
  accessFlags := 32
  interfaces := #[]
  cf := some (fileOf pool2 14 #[] #[{ accessFlags := 0, nameIndex := 5, descriptorIndex := 23, attributes := #[] }, { accessFlags := 0, nameIndex := 35, descriptorIndex := 36, attributes := #[] }] 32 2 #[] #[{ accessFlags := 18, nameIndex := 17, descriptorIndex := 10, attributes := #[] }, { accessFlags := 18, nameIndex := 20, descriptorIndex := 10, attributes := #[] }])
  fields := #[{ name := "variables", type := (.array .int), accessFlags := 18, slot := 0, constantValue := 0 }, { name := "constants", type := (.array .int), accessFlags := 18, slot := 1, constantValue := 0 }]
  methods := #[k2m0, k2m1]
  instanceTypes := #[(.array .int), (.array .int)]
  staticTypes := #[]
  resolved := Array.replicate 39 none
  statics := none }

def pool3 : Array CpInfo := pool [(1, .class_ 2), (0, u "java/lang/Cloneable"), (0, .class_ 4), (0, u "java/lang/Object")] 2

/-- java/lang/Cloneable -/
def k3 : Class := { plain "java/lang/Cloneable" (some 0) with
  accessFlags := 1537
  interfaces := #[]
  cf := some (fileOf pool3 1 #[] #[] 1537 3 #[] #[])
  fields := #[]
  methods := #[]
  instanceTypes := #[]
  staticTypes := #[]
  resolved := Array.replicate 7 none
  statics := none }

def pool4 : Array CpInfo := pool [(1, u "java/io/Serializable"), (0, .class_ 1), (0, u "java/lang/Object"), (0, .class_ 3)] 3

/-- java/io/Serializable -/
def k4 : Class := { plain "java/io/Serializable" (some 0) with
  accessFlags := 1537
  interfaces := #[]
  cf := some (fileOf pool4 2 #[] #[] 1537 4 #[] #[])
  fields := #[]
  methods := #[]
  instanceTypes := #[]
  staticTypes := #[]
  resolved := Array.replicate 8 none
  statics := none }

/-- the primitive byte -/
def k5 : Class := { plain "byte" none with kind := .primitive 'B', accessFlags := 0x411 }
/-- [B -/
def k6 : Class := { plain "[B" (some 0) with kind := .array 5 .byte, interfaces := #[3, 4], accessFlags := 1041 }

/-- the primitive int -/
def k7 : Class := { plain "int" none with kind := .primitive 'I', accessFlags := 0x411 }
/-- [I -/
def k8 : Class := { plain "[I" (some 0) with kind := .array 7 .int, interfaces := #[3, 4], accessFlags := 1041 }

def heap : Heap := #[]
def classes : Array Class := #[k0, k1, k2, k3, k4, k5, k6, k7, k8]
def interned : List (Array UInt16 × Addr) := []
def slotsUsed : Nat := 0
def theMethod : MethodId := ⟨1, 2⟩
def args0 : Array Value := #[.int 3, .int 1, .int 2, .int 3, .int 4]
def aboutOver (below : List Frame) : State where
  vm := { classes := classes, interned := interned.toArray }
  heap := heap
  slotsUsed := slotsUsed
  threads := #[{ frames := .invoking theMethod args0 :: below }]
def below0 : List Frame := [.native { method := ⟨0, 0⟩, args := #[] }]
def about1 : State := aboutOver below0
def p0 : Program := .bare "" "" ""
def e0 : Env := launch0.env 0 0 0
theorem w_frames : about1.frames = Frame.invoking theMethod args0 :: below0 := rfl
set_option maxRecDepth 65536 in
theorem w_args : argsFit about1.vm theMethod args0 = true := by decide +kernel
set_option maxRecDepth 65536 in
theorem w_heap : heapFits about1 = true := by decide +kernel
set_option maxRecDepth 65536 in
theorem w_runnable : about1.curStatus? = some .runnable := by decide +kernel
set_option maxRecDepth 65536 in
theorem w_alone : about1.alone = true := by decide +kernel
set_option maxRecDepth 65536 in
theorem w_named : about1.methodNamed? x = some theMethod := by decide +kernel
set_option maxRecDepth 65536 in
theorem w_hears : about1.hears theMethod below0 = true := by decide +kernel
set_option maxRecDepth 65536 in
theorem w_ripe : about1.ripe theMethod args0 below0 = true := by decide +kernel
theorem w_running : about1.status = .running := rfl
set_option maxRecDepth 65536 in
theorem w_room : about1.hasRoom e0.platform room_1 = true :=
  launch0.hasRoom_least _ room_1 (by decide +kernel) (by decide +kernel) (by decide +kernel) (by decide +kernel) (by decide +kernel) (by decide +kernel)
theorem allAtoms_all (ts : List Jvm.Cond) (a : Array Jvm.Value) (st : Jvm.State) : (allAtoms ts).before a st = ts.all (fun c => c.before a st) := by
  induction ts with
  | nil => rfl
  | cons c t ih =>
    show (Jvm.Cond.and c (allAtoms t)).before a st = _
    rw [Jvm.Cond.before_and, ih, List.all_cons]
def words1 : List Jvm.Cond := Jvm.Cond.code x code maxLocals ret :: tables_1
/-- a 'code' word, met by the world's own term for the bytes: nothing is compared byte by byte -/
theorem code_word {y : MethodName} {bytes : ByteArray} {mx : Nat} {rt : Option FieldType} {a : Array Value} {s : State} {m : MethodId} {meth : Method} {c : Code} (h1 : s.methodNamed? y = some m) (h2 : s.vm.method? m = some meth) (h3 : meth.code = some c) (h4 : c.code = bytes)
    (h5 : (c.maxLocals == mx && c.exceptionTable.isEmpty && decide (c.maxStack ≤ mostOperands) && decide (meth.sig.returnType = rt) && !meth.locks && decide (parseMethodDescriptor y.desc = some meth.sig)) = true) : (Jvm.Cond.code y bytes mx rt).before a s = true := by
  simp only [Bool.and_eq_true, beq_iff_eq, Bool.not_eq_true', decide_eq_true_eq] at h5
  obtain ⟨⟨⟨⟨⟨g1, g2⟩, g3⟩, g4⟩, g5⟩, g6⟩ := h5
  simp [Cond.before, Cond.holds, Cond.value, h1, h2, h3, h4, g1, g2, g3, g4, g5, g6]
def isCode : Jvm.Cond → Bool
  | .code _ _ _ _ => true
  | _ => false
theorem all_split {L : List Jvm.Cond} {P : Jvm.Cond → Bool} (h1 : L.all (fun c => isCode c || P c) = true) (h2 : ∀ c ∈ L.filter isCode, P c = true) : L.all P = true := by
  refine List.all_eq_true.mpr fun c hc => ?_
  have h := List.all_eq_true.mp h1 c hc
  rcases Bool.eq_false_or_eq_true (isCode c) with hi | hi
  · exact h2 c (List.mem_filter.mpr ⟨hc, hi⟩)
  · simpa [hi] using h
set_option maxRecDepth 65536 in
theorem w_c0 : (Jvm.Cond.code x code maxLocals ret).before args0 about1 = true := code_word (m := ⟨1, 2⟩) (meth := k1m2) (c := k1c2) (by decide +kernel) rfl rfl rfl (by decide +kernel)
set_option maxRecDepth 65536 in
theorem w_c1 : (Jvm.Cond.code ({ cls := "com/example/nosto/nosto/Arguments", name := "<init>", desc := "([I[I)V" } : Jvm.MethodName) prog_1_method_1_code (3 : Nat) (Option.none : Option Jvm.ClassFile.FieldType)).before args0 about1 = true := code_word (m := ⟨2, 0⟩) (meth := k2m0) (c := k2c0) (by decide +kernel) rfl rfl rfl (by decide +kernel)
set_option maxRecDepth 65536 in
theorem w_c2 : (Jvm.Cond.code ({ cls := "java/lang/Object", name := "<init>", desc := "()V" } : Jvm.MethodName) object_method_1_code (1 : Nat) (Option.none : Option Jvm.ClassFile.FieldType)).before args0 about1 = true := code_word (m := ⟨0, 0⟩) (meth := k0m0) (c := k0c0) (by decide +kernel) rfl rfl rfl (by decide +kernel)
set_option maxRecDepth 65536 in
theorem w_c3 : (Jvm.Cond.code ({ cls := "com/example/nosto/nosto/Arguments", name := "namesConstant", desc := "()Z" } : Jvm.MethodName) prog_1_method_6_code (6 : Nat) (Option.some Jvm.ClassFile.FieldType.boolean)).before args0 about1 = true := code_word (m := ⟨2, 1⟩) (meth := k2m1) (c := k2c1) (by decide +kernel) rfl rfl rfl (by decide +kernel)
set_option maxRecDepth 65536 in
theorem w_c4 : (Jvm.Cond.code ({ cls := "com/example/nosto/nosto/ArgumentsNamesConstantPinLaw", name := "var", desc := "(I)I" } : Jvm.MethodName) method_2_code (1 : Nat) (Option.some Jvm.ClassFile.FieldType.int)).before args0 about1 = true := code_word (m := ⟨1, 1⟩) (meth := k1m1) (c := k1c1) (by decide +kernel) rfl rfl rfl (by decide +kernel)
def codes1 : List Jvm.Cond := [Jvm.Cond.code x code maxLocals ret, Jvm.Cond.code ({ cls := "com/example/nosto/nosto/Arguments", name := "<init>", desc := "([I[I)V" } : Jvm.MethodName) prog_1_method_1_code (3 : Nat) (Option.none : Option Jvm.ClassFile.FieldType), Jvm.Cond.code ({ cls := "java/lang/Object", name := "<init>", desc := "()V" } : Jvm.MethodName) object_method_1_code (1 : Nat) (Option.none : Option Jvm.ClassFile.FieldType), Jvm.Cond.code ({ cls := "com/example/nosto/nosto/Arguments", name := "namesConstant", desc := "()Z" } : Jvm.MethodName) prog_1_method_6_code (6 : Nat) (Option.some Jvm.ClassFile.FieldType.boolean), Jvm.Cond.code ({ cls := "com/example/nosto/nosto/ArgumentsNamesConstantPinLaw", name := "var", desc := "(I)I" } : Jvm.MethodName) method_2_code (1 : Nat) (Option.some Jvm.ClassFile.FieldType.int)]
set_option maxRecDepth 65536 in
theorem codes_eq : words1.filter isCode = codes1 := rfl
theorem w_codes : ∀ c ∈ words1.filter isCode, c.before args0 about1 = true := by
  rw [codes_eq]
  intro c hc
  simp only [codes1, List.mem_cons, List.not_mem_nil, or_false] at hc
  rcases hc with rfl | rfl | rfl | rfl | rfl
  · exact w_c0
  · exact w_c1
  · exact w_c2
  · exact w_c3
  · exact w_c4
set_option maxRecDepth 65536 in
theorem w_t1 : (words1.take 24).all (fun c => isCode c || c.before args0 about1) = true := by decide +kernel
set_option maxRecDepth 65536 in
theorem w_t2 : (words1.drop 24).all (fun c => isCode c || c.before args0 about1) = true := by decide +kernel
theorem w_tables : (allAtoms (Jvm.Cond.code x code maxLocals ret :: tables_1)).before args0 about1 = true := by
  rw [allAtoms_all]
  show words1.all (fun c => c.before args0 about1) = true
  refine all_split ?_ w_codes
  rw [← List.take_append_drop 24 words1, List.all_append, w_t1, w_t2]
  rfl
set_option maxRecDepth 65536 in
theorem w_case : (Jvm.Cond.and given_1 narrow_1).before args0 about1 = true := by decide +kernel
theorem w_applies : (headSpec (Jvm.Cond.code x code maxLocals ret :: tables_1) room_1).applies x e0.platform about1 = true :=
  (Spec.applies_iff w_frames).mpr ⟨w_running, w_runnable, w_alone, w_named, w_hears, w_ripe, w_room, w_tables⟩
theorem atStart : AtStart classFile x code maxLocals ret World_1 tables_1 room_1 Calls_1 rest_1 Pre_1 launch0 p0 e0 about1 theMethod args0 below0 :=
  ⟨lists_1, trivial, launch0.admits_env _ _ _, launch0.least_env, fairChoices_fair.cas, fairChoices_fair.clock, w_frames, w_args, w_heap, w_applies, trivial, trivial, w_case⟩
end start1
theorem witness_1 : WitnessClaimed_1 := ⟨start1.p0, start1.e0, start1.about1, start1.theMethod, start1.args0, start1.below0, start1.atStart⟩
end Jvm.Pilot.@@N@@
