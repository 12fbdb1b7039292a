import JvmDerived
import JvmDerived.Pilot.@@N@@Statement
import JvmDerived.Pilot.@@N@@Code
set_option linter.unusedVariables false
set_option linter.unusedSimpArgs false
namespace Jvm.Pilot.@@N@@
open Jvm Jvm.ClassFile Sem Op Lib Jvm.Free Jvm.Stand Jvm.LawKit Jvm.RoadKit Bundle Jvm.Pilot.@@N@@.Jvm.D
/-- the run from S ends as G says -/
def own_Fin (p : Program) (e : Env) (below : List Frame) (G : Outcome → State → Prop) (S : State) : Prop :=
  ∃ t o, Steps p.tables e below S t ∧ t.status = .running ∧ Ended t below o ∧ G o t
theorem own_go {p : Program} {e : Env} {below : List Frame} {G : Outcome → State → Prop} {S S' : State} (h : Steps p.tables e below S S') (k : own_Fin p e below G S') : own_Fin p e below G S := by
  obtain ⟨t, o, h1, h2, h3, h4⟩ := k
  exact ⟨t, o, h.trans h1, h2, h3, h4⟩
theorem own_by {p : Program} {e : Env} {below : List Frame} {G : Outcome → State → Prop} {S S' : State} (h : ∀ t, Steps p.tables e below S' t → Steps p.tables e below S t) (k : own_Fin p e below G S') : own_Fin p e below G S := by
  obtain ⟨t, o, h1, h2, h3, h4⟩ := k
  exact ⟨t, o, h t h1, h2, h3, h4⟩
theorem own_done {p : Program} {e : Env} {below : List Frame} {G : Outcome → State → Prop} {S t : State} {o : Outcome} (h1 : Steps p.tables e below S t) (h2 : t.status = .running) (h3 : Ended t below o) (h4 : G o t) : own_Fin p e below G S := ⟨t, o, h1, h2, h3, h4⟩
def own_get (rs : List Int32) (j : Int32) : Int32 := rs.getD j.toNatClampNeg 0
theorem own_getD (rs : List Int32) (j : Int32) : (rs.map Value.int).getD j.toNatClampNeg (.int (0 : Int32)) = .int (own_get rs j) := by
  unfold own_get
  rw [List.getD_eq_getElem?_getD, List.getD_eq_getElem?_getD, List.getElem?_map]
  cases rs[j.toNatClampNeg]? <;> rfl
theorem own_retI {p : Program} {l : Launch} {e : Env} {R : Room} {s : State} {m : MethodId} {args : Array Value} {below : List Frame} {meth : Method} {c : Code} {T : State} {locs : List Loc} {cells slots : Nat} (X : Stand p l e R s m args below meth c T locs cells slots) (hx : p.tables.exec = Jvm.exec) {pc : Nat} {Ls : Array Slot} {z : Int32} {rest : List Value} (hret : meth.sig.returnType = some .int) (hd : decode c.code pc = .ok (.ireturn, 1)) {fs : List Frame}
    (hl : ∀ (f : JFrame) (acts : List Action), f.method = m → f.locked = none → f.entered = [] → (doReturn e (T.setTop f) acts (some (.int z))).1 = T.setFrames fs) : Steps p.tables e below (T.setTop (mkF m pc Ls (.int z :: rest))) (T.setFrames fs) :=
  retOut X hx hret rfl (Or.inl ⟨rfl, Or.inl rfl, z, rfl⟩) hd hl
def own_bad (b : Int32) : Bool := b == 44 || b == 10 || b == 13
theorem own_n5 (x : Int32) : (x &&& (7 : Int32)) % (5 : Int32) = 0 ∨ (x &&& (7 : Int32)) % (5 : Int32) = 1 ∨ (x &&& (7 : Int32)) % (5 : Int32) = 2 ∨ (x &&& (7 : Int32)) % (5 : Int32) = 3 ∨ (x &&& (7 : Int32)) % (5 : Int32) = 4 := by
  have h1 : (x &&& (7 : Int32)).toInt = x.toInt % (2 ^ 3 : Nat) := c_mask x 7 3 (by decide) (by decide)
  have h2 := (c_irem (x &&& (7 : Int32)) 5 5 rfl).1 (by omega)
  generalize (x &&& (7 : Int32)) % (5 : Int32) = y at h2 ⊢
  have h3 : y.toInt = (0 : Int32).toInt ∨ y.toInt = (1 : Int32).toInt ∨ y.toInt = (2 : Int32).toInt ∨ y.toInt = (3 : Int32).toInt ∨ y.toInt = (4 : Int32).toInt := by
    simp only [Int32.reduceToInt]; omega
  simpa only [Int32.toInt_inj] using h3
theorem own_nb (x : Int32) : nar .byte x.toInt8.toInt32 = x.toInt8.toInt32 := by
  show x.toInt8.toInt32.toInt8.toInt32 = x.toInt8.toInt32
  rw [Int8.toInt8_toInt32]
theorem d2_0 : decode method_2_code 0 = .ok (.iload_n 0, 1) := by decide +kernel
theorem d2_1 : decode method_2_code 1 = .ok (.bipush 44, 2) := by decide +kernel
theorem d2_3 : decode method_2_code 3 = .ok (.if_icmp .eq 15, 3) := by decide +kernel
theorem d2_6 : decode method_2_code 6 = .ok (.iload_n 0, 1) := by decide +kernel
theorem d2_7 : decode method_2_code 7 = .ok (.bipush 10, 2) := by decide +kernel
theorem d2_9 : decode method_2_code 9 = .ok (.if_icmp .eq 9, 3) := by decide +kernel
theorem d2_12 : decode method_2_code 12 = .ok (.iload_n 0, 1) := by decide +kernel
theorem d2_13 : decode method_2_code 13 = .ok (.bipush 13, 2) := by decide +kernel
theorem d2_15 : decode method_2_code 15 = .ok (.if_icmp .ne 7, 3) := by decide +kernel
theorem d2_18 : decode method_2_code 18 = .ok (.iconst 1, 1) := by decide +kernel
theorem d2_19 : decode method_2_code 19 = .ok (.goto 4, 3) := by decide +kernel
theorem d2_22 : decode method_2_code 22 = .ok (.iconst 0, 1) := by decide +kernel
theorem d2_23 : decode method_2_code 23 = .ok (.ireturn, 1) := by decide +kernel
theorem pn_com_example_gridtally_gridtally_casefile_FieldTextIsWholePinLaw : plainName "com/example/gridtally/gridtally/casefile/FieldTextIsWholePinLaw" = true := by first | (simp [plainName, overriddenIn]; done) | decide +kernel
theorem ef_2 (m : MethodId) (x0 : Int32) : entryFrame m #[(.int x0)] 1 = mkF m 0 #[.val (.int x0)] [] := by first | (simp [entryFrame, mkF, argsToLocals, Value.category]; done) | rfl
def Q2 (Z : State) (p1 : Int32) (h0 : Heap) (n0 : Nat) (v : Option Value) (h : Heap) (L : List Loc) : Prop := v = some (.int (if own_bad p1 then (1 : Int32) else 0)) ∧ Fr n0 L ∧ h = h0
abbrev G2 (Z : State) (p1 : Int32) (h0 : Heap) (n0 : Nat) (s : State) : Outcome → State → Prop := fun o U' => ∃ v L, o = .returned v ∧ Q2 Z p1 h0 n0 v U'.heap L ∧ FrameEnd s o U' L ({ frames := 0, cells := 0, slots := 0, locals := 0 } : Room).cells ({ frames := 0, cells := 0, slots := 0, locals := 0 } : Room).slots
set_option maxRecDepth 65536 in
set_option maxHeartbeats 40000000 in
theorem rm2 (l : Launch) (Z : State) (a0 : Array Value) (hw : ∀ d ∈ tables_1, d.before a0 Z = true) (ws : List Jvm.Cond) (p1 : Int32) (h0 : Heap) (n0 : Nat) (Z0 : n0 ≤ h0.size)  :
    MetFree l (⟨"com/example/gridtally/gridtally/casefile/FieldTextIsWholePinLaw", "bad", "(B)Z"⟩ : MethodName) (head1 (Jvm.Cond.code (⟨"com/example/gridtally/gridtally/casefile/FieldTextIsWholePinLaw", "bad", "(B)Z"⟩ : MethodName) method_2_code 1 (some .boolean) :: ws) ({ frames := 0, cells := 0, slots := 0, locals := 0 } : Room)) (fun a U => a = #[(.int p1)] ∧ Z.Warmed39 U.vm ∧ U.heap = h0) (fun _ _ _ _ _ => True) (fun _ U o U' => ∃ v L, o = .returned v ∧ Q2 Z p1 h0 n0 v U'.heap L ∧ FrameEnd U o U' L ({ frames := 0, cells := 0, slots := 0, locals := 0 } : Room).cells ({ frames := 0, cells := 0, slots := 0, locals := 0 } : Room).slots) := by
  refine MetFree.of_bodySF (plainFor_of_name pn_com_example_gridtally_gridtally_casefile_FieldTextIsWholePinLaw) hisR ?_
  intro p e s m args below meth c s₁ Bd hml0 hP hK
  obtain ⟨rfl, hZ, hh⟩ := hP
  have hx := Bd.exec
  have hby := Bd.bytes
  have hml : c.maxLocals = 1 := hml0
  have hown : s.vm.findClass "com/example/gridtally/gridtally/casefile/FieldTextIsWholePinLaw" = some m.cls := findClass_of_methodNamed Bd.named
  have hnm := (name_of_methodNamed Bd.named Bd.method).1
  have X0 : Stand p l e ({ frames := 0, cells := 0, slots := 0, locals := 0 } : Room) s m #[(.int p1)] below meth c s₁ [] 0 0 := Stand.of_body Bd
  have e0 : s₁.heap = h0 := by rw [← hh, Bd.state]; rfl
  have es0 : s.heap = h0 := hh
  have N0 := Fr.nil n0
  show own_Fin p e below (G2 Z p1 h0 n0 s) (s₁.setTop (entryFrame m #[(.int p1)] 1))
  rw [ef_2 m p1]
  refine own_go (XS.iloadN X0.here hx rfl (hb hby d2_0) rfl (Steps.refl _)) ?_
  show own_Fin _ _ _ _ (s₁.setTop (mkF m 1 #[.val (.int p1)] [(.int p1)]))
  refine own_go (XS.bipush X0.here hx rfl (hb hby d2_1) (Steps.refl _)) ?_
  show own_Fin _ _ _ _ (s₁.setTop (mkF m 3 #[.val (.int p1)] [(.int (44 : Int32)), (.int p1)]))
  by_cases c3_1 : p1 = (44 : Int32)
  · refine own_go (XS.icmpYes X0.here hx rfl (pc0 := 3) (pc' := 18) rfl (hb hby d2_3) rfl (teq c3_1).1 (by decide) (by decide) (Steps.refl _)) ?_
    show own_Fin _ _ _ _ (s₁.setTop (mkF m 18 #[.val (.int p1)] []))
    refine own_go (XS.iconst X0.here hx rfl (hb hby d2_18) (Steps.refl _)) ?_
    show own_Fin _ _ _ _ (s₁.setTop (mkF m 19 #[.val (.int p1)] [(.int (1 : Int32))]))
    refine own_go (XS.goto X0.here hx rfl (pc0 := 19) (pc' := 23) rfl (hb hby d2_19) (by decide) (by decide) (Steps.refl _)) ?_
    show own_Fin _ _ _ _ (s₁.setTop (mkF m 23 #[.val (.int p1)] [(.int (1 : Int32))]))
    obtain ⟨fs2, hr2, hrun2, hended2, hW2, hsame2⟩ := X0.leave (v := some (.int (1 : Int32))) (fun h => by rw [Bd.returns] at h; cases h)
    refine own_done (retN X0 hx (t := .boolean) Bd.returns (by simp) (hb hby d2_23) hr2) hrun2 hended2 ⟨_, _, rfl, ?_, ⟨_, rfl⟩, hW2, hsame2.mono (by decide) (by decide)⟩
    show Q2 Z p1 h0 n0 _ s₁.heap _
    rw [e0]
    exact ⟨by simp [own_bad, c3_1], N0, rfl⟩
  · refine own_go (XS.icmpNo X0.here hx rfl (hb hby d2_3) rfl (feq c3_1).1 (Steps.refl _)) ?_
    show own_Fin _ _ _ _ (s₁.setTop (mkF m 6 #[.val (.int p1)] []))
    refine own_go (XS.iloadN X0.here hx rfl (hb hby d2_6) rfl (Steps.refl _)) ?_
    show own_Fin _ _ _ _ (s₁.setTop (mkF m 7 #[.val (.int p1)] [(.int p1)]))
    refine own_go (XS.bipush X0.here hx rfl (hb hby d2_7) (Steps.refl _)) ?_
    show own_Fin _ _ _ _ (s₁.setTop (mkF m 9 #[.val (.int p1)] [(.int (10 : Int32)), (.int p1)]))
    by_cases c9_3 : p1 = (10 : Int32)
    · refine own_go (XS.icmpYes X0.here hx rfl (pc0 := 9) (pc' := 18) rfl (hb hby d2_9) rfl (teq c9_3).1 (by decide) (by decide) (Steps.refl _)) ?_
      show own_Fin _ _ _ _ (s₁.setTop (mkF m 18 #[.val (.int p1)] []))
      refine own_go (XS.iconst X0.here hx rfl (hb hby d2_18) (Steps.refl _)) ?_
      show own_Fin _ _ _ _ (s₁.setTop (mkF m 19 #[.val (.int p1)] [(.int (1 : Int32))]))
      refine own_go (XS.goto X0.here hx rfl (pc0 := 19) (pc' := 23) rfl (hb hby d2_19) (by decide) (by decide) (Steps.refl _)) ?_
      show own_Fin _ _ _ _ (s₁.setTop (mkF m 23 #[.val (.int p1)] [(.int (1 : Int32))]))
      obtain ⟨fs4, hr4, hrun4, hended4, hW4, hsame4⟩ := X0.leave (v := some (.int (1 : Int32))) (fun h => by rw [Bd.returns] at h; cases h)
      refine own_done (retN X0 hx (t := .boolean) Bd.returns (by simp) (hb hby d2_23) hr4) hrun4 hended4 ⟨_, _, rfl, ?_, ⟨_, rfl⟩, hW4, hsame4.mono (by decide) (by decide)⟩
      show Q2 Z p1 h0 n0 _ s₁.heap _
      rw [e0]
      exact ⟨by simp [own_bad, c3_1, c9_3], N0, rfl⟩
    · refine own_go (XS.icmpNo X0.here hx rfl (hb hby d2_9) rfl (feq c9_3).1 (Steps.refl _)) ?_
      show own_Fin _ _ _ _ (s₁.setTop (mkF m 12 #[.val (.int p1)] []))
      refine own_go (XS.iloadN X0.here hx rfl (hb hby d2_12) rfl (Steps.refl _)) ?_
      show own_Fin _ _ _ _ (s₁.setTop (mkF m 13 #[.val (.int p1)] [(.int p1)]))
      refine own_go (XS.bipush X0.here hx rfl (hb hby d2_13) (Steps.refl _)) ?_
      show own_Fin _ _ _ _ (s₁.setTop (mkF m 15 #[.val (.int p1)] [(.int (13 : Int32)), (.int p1)]))
      by_cases c15_5 : p1 = (13 : Int32)
      · refine own_go (XS.icmpNo X0.here hx rfl (hb hby d2_15) rfl (teq c15_5).2 (Steps.refl _)) ?_
        show own_Fin _ _ _ _ (s₁.setTop (mkF m 18 #[.val (.int p1)] []))
        refine own_go (XS.iconst X0.here hx rfl (hb hby d2_18) (Steps.refl _)) ?_
        show own_Fin _ _ _ _ (s₁.setTop (mkF m 19 #[.val (.int p1)] [(.int (1 : Int32))]))
        refine own_go (XS.goto X0.here hx rfl (pc0 := 19) (pc' := 23) rfl (hb hby d2_19) (by decide) (by decide) (Steps.refl _)) ?_
        show own_Fin _ _ _ _ (s₁.setTop (mkF m 23 #[.val (.int p1)] [(.int (1 : Int32))]))
        obtain ⟨fs6, hr6, hrun6, hended6, hW6, hsame6⟩ := X0.leave (v := some (.int (1 : Int32))) (fun h => by rw [Bd.returns] at h; cases h)
        refine own_done (retN X0 hx (t := .boolean) Bd.returns (by simp) (hb hby d2_23) hr6) hrun6 hended6 ⟨_, _, rfl, ?_, ⟨_, rfl⟩, hW6, hsame6.mono (by decide) (by decide)⟩
        show Q2 Z p1 h0 n0 _ s₁.heap _
        rw [e0]
        exact ⟨by simp [own_bad, c3_1, c9_3, c15_5], N0, rfl⟩
      · refine own_go (XS.icmpYes X0.here hx rfl (pc0 := 15) (pc' := 22) rfl (hb hby d2_15) rfl (feq c15_5).2 (by decide) (by decide) (Steps.refl _)) ?_
        show own_Fin _ _ _ _ (s₁.setTop (mkF m 22 #[.val (.int p1)] []))
        refine own_go (XS.iconst X0.here hx rfl (hb hby d2_22) (Steps.refl _)) ?_
        show own_Fin _ _ _ _ (s₁.setTop (mkF m 23 #[.val (.int p1)] [(.int (0 : Int32))]))
        obtain ⟨fs7, hr7, hrun7, hended7, hW7, hsame7⟩ := X0.leave (v := some (.int (0 : Int32))) (fun h => by rw [Bd.returns] at h; cases h)
        refine own_done (retN X0 hx (t := .boolean) Bd.returns (by simp) (hb hby d2_23) hr7) hrun7 hended7 ⟨_, _, rfl, ?_, ⟨_, rfl⟩, hW7, hsame7.mono (by decide) (by decide)⟩
        show Q2 Z p1 h0 n0 _ s₁.heap _
        rw [e0]
        exact ⟨by simp [own_bad, c3_1, c9_3, c15_5], N0, rfl⟩
theorem d1_0 : decode prog_14_method_2_code 0 = .ok (.aload_n 0, 1) := by decide +kernel
theorem d1_1 : decode prog_14_method_2_code 1 = .ok (.arraylength, 1) := by decide +kernel
theorem d1_2 : decode prog_14_method_2_code 2 = .ok (.ifCond .le 13, 3) := by decide +kernel
theorem d1_5 : decode prog_14_method_2_code 5 = .ok (.aload_n 0, 1) := by decide +kernel
theorem d1_6 : decode prog_14_method_2_code 6 = .ok (.iconst 0, 1) := by decide +kernel
theorem d1_7 : decode prog_14_method_2_code 7 = .ok (.baload, 1) := by decide +kernel
theorem d1_8 : decode prog_14_method_2_code 8 = .ok (.bipush 34, 2) := by decide +kernel
theorem d1_10 : decode prog_14_method_2_code 10 = .ok (.if_icmp .ne 5, 3) := by decide +kernel
theorem d1_13 : decode prog_14_method_2_code 13 = .ok (.iconst 0, 1) := by decide +kernel
theorem d1_14 : decode prog_14_method_2_code 14 = .ok (.ireturn, 1) := by decide +kernel
theorem d1_15 : decode prog_14_method_2_code 15 = .ok (.aload_n 0, 1) := by decide +kernel
theorem d1_16 : decode prog_14_method_2_code 16 = .ok (.astore_n 1, 1) := by decide +kernel
theorem d1_17 : decode prog_14_method_2_code 17 = .ok (.aload_n 1, 1) := by decide +kernel
theorem d1_18 : decode prog_14_method_2_code 18 = .ok (.arraylength, 1) := by decide +kernel
theorem d1_19 : decode prog_14_method_2_code 19 = .ok (.istore_n 2, 1) := by decide +kernel
theorem d1_20 : decode prog_14_method_2_code 20 = .ok (.iconst 0, 1) := by decide +kernel
theorem d1_21 : decode prog_14_method_2_code 21 = .ok (.istore_n 3, 1) := by decide +kernel
theorem d1_22 : decode prog_14_method_2_code 22 = .ok (.iload_n 3, 1) := by decide +kernel
theorem d1_23 : decode prog_14_method_2_code 23 = .ok (.iload_n 2, 1) := by decide +kernel
theorem d1_24 : decode prog_14_method_2_code 24 = .ok (.if_icmp .ge 37, 3) := by decide +kernel
theorem d1_27 : decode prog_14_method_2_code 27 = .ok (.aload_n 1, 1) := by decide +kernel
theorem d1_28 : decode prog_14_method_2_code 28 = .ok (.iload_n 3, 1) := by decide +kernel
theorem d1_29 : decode prog_14_method_2_code 29 = .ok (.baload, 1) := by decide +kernel
theorem d1_30 : decode prog_14_method_2_code 30 = .ok (.istore 4, 2) := by decide +kernel
theorem d1_32 : decode prog_14_method_2_code 32 = .ok (.iload 4, 2) := by decide +kernel
theorem d1_34 : decode prog_14_method_2_code 34 = .ok (.bipush 44, 2) := by decide +kernel
theorem d1_36 : decode prog_14_method_2_code 36 = .ok (.if_icmp .eq 17, 3) := by decide +kernel
theorem d1_39 : decode prog_14_method_2_code 39 = .ok (.iload 4, 2) := by decide +kernel
theorem d1_41 : decode prog_14_method_2_code 41 = .ok (.bipush 10, 2) := by decide +kernel
theorem d1_43 : decode prog_14_method_2_code 43 = .ok (.if_icmp .eq 10, 3) := by decide +kernel
theorem d1_46 : decode prog_14_method_2_code 46 = .ok (.iload 4, 2) := by decide +kernel
theorem d1_48 : decode prog_14_method_2_code 48 = .ok (.bipush 13, 2) := by decide +kernel
theorem d1_50 : decode prog_14_method_2_code 50 = .ok (.if_icmp .ne 5, 3) := by decide +kernel
theorem d1_53 : decode prog_14_method_2_code 53 = .ok (.iconst 0, 1) := by decide +kernel
theorem d1_54 : decode prog_14_method_2_code 54 = .ok (.ireturn, 1) := by decide +kernel
theorem d1_55 : decode prog_14_method_2_code 55 = .ok (.iinc 3 1, 3) := by decide +kernel
theorem d1_58 : decode prog_14_method_2_code 58 = .ok (.goto (-36), 3) := by decide +kernel
theorem d1_61 : decode prog_14_method_2_code 61 = .ok (.iconst 1, 1) := by decide +kernel
theorem d1_62 : decode prog_14_method_2_code 62 = .ok (.ireturn, 1) := by decide +kernel
theorem pn_com_example_gridtally_gridtally_casefile_FieldText : plainName "com/example/gridtally/gridtally/casefile/FieldText" = true := by first | (simp [plainName, overriddenIn]; done) | decide +kernel
theorem ef_1_0 (m : MethodId) (x0 : Addr) : entryFrame m #[(.ref x0)] 5 = mkF m 0 #[.val (.ref x0), .unset, .unset, .unset, .unset] [] := by first | (simp [entryFrame, mkF, argsToLocals, Value.category]; done) | rfl
def Q1_0 (Z : State) (a1 : Addr) (k : ClassId) (h0 : Heap) (n0 : Nat) (v : Option Value) (h : Heap) (L : List Loc) : Prop := v = some (.int (1 : Int32)) ∧ Fr n0 L ∧ h = h0
abbrev G1_0 (Z : State) (a1 : Addr) (k : ClassId) (h0 : Heap) (n0 : Nat) (s : State) : Outcome → State → Prop := fun o U' => ∃ v L, o = .returned v ∧ Q1_0 Z a1 k h0 n0 v U'.heap L ∧ FrameEnd s o U' L ({ frames := 0, cells := 0, slots := 0, locals := 0 } : Room).cells ({ frames := 0, cells := 0, slots := 0, locals := 0 } : Room).slots
set_option maxRecDepth 65536 in
set_option maxHeartbeats 40000000 in
theorem rm1_0 (l : Launch) (Z : State) (a0 : Array Value) (hw : ∀ d ∈ tables_1, d.before a0 Z = true) (ws : List Jvm.Cond) (a1 : Addr) (k : ClassId) (h0 : Heap) (n0 : Nat) (Z0 : n0 ≤ h0.size) (V_a1 : Arv Z h0 a1 k .byte (0 : Int32) [] (.int (0 : Int32))) :
    MetFree l (⟨"com/example/gridtally/gridtally/casefile/FieldText", "isWhole", "([B)Z"⟩ : MethodName) (head1 (Jvm.Cond.code (⟨"com/example/gridtally/gridtally/casefile/FieldText", "isWhole", "([B)Z"⟩ : MethodName) prog_14_method_2_code 5 (some .boolean) :: ws) ({ frames := 0, cells := 0, slots := 0, locals := 0 } : Room)) (fun a U => a = #[(.ref a1)] ∧ Z.Warmed39 U.vm ∧ U.heap = h0) (fun _ _ _ _ _ => True) (fun _ U o U' => ∃ v L, o = .returned v ∧ Q1_0 Z a1 k h0 n0 v U'.heap L ∧ FrameEnd U o U' L ({ frames := 0, cells := 0, slots := 0, locals := 0 } : Room).cells ({ frames := 0, cells := 0, slots := 0, locals := 0 } : Room).slots) := by
  refine MetFree.of_bodySF (plainFor_of_name pn_com_example_gridtally_gridtally_casefile_FieldText) hisR ?_
  intro p e s m args below meth c s₁ Bd hml0 hP hK
  obtain ⟨rfl, hZ, hh⟩ := hP
  have hx := Bd.exec
  have hby := Bd.bytes
  have hml : c.maxLocals = 5 := hml0
  have hown : s.vm.findClass "com/example/gridtally/gridtally/casefile/FieldText" = some m.cls := findClass_of_methodNamed Bd.named
  have hnm := (name_of_methodNamed Bd.named Bd.method).1
  have X0 : Stand p l e ({ frames := 0, cells := 0, slots := 0, locals := 0 } : Room) s m #[(.ref a1)] below meth c s₁ [] 0 0 := Stand.of_body Bd
  have e0 : s₁.heap = h0 := by rw [← hh, Bd.state]; rfl
  have es0 : s.heap = h0 := hh
  have N0 := Fr.nil n0
  show own_Fin p e below (G1_0 Z a1 k h0 n0 s) (s₁.setTop (entryFrame m #[(.ref a1)] 5))
  rw [ef_1_0 m a1]
  refine own_go (XS.aloadN X0.here hx rfl (hb hby d1_0) rfl rfl (Steps.refl _)) ?_
  show own_Fin _ _ _ _ (s₁.setTop (mkF m 1 #[.val (.ref a1), .unset, .unset, .unset, .unset] [(.ref a1)]))
  obtain ⟨cl8, Ar8, qa8, Sa8, Na8, Ha8, Ga8⟩ := id V_a1
  refine own_by (X0.arraylength hx (by rw [e0]; exact Ar8.1) (State.isArrayOf_alike hZ.alike Ar8.2.1) (g := (mkF m 1 #[.val (.ref a1), .unset, .unset, .unset, .unset] [(.ref a1)])) rfl rfl (hb hby d1_1)) ?_
  rw [len_of Sa8 Na8]
  show own_Fin _ _ _ _ (s₁.setTop (mkF m 2 #[.val (.ref a1), .unset, .unset, .unset, .unset] [(.int (0 : Int32))]))
  refine own_go (XS.ifYes X0.here hx rfl (pc0 := 2) (pc' := 15) rfl (hb hby d1_2) rfl ((if0 _ _).trans (flt (by decide : ¬ ((0 : Int32) < (0 : Int32)))).2.2.2) (by decide) (by decide) (Steps.refl _)) ?_
  show own_Fin _ _ _ _ (s₁.setTop (mkF m 15 #[.val (.ref a1), .unset, .unset, .unset, .unset] []))
  refine own_go (XS.aloadN X0.here hx rfl (hb hby d1_15) rfl rfl (Steps.refl _)) ?_
  show own_Fin _ _ _ _ (s₁.setTop (mkF m 16 #[.val (.ref a1), .unset, .unset, .unset, .unset] [(.ref a1)]))
  refine own_go (XS.astoreN X0.here hx rfl (hb hby d1_16) rfl rfl (l' := #[.val (.ref a1), .val (.ref a1), .unset, .unset, .unset]) rfl (Steps.refl _)) ?_
  show own_Fin _ _ _ _ (s₁.setTop (mkF m 17 #[.val (.ref a1), .val (.ref a1), .unset, .unset, .unset] []))
  refine own_go (XS.aloadN X0.here hx rfl (hb hby d1_17) rfl rfl (Steps.refl _)) ?_
  show own_Fin _ _ _ _ (s₁.setTop (mkF m 18 #[.val (.ref a1), .val (.ref a1), .unset, .unset, .unset] [(.ref a1)]))
  obtain ⟨cl9, Ar9, qa9, Sa9, Na9, Ha9, Ga9⟩ := id V_a1
  refine own_by (X0.arraylength hx (by rw [e0]; exact Ar9.1) (State.isArrayOf_alike hZ.alike Ar9.2.1) (g := (mkF m 18 #[.val (.ref a1), .val (.ref a1), .unset, .unset, .unset] [(.ref a1)])) rfl rfl (hb hby d1_18)) ?_
  rw [len_of Sa9 Na9]
  show own_Fin _ _ _ _ (s₁.setTop (mkF m 19 #[.val (.ref a1), .val (.ref a1), .unset, .unset, .unset] [(.int (0 : Int32))]))
  refine own_go (XS.istoreN X0.here hx rfl (hb hby d1_19) rfl (l' := #[.val (.ref a1), .val (.ref a1), .val (.int (0 : Int32)), .unset, .unset]) rfl (Steps.refl _)) ?_
  show own_Fin _ _ _ _ (s₁.setTop (mkF m 20 #[.val (.ref a1), .val (.ref a1), .val (.int (0 : Int32)), .unset, .unset] []))
  refine own_go (XS.iconst X0.here hx rfl (hb hby d1_20) (Steps.refl _)) ?_
  show own_Fin _ _ _ _ (s₁.setTop (mkF m 21 #[.val (.ref a1), .val (.ref a1), .val (.int (0 : Int32)), .unset, .unset] [(.int (0 : Int32))]))
  refine own_go (XS.istoreN X0.here hx rfl (hb hby d1_21) rfl (l' := #[.val (.ref a1), .val (.ref a1), .val (.int (0 : Int32)), .val (.int (0 : Int32)), .unset]) rfl (Steps.refl _)) ?_
  show own_Fin _ _ _ _ (s₁.setTop (mkF m 22 #[.val (.ref a1), .val (.ref a1), .val (.int (0 : Int32)), .val (.int (0 : Int32)), .unset] []))
  refine own_go (XS.iloadN X0.here hx rfl (hb hby d1_22) rfl (Steps.refl _)) ?_
  show own_Fin _ _ _ _ (s₁.setTop (mkF m 23 #[.val (.ref a1), .val (.ref a1), .val (.int (0 : Int32)), .val (.int (0 : Int32)), .unset] [(.int (0 : Int32))]))
  refine own_go (XS.iloadN X0.here hx rfl (hb hby d1_23) rfl (Steps.refl _)) ?_
  show own_Fin _ _ _ _ (s₁.setTop (mkF m 24 #[.val (.ref a1), .val (.ref a1), .val (.int (0 : Int32)), .val (.int (0 : Int32)), .unset] [(.int (0 : Int32)), (.int (0 : Int32))]))
  refine own_go (XS.icmpYes X0.here hx rfl (pc0 := 24) (pc' := 61) rfl (hb hby d1_24) rfl (flt (by decide : ¬ ((0 : Int32) < (0 : Int32)))).2.1 (by decide) (by decide) (Steps.refl _)) ?_
  show own_Fin _ _ _ _ (s₁.setTop (mkF m 61 #[.val (.ref a1), .val (.ref a1), .val (.int (0 : Int32)), .val (.int (0 : Int32)), .unset] []))
  refine own_go (XS.iconst X0.here hx rfl (hb hby d1_61) (Steps.refl _)) ?_
  show own_Fin _ _ _ _ (s₁.setTop (mkF m 62 #[.val (.ref a1), .val (.ref a1), .val (.int (0 : Int32)), .val (.int (0 : Int32)), .unset] [(.int (1 : Int32))]))
  obtain ⟨fs10, hr10, hrun10, hended10, hW10, hsame10⟩ := X0.leave (v := some (.int (1 : Int32))) (fun h => by rw [Bd.returns] at h; cases h)
  refine own_done (retN X0 hx (t := .boolean) Bd.returns (by simp) (hb hby d1_62) hr10) hrun10 hended10 ⟨_, _, rfl, ?_, ⟨_, rfl⟩, hW10, hsame10.mono (by decide) (by decide)⟩
  show Q1_0 Z a1 k h0 n0 _ s₁.heap _
  rw [e0]
  exact ⟨rfl, N0, rfl⟩
theorem ef_1_1 (m : MethodId) (x0 : Addr) : entryFrame m #[(.ref x0)] 5 = mkF m 0 #[.val (.ref x0), .unset, .unset, .unset, .unset] [] := by first | (simp [entryFrame, mkF, argsToLocals, Value.category]; done) | rfl
def Q1_1 (Z : State) (a1 : Addr) (k : ClassId) (b0 : Int32) (h0 : Heap) (n0 : Nat) (v : Option Value) (h : Heap) (L : List Loc) : Prop := v = some (.int (if (decide (b0 = 34) || own_bad b0) then (0 : Int32) else 1)) ∧ Fr n0 L ∧ h = h0
abbrev G1_1 (Z : State) (a1 : Addr) (k : ClassId) (b0 : Int32) (h0 : Heap) (n0 : Nat) (s : State) : Outcome → State → Prop := fun o U' => ∃ v L, o = .returned v ∧ Q1_1 Z a1 k b0 h0 n0 v U'.heap L ∧ FrameEnd s o U' L ({ frames := 0, cells := 0, slots := 0, locals := 0 } : Room).cells ({ frames := 0, cells := 0, slots := 0, locals := 0 } : Room).slots
set_option maxRecDepth 65536 in
set_option maxHeartbeats 40000000 in
theorem rm1_1 (l : Launch) (Z : State) (a0 : Array Value) (hw : ∀ d ∈ tables_1, d.before a0 Z = true) (ws : List Jvm.Cond) (a1 : Addr) (k : ClassId) (b0 : Int32) (h0 : Heap) (n0 : Nat) (Z0 : n0 ≤ h0.size) (V_a1 : Arv Z h0 a1 k .byte (1 : Int32) [.int b0] (.int (0 : Int32))) :
    MetFree l (⟨"com/example/gridtally/gridtally/casefile/FieldText", "isWhole", "([B)Z"⟩ : MethodName) (head1 (Jvm.Cond.code (⟨"com/example/gridtally/gridtally/casefile/FieldText", "isWhole", "([B)Z"⟩ : MethodName) prog_14_method_2_code 5 (some .boolean) :: ws) ({ frames := 0, cells := 0, slots := 0, locals := 0 } : Room)) (fun a U => a = #[(.ref a1)] ∧ Z.Warmed39 U.vm ∧ U.heap = h0) (fun _ _ _ _ _ => True) (fun _ U o U' => ∃ v L, o = .returned v ∧ Q1_1 Z a1 k b0 h0 n0 v U'.heap L ∧ FrameEnd U o U' L ({ frames := 0, cells := 0, slots := 0, locals := 0 } : Room).cells ({ frames := 0, cells := 0, slots := 0, locals := 0 } : Room).slots) := by
  refine MetFree.of_bodySF (plainFor_of_name pn_com_example_gridtally_gridtally_casefile_FieldText) hisR ?_
  intro p e s m args below meth c s₁ Bd hml0 hP hK
  obtain ⟨rfl, hZ, hh⟩ := hP
  have hx := Bd.exec
  have hby := Bd.bytes
  have hml : c.maxLocals = 5 := hml0
  have hown : s.vm.findClass "com/example/gridtally/gridtally/casefile/FieldText" = some m.cls := findClass_of_methodNamed Bd.named
  have hnm := (name_of_methodNamed Bd.named Bd.method).1
  have X0 : Stand p l e ({ frames := 0, cells := 0, slots := 0, locals := 0 } : Room) s m #[(.ref a1)] below meth c s₁ [] 0 0 := Stand.of_body Bd
  have e0 : s₁.heap = h0 := by rw [← hh, Bd.state]; rfl
  have es0 : s.heap = h0 := hh
  have N0 := Fr.nil n0
  show own_Fin p e below (G1_1 Z a1 k b0 h0 n0 s) (s₁.setTop (entryFrame m #[(.ref a1)] 5))
  rw [ef_1_1 m a1]
  refine own_go (XS.aloadN X0.here hx rfl (hb hby d1_0) rfl rfl (Steps.refl _)) ?_
  show own_Fin _ _ _ _ (s₁.setTop (mkF m 1 #[.val (.ref a1), .unset, .unset, .unset, .unset] [(.ref a1)]))
  obtain ⟨cl11, Ar11, qa11, Sa11, Na11, Ha11, Ga11⟩ := id V_a1
  refine own_by (X0.arraylength hx (by rw [e0]; exact Ar11.1) (State.isArrayOf_alike hZ.alike Ar11.2.1) (g := (mkF m 1 #[.val (.ref a1), .unset, .unset, .unset, .unset] [(.ref a1)])) rfl rfl (hb hby d1_1)) ?_
  rw [len_of Sa11 Na11]
  show own_Fin _ _ _ _ (s₁.setTop (mkF m 2 #[.val (.ref a1), .unset, .unset, .unset, .unset] [(.int (1 : Int32))]))
  refine own_go (XS.ifNo X0.here hx rfl (hb hby d1_2) rfl ((if0 _ _).trans (tlt (by decide : (0 : Int32) < (1 : Int32))).2.2.2) (Steps.refl _)) ?_
  show own_Fin _ _ _ _ (s₁.setTop (mkF m 5 #[.val (.ref a1), .unset, .unset, .unset, .unset] []))
  refine own_go (XS.aloadN X0.here hx rfl (hb hby d1_5) rfl rfl (Steps.refl _)) ?_
  show own_Fin _ _ _ _ (s₁.setTop (mkF m 6 #[.val (.ref a1), .unset, .unset, .unset, .unset] [(.ref a1)]))
  refine own_go (XS.iconst X0.here hx rfl (hb hby d1_6) (Steps.refl _)) ?_
  show own_Fin _ _ _ _ (s₁.setTop (mkF m 7 #[.val (.ref a1), .unset, .unset, .unset, .unset] [(.int (0 : Int32)), (.ref a1)]))
  obtain ⟨cl12, Ar12, qa12, Sa12, Na12, Ha12, Ga12⟩ := id V_a1
  have hin12 : ¬ ((0 : Int32) < 0 ∨ cl12.slots.size ≤ ((0 : Int32)).toNatClampNeg) := inb_of Sa12 ⟨by decide, by decide⟩
  have hat12 : cl12.slots[((0 : Int32)).toNatClampNeg]? = some (.int b0) := Has.at Ha12 hin12 rfl
  refine own_by (X0.baloadBytes hx (j := (0 : Int32)) (v := (.int b0)) (by rw [e0]; exact Ar12.1) (State.isArrayOf_alike hZ.alike Ar12.2.1) Ar12.2.2 hin12 hat12 (g := (mkF m 7 #[.val (.ref a1), .unset, .unset, .unset, .unset] [(.int (0 : Int32)), (.ref a1)])) rfl rfl (hb hby d1_7)) ?_
  show own_Fin _ _ _ _ (s₁.setTop (mkF m 8 #[.val (.ref a1), .unset, .unset, .unset, .unset] [(.int b0)]))
  refine own_go (XS.bipush X0.here hx rfl (hb hby d1_8) (Steps.refl _)) ?_
  show own_Fin _ _ _ _ (s₁.setTop (mkF m 10 #[.val (.ref a1), .unset, .unset, .unset, .unset] [(.int (34 : Int32)), (.int b0)]))
  by_cases c10_13 : b0 = (34 : Int32)
  · refine own_go (XS.icmpNo X0.here hx rfl (hb hby d1_10) rfl (teq c10_13).2 (Steps.refl _)) ?_
    show own_Fin _ _ _ _ (s₁.setTop (mkF m 13 #[.val (.ref a1), .unset, .unset, .unset, .unset] []))
    refine own_go (XS.iconst X0.here hx rfl (hb hby d1_13) (Steps.refl _)) ?_
    show own_Fin _ _ _ _ (s₁.setTop (mkF m 14 #[.val (.ref a1), .unset, .unset, .unset, .unset] [(.int (0 : Int32))]))
    obtain ⟨fs14, hr14, hrun14, hended14, hW14, hsame14⟩ := X0.leave (v := some (.int (0 : Int32))) (fun h => by rw [Bd.returns] at h; cases h)
    refine own_done (retN X0 hx (t := .boolean) Bd.returns (by simp) (hb hby d1_14) hr14) hrun14 hended14 ⟨_, _, rfl, ?_, ⟨_, rfl⟩, hW14, hsame14.mono (by decide) (by decide)⟩
    show Q1_1 Z a1 k b0 h0 n0 _ s₁.heap _
    rw [e0]
    exact ⟨by simp [own_bad, c10_13], N0, rfl⟩
  · refine own_go (XS.icmpYes X0.here hx rfl (pc0 := 10) (pc' := 15) rfl (hb hby d1_10) rfl (feq c10_13).2 (by decide) (by decide) (Steps.refl _)) ?_
    show own_Fin _ _ _ _ (s₁.setTop (mkF m 15 #[.val (.ref a1), .unset, .unset, .unset, .unset] []))
    refine own_go (XS.aloadN X0.here hx rfl (hb hby d1_15) rfl rfl (Steps.refl _)) ?_
    show own_Fin _ _ _ _ (s₁.setTop (mkF m 16 #[.val (.ref a1), .unset, .unset, .unset, .unset] [(.ref a1)]))
    refine own_go (XS.astoreN X0.here hx rfl (hb hby d1_16) rfl rfl (l' := #[.val (.ref a1), .val (.ref a1), .unset, .unset, .unset]) rfl (Steps.refl _)) ?_
    show own_Fin _ _ _ _ (s₁.setTop (mkF m 17 #[.val (.ref a1), .val (.ref a1), .unset, .unset, .unset] []))
    refine own_go (XS.aloadN X0.here hx rfl (hb hby d1_17) rfl rfl (Steps.refl _)) ?_
    show own_Fin _ _ _ _ (s₁.setTop (mkF m 18 #[.val (.ref a1), .val (.ref a1), .unset, .unset, .unset] [(.ref a1)]))
    obtain ⟨cl15, Ar15, qa15, Sa15, Na15, Ha15, Ga15⟩ := id V_a1
    refine own_by (X0.arraylength hx (by rw [e0]; exact Ar15.1) (State.isArrayOf_alike hZ.alike Ar15.2.1) (g := (mkF m 18 #[.val (.ref a1), .val (.ref a1), .unset, .unset, .unset] [(.ref a1)])) rfl rfl (hb hby d1_18)) ?_
    rw [len_of Sa15 Na15]
    show own_Fin _ _ _ _ (s₁.setTop (mkF m 19 #[.val (.ref a1), .val (.ref a1), .unset, .unset, .unset] [(.int (1 : Int32))]))
    refine own_go (XS.istoreN X0.here hx rfl (hb hby d1_19) rfl (l' := #[.val (.ref a1), .val (.ref a1), .val (.int (1 : Int32)), .unset, .unset]) rfl (Steps.refl _)) ?_
    show own_Fin _ _ _ _ (s₁.setTop (mkF m 20 #[.val (.ref a1), .val (.ref a1), .val (.int (1 : Int32)), .unset, .unset] []))
    refine own_go (XS.iconst X0.here hx rfl (hb hby d1_20) (Steps.refl _)) ?_
    show own_Fin _ _ _ _ (s₁.setTop (mkF m 21 #[.val (.ref a1), .val (.ref a1), .val (.int (1 : Int32)), .unset, .unset] [(.int (0 : Int32))]))
    refine own_go (XS.istoreN X0.here hx rfl (hb hby d1_21) rfl (l' := #[.val (.ref a1), .val (.ref a1), .val (.int (1 : Int32)), .val (.int (0 : Int32)), .unset]) rfl (Steps.refl _)) ?_
    show own_Fin _ _ _ _ (s₁.setTop (mkF m 22 #[.val (.ref a1), .val (.ref a1), .val (.int (1 : Int32)), .val (.int (0 : Int32)), .unset] []))
    refine own_go (XS.iloadN X0.here hx rfl (hb hby d1_22) rfl (Steps.refl _)) ?_
    show own_Fin _ _ _ _ (s₁.setTop (mkF m 23 #[.val (.ref a1), .val (.ref a1), .val (.int (1 : Int32)), .val (.int (0 : Int32)), .unset] [(.int (0 : Int32))]))
    refine own_go (XS.iloadN X0.here hx rfl (hb hby d1_23) rfl (Steps.refl _)) ?_
    show own_Fin _ _ _ _ (s₁.setTop (mkF m 24 #[.val (.ref a1), .val (.ref a1), .val (.int (1 : Int32)), .val (.int (0 : Int32)), .unset] [(.int (1 : Int32)), (.int (0 : Int32))]))
    refine own_go (XS.icmpNo X0.here hx rfl (hb hby d1_24) rfl (tlt (by decide : (0 : Int32) < (1 : Int32))).2.1 (Steps.refl _)) ?_
    show own_Fin _ _ _ _ (s₁.setTop (mkF m 27 #[.val (.ref a1), .val (.ref a1), .val (.int (1 : Int32)), .val (.int (0 : Int32)), .unset] []))
    refine own_go (XS.aloadN X0.here hx rfl (hb hby d1_27) rfl rfl (Steps.refl _)) ?_
    show own_Fin _ _ _ _ (s₁.setTop (mkF m 28 #[.val (.ref a1), .val (.ref a1), .val (.int (1 : Int32)), .val (.int (0 : Int32)), .unset] [(.ref a1)]))
    refine own_go (XS.iloadN X0.here hx rfl (hb hby d1_28) rfl (Steps.refl _)) ?_
    show own_Fin _ _ _ _ (s₁.setTop (mkF m 29 #[.val (.ref a1), .val (.ref a1), .val (.int (1 : Int32)), .val (.int (0 : Int32)), .unset] [(.int (0 : Int32)), (.ref a1)]))
    obtain ⟨cl16, Ar16, qa16, Sa16, Na16, Ha16, Ga16⟩ := id V_a1
    have hin16 : ¬ ((0 : Int32) < 0 ∨ cl16.slots.size ≤ ((0 : Int32)).toNatClampNeg) := inb_of Sa16 ⟨by decide, by decide⟩
    have hat16 : cl16.slots[((0 : Int32)).toNatClampNeg]? = some (.int b0) := Has.at Ha16 hin16 rfl
    refine own_by (X0.baloadBytes hx (j := (0 : Int32)) (v := (.int b0)) (by rw [e0]; exact Ar16.1) (State.isArrayOf_alike hZ.alike Ar16.2.1) Ar16.2.2 hin16 hat16 (g := (mkF m 29 #[.val (.ref a1), .val (.ref a1), .val (.int (1 : Int32)), .val (.int (0 : Int32)), .unset] [(.int (0 : Int32)), (.ref a1)])) rfl rfl (hb hby d1_29)) ?_
    show own_Fin _ _ _ _ (s₁.setTop (mkF m 30 #[.val (.ref a1), .val (.ref a1), .val (.int (1 : Int32)), .val (.int (0 : Int32)), .unset] [(.int b0)]))
    refine own_go (XS.istore X0.here hx rfl (hb hby d1_30) rfl (l' := #[.val (.ref a1), .val (.ref a1), .val (.int (1 : Int32)), .val (.int (0 : Int32)), .val (.int b0)]) rfl (Steps.refl _)) ?_
    show own_Fin _ _ _ _ (s₁.setTop (mkF m 32 #[.val (.ref a1), .val (.ref a1), .val (.int (1 : Int32)), .val (.int (0 : Int32)), .val (.int b0)] []))
    refine own_go (XS.iload X0.here hx rfl (hb hby d1_32) rfl (Steps.refl _)) ?_
    show own_Fin _ _ _ _ (s₁.setTop (mkF m 34 #[.val (.ref a1), .val (.ref a1), .val (.int (1 : Int32)), .val (.int (0 : Int32)), .val (.int b0)] [(.int b0)]))
    refine own_go (XS.bipush X0.here hx rfl (hb hby d1_34) (Steps.refl _)) ?_
    show own_Fin _ _ _ _ (s₁.setTop (mkF m 36 #[.val (.ref a1), .val (.ref a1), .val (.int (1 : Int32)), .val (.int (0 : Int32)), .val (.int b0)] [(.int (44 : Int32)), (.int b0)]))
    by_cases c36_17 : b0 = (44 : Int32)
    · refine own_go (XS.icmpYes X0.here hx rfl (pc0 := 36) (pc' := 53) rfl (hb hby d1_36) rfl (teq c36_17).1 (by decide) (by decide) (Steps.refl _)) ?_
      show own_Fin _ _ _ _ (s₁.setTop (mkF m 53 #[.val (.ref a1), .val (.ref a1), .val (.int (1 : Int32)), .val (.int (0 : Int32)), .val (.int b0)] []))
      refine own_go (XS.iconst X0.here hx rfl (hb hby d1_53) (Steps.refl _)) ?_
      show own_Fin _ _ _ _ (s₁.setTop (mkF m 54 #[.val (.ref a1), .val (.ref a1), .val (.int (1 : Int32)), .val (.int (0 : Int32)), .val (.int b0)] [(.int (0 : Int32))]))
      obtain ⟨fs18, hr18, hrun18, hended18, hW18, hsame18⟩ := X0.leave (v := some (.int (0 : Int32))) (fun h => by rw [Bd.returns] at h; cases h)
      refine own_done (retN X0 hx (t := .boolean) Bd.returns (by simp) (hb hby d1_54) hr18) hrun18 hended18 ⟨_, _, rfl, ?_, ⟨_, rfl⟩, hW18, hsame18.mono (by decide) (by decide)⟩
      show Q1_1 Z a1 k b0 h0 n0 _ s₁.heap _
      rw [e0]
      exact ⟨by simp [own_bad, c10_13, c36_17], N0, rfl⟩
    · refine own_go (XS.icmpNo X0.here hx rfl (hb hby d1_36) rfl (feq c36_17).1 (Steps.refl _)) ?_
      show own_Fin _ _ _ _ (s₁.setTop (mkF m 39 #[.val (.ref a1), .val (.ref a1), .val (.int (1 : Int32)), .val (.int (0 : Int32)), .val (.int b0)] []))
      refine own_go (XS.iload X0.here hx rfl (hb hby d1_39) rfl (Steps.refl _)) ?_
      show own_Fin _ _ _ _ (s₁.setTop (mkF m 41 #[.val (.ref a1), .val (.ref a1), .val (.int (1 : Int32)), .val (.int (0 : Int32)), .val (.int b0)] [(.int b0)]))
      refine own_go (XS.bipush X0.here hx rfl (hb hby d1_41) (Steps.refl _)) ?_
      show own_Fin _ _ _ _ (s₁.setTop (mkF m 43 #[.val (.ref a1), .val (.ref a1), .val (.int (1 : Int32)), .val (.int (0 : Int32)), .val (.int b0)] [(.int (10 : Int32)), (.int b0)]))
      by_cases c43_19 : b0 = (10 : Int32)
      · refine own_go (XS.icmpYes X0.here hx rfl (pc0 := 43) (pc' := 53) rfl (hb hby d1_43) rfl (teq c43_19).1 (by decide) (by decide) (Steps.refl _)) ?_
        show own_Fin _ _ _ _ (s₁.setTop (mkF m 53 #[.val (.ref a1), .val (.ref a1), .val (.int (1 : Int32)), .val (.int (0 : Int32)), .val (.int b0)] []))
        refine own_go (XS.iconst X0.here hx rfl (hb hby d1_53) (Steps.refl _)) ?_
        show own_Fin _ _ _ _ (s₁.setTop (mkF m 54 #[.val (.ref a1), .val (.ref a1), .val (.int (1 : Int32)), .val (.int (0 : Int32)), .val (.int b0)] [(.int (0 : Int32))]))
        obtain ⟨fs20, hr20, hrun20, hended20, hW20, hsame20⟩ := X0.leave (v := some (.int (0 : Int32))) (fun h => by rw [Bd.returns] at h; cases h)
        refine own_done (retN X0 hx (t := .boolean) Bd.returns (by simp) (hb hby d1_54) hr20) hrun20 hended20 ⟨_, _, rfl, ?_, ⟨_, rfl⟩, hW20, hsame20.mono (by decide) (by decide)⟩
        show Q1_1 Z a1 k b0 h0 n0 _ s₁.heap _
        rw [e0]
        exact ⟨by simp [own_bad, c10_13, c36_17, c43_19], N0, rfl⟩
      · refine own_go (XS.icmpNo X0.here hx rfl (hb hby d1_43) rfl (feq c43_19).1 (Steps.refl _)) ?_
        show own_Fin _ _ _ _ (s₁.setTop (mkF m 46 #[.val (.ref a1), .val (.ref a1), .val (.int (1 : Int32)), .val (.int (0 : Int32)), .val (.int b0)] []))
        refine own_go (XS.iload X0.here hx rfl (hb hby d1_46) rfl (Steps.refl _)) ?_
        show own_Fin _ _ _ _ (s₁.setTop (mkF m 48 #[.val (.ref a1), .val (.ref a1), .val (.int (1 : Int32)), .val (.int (0 : Int32)), .val (.int b0)] [(.int b0)]))
        refine own_go (XS.bipush X0.here hx rfl (hb hby d1_48) (Steps.refl _)) ?_
        show own_Fin _ _ _ _ (s₁.setTop (mkF m 50 #[.val (.ref a1), .val (.ref a1), .val (.int (1 : Int32)), .val (.int (0 : Int32)), .val (.int b0)] [(.int (13 : Int32)), (.int b0)]))
        by_cases c50_21 : b0 = (13 : Int32)
        · refine own_go (XS.icmpNo X0.here hx rfl (hb hby d1_50) rfl (teq c50_21).2 (Steps.refl _)) ?_
          show own_Fin _ _ _ _ (s₁.setTop (mkF m 53 #[.val (.ref a1), .val (.ref a1), .val (.int (1 : Int32)), .val (.int (0 : Int32)), .val (.int b0)] []))
          refine own_go (XS.iconst X0.here hx rfl (hb hby d1_53) (Steps.refl _)) ?_
          show own_Fin _ _ _ _ (s₁.setTop (mkF m 54 #[.val (.ref a1), .val (.ref a1), .val (.int (1 : Int32)), .val (.int (0 : Int32)), .val (.int b0)] [(.int (0 : Int32))]))
          obtain ⟨fs22, hr22, hrun22, hended22, hW22, hsame22⟩ := X0.leave (v := some (.int (0 : Int32))) (fun h => by rw [Bd.returns] at h; cases h)
          refine own_done (retN X0 hx (t := .boolean) Bd.returns (by simp) (hb hby d1_54) hr22) hrun22 hended22 ⟨_, _, rfl, ?_, ⟨_, rfl⟩, hW22, hsame22.mono (by decide) (by decide)⟩
          show Q1_1 Z a1 k b0 h0 n0 _ s₁.heap _
          rw [e0]
          exact ⟨by simp [own_bad, c10_13, c36_17, c43_19, c50_21], N0, rfl⟩
        · refine own_go (XS.icmpYes X0.here hx rfl (pc0 := 50) (pc' := 55) rfl (hb hby d1_50) rfl (feq c50_21).2 (by decide) (by decide) (Steps.refl _)) ?_
          show own_Fin _ _ _ _ (s₁.setTop (mkF m 55 #[.val (.ref a1), .val (.ref a1), .val (.int (1 : Int32)), .val (.int (0 : Int32)), .val (.int b0)] []))
          refine own_go (XS.iinc X0.here hx rfl (hb hby d1_55) rfl (l' := #[.val (.ref a1), .val (.ref a1), .val (.int (1 : Int32)), .val (.int (1 : Int32)), .val (.int b0)]) rfl (Steps.refl _)) ?_
          show own_Fin _ _ _ _ (s₁.setTop (mkF m 58 #[.val (.ref a1), .val (.ref a1), .val (.int (1 : Int32)), .val (.int (1 : Int32)), .val (.int b0)] []))
          refine own_go (XS.goto X0.here hx rfl (pc0 := 58) (pc' := 22) rfl (hb hby d1_58) (by decide) (by decide) (Steps.refl _)) ?_
          show own_Fin _ _ _ _ (s₁.setTop (mkF m 22 #[.val (.ref a1), .val (.ref a1), .val (.int (1 : Int32)), .val (.int (1 : Int32)), .val (.int b0)] []))
          refine own_go (XS.iloadN X0.here hx rfl (hb hby d1_22) rfl (Steps.refl _)) ?_
          show own_Fin _ _ _ _ (s₁.setTop (mkF m 23 #[.val (.ref a1), .val (.ref a1), .val (.int (1 : Int32)), .val (.int (1 : Int32)), .val (.int b0)] [(.int (1 : Int32))]))
          refine own_go (XS.iloadN X0.here hx rfl (hb hby d1_23) rfl (Steps.refl _)) ?_
          show own_Fin _ _ _ _ (s₁.setTop (mkF m 24 #[.val (.ref a1), .val (.ref a1), .val (.int (1 : Int32)), .val (.int (1 : Int32)), .val (.int b0)] [(.int (1 : Int32)), (.int (1 : Int32))]))
          refine own_go (XS.icmpYes X0.here hx rfl (pc0 := 24) (pc' := 61) rfl (hb hby d1_24) rfl (flt (by decide : ¬ ((1 : Int32) < (1 : Int32)))).2.1 (by decide) (by decide) (Steps.refl _)) ?_
          show own_Fin _ _ _ _ (s₁.setTop (mkF m 61 #[.val (.ref a1), .val (.ref a1), .val (.int (1 : Int32)), .val (.int (1 : Int32)), .val (.int b0)] []))
          refine own_go (XS.iconst X0.here hx rfl (hb hby d1_61) (Steps.refl _)) ?_
          show own_Fin _ _ _ _ (s₁.setTop (mkF m 62 #[.val (.ref a1), .val (.ref a1), .val (.int (1 : Int32)), .val (.int (1 : Int32)), .val (.int b0)] [(.int (1 : Int32))]))
          obtain ⟨fs23, hr23, hrun23, hended23, hW23, hsame23⟩ := X0.leave (v := some (.int (1 : Int32))) (fun h => by rw [Bd.returns] at h; cases h)
          refine own_done (retN X0 hx (t := .boolean) Bd.returns (by simp) (hb hby d1_62) hr23) hrun23 hended23 ⟨_, _, rfl, ?_, ⟨_, rfl⟩, hW23, hsame23.mono (by decide) (by decide)⟩
          show Q1_1 Z a1 k b0 h0 n0 _ s₁.heap _
          rw [e0]
          exact ⟨by simp [own_bad, c10_13, c36_17, c43_19, c50_21], N0, rfl⟩
theorem ef_1_2 (m : MethodId) (x0 : Addr) : entryFrame m #[(.ref x0)] 5 = mkF m 0 #[.val (.ref x0), .unset, .unset, .unset, .unset] [] := by first | (simp [entryFrame, mkF, argsToLocals, Value.category]; done) | rfl
def Q1_2 (Z : State) (a1 : Addr) (k : ClassId) (b0 : Int32) (b1 : Int32) (h0 : Heap) (n0 : Nat) (v : Option Value) (h : Heap) (L : List Loc) : Prop := v = some (.int (if (decide (b0 = 34) || own_bad b0 || own_bad b1) then (0 : Int32) else 1)) ∧ Fr n0 L ∧ h = h0
abbrev G1_2 (Z : State) (a1 : Addr) (k : ClassId) (b0 : Int32) (b1 : Int32) (h0 : Heap) (n0 : Nat) (s : State) : Outcome → State → Prop := fun o U' => ∃ v L, o = .returned v ∧ Q1_2 Z a1 k b0 b1 h0 n0 v U'.heap L ∧ FrameEnd s o U' L ({ frames := 0, cells := 0, slots := 0, locals := 0 } : Room).cells ({ frames := 0, cells := 0, slots := 0, locals := 0 } : Room).slots
set_option maxRecDepth 65536 in
set_option maxHeartbeats 40000000 in
theorem rm1_2 (l : Launch) (Z : State) (a0 : Array Value) (hw : ∀ d ∈ tables_1, d.before a0 Z = true) (ws : List Jvm.Cond) (a1 : Addr) (k : ClassId) (b0 : Int32) (b1 : Int32) (h0 : Heap) (n0 : Nat) (Z0 : n0 ≤ h0.size) (V_a1 : Arv Z h0 a1 k .byte (2 : Int32) [.int b0, .int b1] (.int (0 : Int32))) :
    MetFree l (⟨"com/example/gridtally/gridtally/casefile/FieldText", "isWhole", "([B)Z"⟩ : MethodName) (head1 (Jvm.Cond.code (⟨"com/example/gridtally/gridtally/casefile/FieldText", "isWhole", "([B)Z"⟩ : MethodName) prog_14_method_2_code 5 (some .boolean) :: ws) ({ frames := 0, cells := 0, slots := 0, locals := 0 } : Room)) (fun a U => a = #[(.ref a1)] ∧ Z.Warmed39 U.vm ∧ U.heap = h0) (fun _ _ _ _ _ => True) (fun _ U o U' => ∃ v L, o = .returned v ∧ Q1_2 Z a1 k b0 b1 h0 n0 v U'.heap L ∧ FrameEnd U o U' L ({ frames := 0, cells := 0, slots := 0, locals := 0 } : Room).cells ({ frames := 0, cells := 0, slots := 0, locals := 0 } : Room).slots) := by
  refine MetFree.of_bodySF (plainFor_of_name pn_com_example_gridtally_gridtally_casefile_FieldText) hisR ?_
  intro p e s m args below meth c s₁ Bd hml0 hP hK
  obtain ⟨rfl, hZ, hh⟩ := hP
  have hx := Bd.exec
  have hby := Bd.bytes
  have hml : c.maxLocals = 5 := hml0
  have hown : s.vm.findClass "com/example/gridtally/gridtally/casefile/FieldText" = some m.cls := findClass_of_methodNamed Bd.named
  have hnm := (name_of_methodNamed Bd.named Bd.method).1
  have X0 : Stand p l e ({ frames := 0, cells := 0, slots := 0, locals := 0 } : Room) s m #[(.ref a1)] below meth c s₁ [] 0 0 := Stand.of_body Bd
  have e0 : s₁.heap = h0 := by rw [← hh, Bd.state]; rfl
  have es0 : s.heap = h0 := hh
  have N0 := Fr.nil n0
  show own_Fin p e below (G1_2 Z a1 k b0 b1 h0 n0 s) (s₁.setTop (entryFrame m #[(.ref a1)] 5))
  rw [ef_1_2 m a1]
  refine own_go (XS.aloadN X0.here hx rfl (hb hby d1_0) rfl rfl (Steps.refl _)) ?_
  show own_Fin _ _ _ _ (s₁.setTop (mkF m 1 #[.val (.ref a1), .unset, .unset, .unset, .unset] [(.ref a1)]))
  obtain ⟨cl24, Ar24, qa24, Sa24, Na24, Ha24, Ga24⟩ := id V_a1
  refine own_by (X0.arraylength hx (by rw [e0]; exact Ar24.1) (State.isArrayOf_alike hZ.alike Ar24.2.1) (g := (mkF m 1 #[.val (.ref a1), .unset, .unset, .unset, .unset] [(.ref a1)])) rfl rfl (hb hby d1_1)) ?_
  rw [len_of Sa24 Na24]
  show own_Fin _ _ _ _ (s₁.setTop (mkF m 2 #[.val (.ref a1), .unset, .unset, .unset, .unset] [(.int (2 : Int32))]))
  refine own_go (XS.ifNo X0.here hx rfl (hb hby d1_2) rfl ((if0 _ _).trans (tlt (by decide : (0 : Int32) < (2 : Int32))).2.2.2) (Steps.refl _)) ?_
  show own_Fin _ _ _ _ (s₁.setTop (mkF m 5 #[.val (.ref a1), .unset, .unset, .unset, .unset] []))
  refine own_go (XS.aloadN X0.here hx rfl (hb hby d1_5) rfl rfl (Steps.refl _)) ?_
  show own_Fin _ _ _ _ (s₁.setTop (mkF m 6 #[.val (.ref a1), .unset, .unset, .unset, .unset] [(.ref a1)]))
  refine own_go (XS.iconst X0.here hx rfl (hb hby d1_6) (Steps.refl _)) ?_
  show own_Fin _ _ _ _ (s₁.setTop (mkF m 7 #[.val (.ref a1), .unset, .unset, .unset, .unset] [(.int (0 : Int32)), (.ref a1)]))
  obtain ⟨cl25, Ar25, qa25, Sa25, Na25, Ha25, Ga25⟩ := id V_a1
  have hin25 : ¬ ((0 : Int32) < 0 ∨ cl25.slots.size ≤ ((0 : Int32)).toNatClampNeg) := inb_of Sa25 ⟨by decide, by decide⟩
  have hat25 : cl25.slots[((0 : Int32)).toNatClampNeg]? = some (.int b0) := Has.at Ha25 hin25 rfl
  refine own_by (X0.baloadBytes hx (j := (0 : Int32)) (v := (.int b0)) (by rw [e0]; exact Ar25.1) (State.isArrayOf_alike hZ.alike Ar25.2.1) Ar25.2.2 hin25 hat25 (g := (mkF m 7 #[.val (.ref a1), .unset, .unset, .unset, .unset] [(.int (0 : Int32)), (.ref a1)])) rfl rfl (hb hby d1_7)) ?_
  show own_Fin _ _ _ _ (s₁.setTop (mkF m 8 #[.val (.ref a1), .unset, .unset, .unset, .unset] [(.int b0)]))
  refine own_go (XS.bipush X0.here hx rfl (hb hby d1_8) (Steps.refl _)) ?_
  show own_Fin _ _ _ _ (s₁.setTop (mkF m 10 #[.val (.ref a1), .unset, .unset, .unset, .unset] [(.int (34 : Int32)), (.int b0)]))
  by_cases c10_26 : b0 = (34 : Int32)
  · refine own_go (XS.icmpNo X0.here hx rfl (hb hby d1_10) rfl (teq c10_26).2 (Steps.refl _)) ?_
    show own_Fin _ _ _ _ (s₁.setTop (mkF m 13 #[.val (.ref a1), .unset, .unset, .unset, .unset] []))
    refine own_go (XS.iconst X0.here hx rfl (hb hby d1_13) (Steps.refl _)) ?_
    show own_Fin _ _ _ _ (s₁.setTop (mkF m 14 #[.val (.ref a1), .unset, .unset, .unset, .unset] [(.int (0 : Int32))]))
    obtain ⟨fs27, hr27, hrun27, hended27, hW27, hsame27⟩ := X0.leave (v := some (.int (0 : Int32))) (fun h => by rw [Bd.returns] at h; cases h)
    refine own_done (retN X0 hx (t := .boolean) Bd.returns (by simp) (hb hby d1_14) hr27) hrun27 hended27 ⟨_, _, rfl, ?_, ⟨_, rfl⟩, hW27, hsame27.mono (by decide) (by decide)⟩
    show Q1_2 Z a1 k b0 b1 h0 n0 _ s₁.heap _
    rw [e0]
    exact ⟨by simp [own_bad, c10_26], N0, rfl⟩
  · refine own_go (XS.icmpYes X0.here hx rfl (pc0 := 10) (pc' := 15) rfl (hb hby d1_10) rfl (feq c10_26).2 (by decide) (by decide) (Steps.refl _)) ?_
    show own_Fin _ _ _ _ (s₁.setTop (mkF m 15 #[.val (.ref a1), .unset, .unset, .unset, .unset] []))
    refine own_go (XS.aloadN X0.here hx rfl (hb hby d1_15) rfl rfl (Steps.refl _)) ?_
    show own_Fin _ _ _ _ (s₁.setTop (mkF m 16 #[.val (.ref a1), .unset, .unset, .unset, .unset] [(.ref a1)]))
    refine own_go (XS.astoreN X0.here hx rfl (hb hby d1_16) rfl rfl (l' := #[.val (.ref a1), .val (.ref a1), .unset, .unset, .unset]) rfl (Steps.refl _)) ?_
    show own_Fin _ _ _ _ (s₁.setTop (mkF m 17 #[.val (.ref a1), .val (.ref a1), .unset, .unset, .unset] []))
    refine own_go (XS.aloadN X0.here hx rfl (hb hby d1_17) rfl rfl (Steps.refl _)) ?_
    show own_Fin _ _ _ _ (s₁.setTop (mkF m 18 #[.val (.ref a1), .val (.ref a1), .unset, .unset, .unset] [(.ref a1)]))
    obtain ⟨cl28, Ar28, qa28, Sa28, Na28, Ha28, Ga28⟩ := id V_a1
    refine own_by (X0.arraylength hx (by rw [e0]; exact Ar28.1) (State.isArrayOf_alike hZ.alike Ar28.2.1) (g := (mkF m 18 #[.val (.ref a1), .val (.ref a1), .unset, .unset, .unset] [(.ref a1)])) rfl rfl (hb hby d1_18)) ?_
    rw [len_of Sa28 Na28]
    show own_Fin _ _ _ _ (s₁.setTop (mkF m 19 #[.val (.ref a1), .val (.ref a1), .unset, .unset, .unset] [(.int (2 : Int32))]))
    refine own_go (XS.istoreN X0.here hx rfl (hb hby d1_19) rfl (l' := #[.val (.ref a1), .val (.ref a1), .val (.int (2 : Int32)), .unset, .unset]) rfl (Steps.refl _)) ?_
    show own_Fin _ _ _ _ (s₁.setTop (mkF m 20 #[.val (.ref a1), .val (.ref a1), .val (.int (2 : Int32)), .unset, .unset] []))
    refine own_go (XS.iconst X0.here hx rfl (hb hby d1_20) (Steps.refl _)) ?_
    show own_Fin _ _ _ _ (s₁.setTop (mkF m 21 #[.val (.ref a1), .val (.ref a1), .val (.int (2 : Int32)), .unset, .unset] [(.int (0 : Int32))]))
    refine own_go (XS.istoreN X0.here hx rfl (hb hby d1_21) rfl (l' := #[.val (.ref a1), .val (.ref a1), .val (.int (2 : Int32)), .val (.int (0 : Int32)), .unset]) rfl (Steps.refl _)) ?_
    show own_Fin _ _ _ _ (s₁.setTop (mkF m 22 #[.val (.ref a1), .val (.ref a1), .val (.int (2 : Int32)), .val (.int (0 : Int32)), .unset] []))
    refine own_go (XS.iloadN X0.here hx rfl (hb hby d1_22) rfl (Steps.refl _)) ?_
    show own_Fin _ _ _ _ (s₁.setTop (mkF m 23 #[.val (.ref a1), .val (.ref a1), .val (.int (2 : Int32)), .val (.int (0 : Int32)), .unset] [(.int (0 : Int32))]))
    refine own_go (XS.iloadN X0.here hx rfl (hb hby d1_23) rfl (Steps.refl _)) ?_
    show own_Fin _ _ _ _ (s₁.setTop (mkF m 24 #[.val (.ref a1), .val (.ref a1), .val (.int (2 : Int32)), .val (.int (0 : Int32)), .unset] [(.int (2 : Int32)), (.int (0 : Int32))]))
    refine own_go (XS.icmpNo X0.here hx rfl (hb hby d1_24) rfl (tlt (by decide : (0 : Int32) < (2 : Int32))).2.1 (Steps.refl _)) ?_
    show own_Fin _ _ _ _ (s₁.setTop (mkF m 27 #[.val (.ref a1), .val (.ref a1), .val (.int (2 : Int32)), .val (.int (0 : Int32)), .unset] []))
    refine own_go (XS.aloadN X0.here hx rfl (hb hby d1_27) rfl rfl (Steps.refl _)) ?_
    show own_Fin _ _ _ _ (s₁.setTop (mkF m 28 #[.val (.ref a1), .val (.ref a1), .val (.int (2 : Int32)), .val (.int (0 : Int32)), .unset] [(.ref a1)]))
    refine own_go (XS.iloadN X0.here hx rfl (hb hby d1_28) rfl (Steps.refl _)) ?_
    show own_Fin _ _ _ _ (s₁.setTop (mkF m 29 #[.val (.ref a1), .val (.ref a1), .val (.int (2 : Int32)), .val (.int (0 : Int32)), .unset] [(.int (0 : Int32)), (.ref a1)]))
    obtain ⟨cl29, Ar29, qa29, Sa29, Na29, Ha29, Ga29⟩ := id V_a1
    have hin29 : ¬ ((0 : Int32) < 0 ∨ cl29.slots.size ≤ ((0 : Int32)).toNatClampNeg) := inb_of Sa29 ⟨by decide, by decide⟩
    have hat29 : cl29.slots[((0 : Int32)).toNatClampNeg]? = some (.int b0) := Has.at Ha29 hin29 rfl
    refine own_by (X0.baloadBytes hx (j := (0 : Int32)) (v := (.int b0)) (by rw [e0]; exact Ar29.1) (State.isArrayOf_alike hZ.alike Ar29.2.1) Ar29.2.2 hin29 hat29 (g := (mkF m 29 #[.val (.ref a1), .val (.ref a1), .val (.int (2 : Int32)), .val (.int (0 : Int32)), .unset] [(.int (0 : Int32)), (.ref a1)])) rfl rfl (hb hby d1_29)) ?_
    show own_Fin _ _ _ _ (s₁.setTop (mkF m 30 #[.val (.ref a1), .val (.ref a1), .val (.int (2 : Int32)), .val (.int (0 : Int32)), .unset] [(.int b0)]))
    refine own_go (XS.istore X0.here hx rfl (hb hby d1_30) rfl (l' := #[.val (.ref a1), .val (.ref a1), .val (.int (2 : Int32)), .val (.int (0 : Int32)), .val (.int b0)]) rfl (Steps.refl _)) ?_
    show own_Fin _ _ _ _ (s₁.setTop (mkF m 32 #[.val (.ref a1), .val (.ref a1), .val (.int (2 : Int32)), .val (.int (0 : Int32)), .val (.int b0)] []))
    refine own_go (XS.iload X0.here hx rfl (hb hby d1_32) rfl (Steps.refl _)) ?_
    show own_Fin _ _ _ _ (s₁.setTop (mkF m 34 #[.val (.ref a1), .val (.ref a1), .val (.int (2 : Int32)), .val (.int (0 : Int32)), .val (.int b0)] [(.int b0)]))
    refine own_go (XS.bipush X0.here hx rfl (hb hby d1_34) (Steps.refl _)) ?_
    show own_Fin _ _ _ _ (s₁.setTop (mkF m 36 #[.val (.ref a1), .val (.ref a1), .val (.int (2 : Int32)), .val (.int (0 : Int32)), .val (.int b0)] [(.int (44 : Int32)), (.int b0)]))
    by_cases c36_30 : b0 = (44 : Int32)
    · refine own_go (XS.icmpYes X0.here hx rfl (pc0 := 36) (pc' := 53) rfl (hb hby d1_36) rfl (teq c36_30).1 (by decide) (by decide) (Steps.refl _)) ?_
      show own_Fin _ _ _ _ (s₁.setTop (mkF m 53 #[.val (.ref a1), .val (.ref a1), .val (.int (2 : Int32)), .val (.int (0 : Int32)), .val (.int b0)] []))
      refine own_go (XS.iconst X0.here hx rfl (hb hby d1_53) (Steps.refl _)) ?_
      show own_Fin _ _ _ _ (s₁.setTop (mkF m 54 #[.val (.ref a1), .val (.ref a1), .val (.int (2 : Int32)), .val (.int (0 : Int32)), .val (.int b0)] [(.int (0 : Int32))]))
      obtain ⟨fs31, hr31, hrun31, hended31, hW31, hsame31⟩ := X0.leave (v := some (.int (0 : Int32))) (fun h => by rw [Bd.returns] at h; cases h)
      refine own_done (retN X0 hx (t := .boolean) Bd.returns (by simp) (hb hby d1_54) hr31) hrun31 hended31 ⟨_, _, rfl, ?_, ⟨_, rfl⟩, hW31, hsame31.mono (by decide) (by decide)⟩
      show Q1_2 Z a1 k b0 b1 h0 n0 _ s₁.heap _
      rw [e0]
      exact ⟨by simp [own_bad, c10_26, c36_30], N0, rfl⟩
    · refine own_go (XS.icmpNo X0.here hx rfl (hb hby d1_36) rfl (feq c36_30).1 (Steps.refl _)) ?_
      show own_Fin _ _ _ _ (s₁.setTop (mkF m 39 #[.val (.ref a1), .val (.ref a1), .val (.int (2 : Int32)), .val (.int (0 : Int32)), .val (.int b0)] []))
      refine own_go (XS.iload X0.here hx rfl (hb hby d1_39) rfl (Steps.refl _)) ?_
      show own_Fin _ _ _ _ (s₁.setTop (mkF m 41 #[.val (.ref a1), .val (.ref a1), .val (.int (2 : Int32)), .val (.int (0 : Int32)), .val (.int b0)] [(.int b0)]))
      refine own_go (XS.bipush X0.here hx rfl (hb hby d1_41) (Steps.refl _)) ?_
      show own_Fin _ _ _ _ (s₁.setTop (mkF m 43 #[.val (.ref a1), .val (.ref a1), .val (.int (2 : Int32)), .val (.int (0 : Int32)), .val (.int b0)] [(.int (10 : Int32)), (.int b0)]))
      by_cases c43_32 : b0 = (10 : Int32)
      · refine own_go (XS.icmpYes X0.here hx rfl (pc0 := 43) (pc' := 53) rfl (hb hby d1_43) rfl (teq c43_32).1 (by decide) (by decide) (Steps.refl _)) ?_
        show own_Fin _ _ _ _ (s₁.setTop (mkF m 53 #[.val (.ref a1), .val (.ref a1), .val (.int (2 : Int32)), .val (.int (0 : Int32)), .val (.int b0)] []))
        refine own_go (XS.iconst X0.here hx rfl (hb hby d1_53) (Steps.refl _)) ?_
        show own_Fin _ _ _ _ (s₁.setTop (mkF m 54 #[.val (.ref a1), .val (.ref a1), .val (.int (2 : Int32)), .val (.int (0 : Int32)), .val (.int b0)] [(.int (0 : Int32))]))
        obtain ⟨fs33, hr33, hrun33, hended33, hW33, hsame33⟩ := X0.leave (v := some (.int (0 : Int32))) (fun h => by rw [Bd.returns] at h; cases h)
        refine own_done (retN X0 hx (t := .boolean) Bd.returns (by simp) (hb hby d1_54) hr33) hrun33 hended33 ⟨_, _, rfl, ?_, ⟨_, rfl⟩, hW33, hsame33.mono (by decide) (by decide)⟩
        show Q1_2 Z a1 k b0 b1 h0 n0 _ s₁.heap _
        rw [e0]
        exact ⟨by simp [own_bad, c10_26, c36_30, c43_32], N0, rfl⟩
      · refine own_go (XS.icmpNo X0.here hx rfl (hb hby d1_43) rfl (feq c43_32).1 (Steps.refl _)) ?_
        show own_Fin _ _ _ _ (s₁.setTop (mkF m 46 #[.val (.ref a1), .val (.ref a1), .val (.int (2 : Int32)), .val (.int (0 : Int32)), .val (.int b0)] []))
        refine own_go (XS.iload X0.here hx rfl (hb hby d1_46) rfl (Steps.refl _)) ?_
        show own_Fin _ _ _ _ (s₁.setTop (mkF m 48 #[.val (.ref a1), .val (.ref a1), .val (.int (2 : Int32)), .val (.int (0 : Int32)), .val (.int b0)] [(.int b0)]))
        refine own_go (XS.bipush X0.here hx rfl (hb hby d1_48) (Steps.refl _)) ?_
        show own_Fin _ _ _ _ (s₁.setTop (mkF m 50 #[.val (.ref a1), .val (.ref a1), .val (.int (2 : Int32)), .val (.int (0 : Int32)), .val (.int b0)] [(.int (13 : Int32)), (.int b0)]))
        by_cases c50_34 : b0 = (13 : Int32)
        · refine own_go (XS.icmpNo X0.here hx rfl (hb hby d1_50) rfl (teq c50_34).2 (Steps.refl _)) ?_
          show own_Fin _ _ _ _ (s₁.setTop (mkF m 53 #[.val (.ref a1), .val (.ref a1), .val (.int (2 : Int32)), .val (.int (0 : Int32)), .val (.int b0)] []))
          refine own_go (XS.iconst X0.here hx rfl (hb hby d1_53) (Steps.refl _)) ?_
          show own_Fin _ _ _ _ (s₁.setTop (mkF m 54 #[.val (.ref a1), .val (.ref a1), .val (.int (2 : Int32)), .val (.int (0 : Int32)), .val (.int b0)] [(.int (0 : Int32))]))
          obtain ⟨fs35, hr35, hrun35, hended35, hW35, hsame35⟩ := X0.leave (v := some (.int (0 : Int32))) (fun h => by rw [Bd.returns] at h; cases h)
          refine own_done (retN X0 hx (t := .boolean) Bd.returns (by simp) (hb hby d1_54) hr35) hrun35 hended35 ⟨_, _, rfl, ?_, ⟨_, rfl⟩, hW35, hsame35.mono (by decide) (by decide)⟩
          show Q1_2 Z a1 k b0 b1 h0 n0 _ s₁.heap _
          rw [e0]
          exact ⟨by simp [own_bad, c10_26, c36_30, c43_32, c50_34], N0, rfl⟩
        · refine own_go (XS.icmpYes X0.here hx rfl (pc0 := 50) (pc' := 55) rfl (hb hby d1_50) rfl (feq c50_34).2 (by decide) (by decide) (Steps.refl _)) ?_
          show own_Fin _ _ _ _ (s₁.setTop (mkF m 55 #[.val (.ref a1), .val (.ref a1), .val (.int (2 : Int32)), .val (.int (0 : Int32)), .val (.int b0)] []))
          refine own_go (XS.iinc X0.here hx rfl (hb hby d1_55) rfl (l' := #[.val (.ref a1), .val (.ref a1), .val (.int (2 : Int32)), .val (.int (1 : Int32)), .val (.int b0)]) rfl (Steps.refl _)) ?_
          show own_Fin _ _ _ _ (s₁.setTop (mkF m 58 #[.val (.ref a1), .val (.ref a1), .val (.int (2 : Int32)), .val (.int (1 : Int32)), .val (.int b0)] []))
          refine own_go (XS.goto X0.here hx rfl (pc0 := 58) (pc' := 22) rfl (hb hby d1_58) (by decide) (by decide) (Steps.refl _)) ?_
          show own_Fin _ _ _ _ (s₁.setTop (mkF m 22 #[.val (.ref a1), .val (.ref a1), .val (.int (2 : Int32)), .val (.int (1 : Int32)), .val (.int b0)] []))
          refine own_go (XS.iloadN X0.here hx rfl (hb hby d1_22) rfl (Steps.refl _)) ?_
          show own_Fin _ _ _ _ (s₁.setTop (mkF m 23 #[.val (.ref a1), .val (.ref a1), .val (.int (2 : Int32)), .val (.int (1 : Int32)), .val (.int b0)] [(.int (1 : Int32))]))
          refine own_go (XS.iloadN X0.here hx rfl (hb hby d1_23) rfl (Steps.refl _)) ?_
          show own_Fin _ _ _ _ (s₁.setTop (mkF m 24 #[.val (.ref a1), .val (.ref a1), .val (.int (2 : Int32)), .val (.int (1 : Int32)), .val (.int b0)] [(.int (2 : Int32)), (.int (1 : Int32))]))
          refine own_go (XS.icmpNo X0.here hx rfl (hb hby d1_24) rfl (tlt (by decide : (1 : Int32) < (2 : Int32))).2.1 (Steps.refl _)) ?_
          show own_Fin _ _ _ _ (s₁.setTop (mkF m 27 #[.val (.ref a1), .val (.ref a1), .val (.int (2 : Int32)), .val (.int (1 : Int32)), .val (.int b0)] []))
          refine own_go (XS.aloadN X0.here hx rfl (hb hby d1_27) rfl rfl (Steps.refl _)) ?_
          show own_Fin _ _ _ _ (s₁.setTop (mkF m 28 #[.val (.ref a1), .val (.ref a1), .val (.int (2 : Int32)), .val (.int (1 : Int32)), .val (.int b0)] [(.ref a1)]))
          refine own_go (XS.iloadN X0.here hx rfl (hb hby d1_28) rfl (Steps.refl _)) ?_
          show own_Fin _ _ _ _ (s₁.setTop (mkF m 29 #[.val (.ref a1), .val (.ref a1), .val (.int (2 : Int32)), .val (.int (1 : Int32)), .val (.int b0)] [(.int (1 : Int32)), (.ref a1)]))
          obtain ⟨cl36, Ar36, qa36, Sa36, Na36, Ha36, Ga36⟩ := id V_a1
          have hin36 : ¬ ((1 : Int32) < 0 ∨ cl36.slots.size ≤ ((1 : Int32)).toNatClampNeg) := inb_of Sa36 ⟨by decide, by decide⟩
          have hat36 : cl36.slots[((1 : Int32)).toNatClampNeg]? = some (.int b1) := Has.at Ha36 hin36 rfl
          refine own_by (X0.baloadBytes hx (j := (1 : Int32)) (v := (.int b1)) (by rw [e0]; exact Ar36.1) (State.isArrayOf_alike hZ.alike Ar36.2.1) Ar36.2.2 hin36 hat36 (g := (mkF m 29 #[.val (.ref a1), .val (.ref a1), .val (.int (2 : Int32)), .val (.int (1 : Int32)), .val (.int b0)] [(.int (1 : Int32)), (.ref a1)])) rfl rfl (hb hby d1_29)) ?_
          show own_Fin _ _ _ _ (s₁.setTop (mkF m 30 #[.val (.ref a1), .val (.ref a1), .val (.int (2 : Int32)), .val (.int (1 : Int32)), .val (.int b0)] [(.int b1)]))
          refine own_go (XS.istore X0.here hx rfl (hb hby d1_30) rfl (l' := #[.val (.ref a1), .val (.ref a1), .val (.int (2 : Int32)), .val (.int (1 : Int32)), .val (.int b1)]) rfl (Steps.refl _)) ?_
          show own_Fin _ _ _ _ (s₁.setTop (mkF m 32 #[.val (.ref a1), .val (.ref a1), .val (.int (2 : Int32)), .val (.int (1 : Int32)), .val (.int b1)] []))
          refine own_go (XS.iload X0.here hx rfl (hb hby d1_32) rfl (Steps.refl _)) ?_
          show own_Fin _ _ _ _ (s₁.setTop (mkF m 34 #[.val (.ref a1), .val (.ref a1), .val (.int (2 : Int32)), .val (.int (1 : Int32)), .val (.int b1)] [(.int b1)]))
          refine own_go (XS.bipush X0.here hx rfl (hb hby d1_34) (Steps.refl _)) ?_
          show own_Fin _ _ _ _ (s₁.setTop (mkF m 36 #[.val (.ref a1), .val (.ref a1), .val (.int (2 : Int32)), .val (.int (1 : Int32)), .val (.int b1)] [(.int (44 : Int32)), (.int b1)]))
          by_cases c36_37 : b1 = (44 : Int32)
          · refine own_go (XS.icmpYes X0.here hx rfl (pc0 := 36) (pc' := 53) rfl (hb hby d1_36) rfl (teq c36_37).1 (by decide) (by decide) (Steps.refl _)) ?_
            show own_Fin _ _ _ _ (s₁.setTop (mkF m 53 #[.val (.ref a1), .val (.ref a1), .val (.int (2 : Int32)), .val (.int (1 : Int32)), .val (.int b1)] []))
            refine own_go (XS.iconst X0.here hx rfl (hb hby d1_53) (Steps.refl _)) ?_
            show own_Fin _ _ _ _ (s₁.setTop (mkF m 54 #[.val (.ref a1), .val (.ref a1), .val (.int (2 : Int32)), .val (.int (1 : Int32)), .val (.int b1)] [(.int (0 : Int32))]))
            obtain ⟨fs38, hr38, hrun38, hended38, hW38, hsame38⟩ := X0.leave (v := some (.int (0 : Int32))) (fun h => by rw [Bd.returns] at h; cases h)
            refine own_done (retN X0 hx (t := .boolean) Bd.returns (by simp) (hb hby d1_54) hr38) hrun38 hended38 ⟨_, _, rfl, ?_, ⟨_, rfl⟩, hW38, hsame38.mono (by decide) (by decide)⟩
            show Q1_2 Z a1 k b0 b1 h0 n0 _ s₁.heap _
            rw [e0]
            exact ⟨by simp [own_bad, c10_26, c36_30, c43_32, c50_34, c36_37], N0, rfl⟩
          · refine own_go (XS.icmpNo X0.here hx rfl (hb hby d1_36) rfl (feq c36_37).1 (Steps.refl _)) ?_
            show own_Fin _ _ _ _ (s₁.setTop (mkF m 39 #[.val (.ref a1), .val (.ref a1), .val (.int (2 : Int32)), .val (.int (1 : Int32)), .val (.int b1)] []))
            refine own_go (XS.iload X0.here hx rfl (hb hby d1_39) rfl (Steps.refl _)) ?_
            show own_Fin _ _ _ _ (s₁.setTop (mkF m 41 #[.val (.ref a1), .val (.ref a1), .val (.int (2 : Int32)), .val (.int (1 : Int32)), .val (.int b1)] [(.int b1)]))
            refine own_go (XS.bipush X0.here hx rfl (hb hby d1_41) (Steps.refl _)) ?_
            show own_Fin _ _ _ _ (s₁.setTop (mkF m 43 #[.val (.ref a1), .val (.ref a1), .val (.int (2 : Int32)), .val (.int (1 : Int32)), .val (.int b1)] [(.int (10 : Int32)), (.int b1)]))
            by_cases c43_39 : b1 = (10 : Int32)
            · refine own_go (XS.icmpYes X0.here hx rfl (pc0 := 43) (pc' := 53) rfl (hb hby d1_43) rfl (teq c43_39).1 (by decide) (by decide) (Steps.refl _)) ?_
              show own_Fin _ _ _ _ (s₁.setTop (mkF m 53 #[.val (.ref a1), .val (.ref a1), .val (.int (2 : Int32)), .val (.int (1 : Int32)), .val (.int b1)] []))
              refine own_go (XS.iconst X0.here hx rfl (hb hby d1_53) (Steps.refl _)) ?_
              show own_Fin _ _ _ _ (s₁.setTop (mkF m 54 #[.val (.ref a1), .val (.ref a1), .val (.int (2 : Int32)), .val (.int (1 : Int32)), .val (.int b1)] [(.int (0 : Int32))]))
              obtain ⟨fs40, hr40, hrun40, hended40, hW40, hsame40⟩ := X0.leave (v := some (.int (0 : Int32))) (fun h => by rw [Bd.returns] at h; cases h)
              refine own_done (retN X0 hx (t := .boolean) Bd.returns (by simp) (hb hby d1_54) hr40) hrun40 hended40 ⟨_, _, rfl, ?_, ⟨_, rfl⟩, hW40, hsame40.mono (by decide) (by decide)⟩
              show Q1_2 Z a1 k b0 b1 h0 n0 _ s₁.heap _
              rw [e0]
              exact ⟨by simp [own_bad, c10_26, c36_30, c43_32, c50_34, c36_37, c43_39], N0, rfl⟩
            · refine own_go (XS.icmpNo X0.here hx rfl (hb hby d1_43) rfl (feq c43_39).1 (Steps.refl _)) ?_
              show own_Fin _ _ _ _ (s₁.setTop (mkF m 46 #[.val (.ref a1), .val (.ref a1), .val (.int (2 : Int32)), .val (.int (1 : Int32)), .val (.int b1)] []))
              refine own_go (XS.iload X0.here hx rfl (hb hby d1_46) rfl (Steps.refl _)) ?_
              show own_Fin _ _ _ _ (s₁.setTop (mkF m 48 #[.val (.ref a1), .val (.ref a1), .val (.int (2 : Int32)), .val (.int (1 : Int32)), .val (.int b1)] [(.int b1)]))
              refine own_go (XS.bipush X0.here hx rfl (hb hby d1_48) (Steps.refl _)) ?_
              show own_Fin _ _ _ _ (s₁.setTop (mkF m 50 #[.val (.ref a1), .val (.ref a1), .val (.int (2 : Int32)), .val (.int (1 : Int32)), .val (.int b1)] [(.int (13 : Int32)), (.int b1)]))
              by_cases c50_41 : b1 = (13 : Int32)
              · refine own_go (XS.icmpNo X0.here hx rfl (hb hby d1_50) rfl (teq c50_41).2 (Steps.refl _)) ?_
                show own_Fin _ _ _ _ (s₁.setTop (mkF m 53 #[.val (.ref a1), .val (.ref a1), .val (.int (2 : Int32)), .val (.int (1 : Int32)), .val (.int b1)] []))
                refine own_go (XS.iconst X0.here hx rfl (hb hby d1_53) (Steps.refl _)) ?_
                show own_Fin _ _ _ _ (s₁.setTop (mkF m 54 #[.val (.ref a1), .val (.ref a1), .val (.int (2 : Int32)), .val (.int (1 : Int32)), .val (.int b1)] [(.int (0 : Int32))]))
                obtain ⟨fs42, hr42, hrun42, hended42, hW42, hsame42⟩ := X0.leave (v := some (.int (0 : Int32))) (fun h => by rw [Bd.returns] at h; cases h)
                refine own_done (retN X0 hx (t := .boolean) Bd.returns (by simp) (hb hby d1_54) hr42) hrun42 hended42 ⟨_, _, rfl, ?_, ⟨_, rfl⟩, hW42, hsame42.mono (by decide) (by decide)⟩
                show Q1_2 Z a1 k b0 b1 h0 n0 _ s₁.heap _
                rw [e0]
                exact ⟨by simp [own_bad, c10_26, c36_30, c43_32, c50_34, c36_37, c43_39, c50_41], N0, rfl⟩
              · refine own_go (XS.icmpYes X0.here hx rfl (pc0 := 50) (pc' := 55) rfl (hb hby d1_50) rfl (feq c50_41).2 (by decide) (by decide) (Steps.refl _)) ?_
                show own_Fin _ _ _ _ (s₁.setTop (mkF m 55 #[.val (.ref a1), .val (.ref a1), .val (.int (2 : Int32)), .val (.int (1 : Int32)), .val (.int b1)] []))
                refine own_go (XS.iinc X0.here hx rfl (hb hby d1_55) rfl (l' := #[.val (.ref a1), .val (.ref a1), .val (.int (2 : Int32)), .val (.int (2 : Int32)), .val (.int b1)]) rfl (Steps.refl _)) ?_
                show own_Fin _ _ _ _ (s₁.setTop (mkF m 58 #[.val (.ref a1), .val (.ref a1), .val (.int (2 : Int32)), .val (.int (2 : Int32)), .val (.int b1)] []))
                refine own_go (XS.goto X0.here hx rfl (pc0 := 58) (pc' := 22) rfl (hb hby d1_58) (by decide) (by decide) (Steps.refl _)) ?_
                show own_Fin _ _ _ _ (s₁.setTop (mkF m 22 #[.val (.ref a1), .val (.ref a1), .val (.int (2 : Int32)), .val (.int (2 : Int32)), .val (.int b1)] []))
                refine own_go (XS.iloadN X0.here hx rfl (hb hby d1_22) rfl (Steps.refl _)) ?_
                show own_Fin _ _ _ _ (s₁.setTop (mkF m 23 #[.val (.ref a1), .val (.ref a1), .val (.int (2 : Int32)), .val (.int (2 : Int32)), .val (.int b1)] [(.int (2 : Int32))]))
                refine own_go (XS.iloadN X0.here hx rfl (hb hby d1_23) rfl (Steps.refl _)) ?_
                show own_Fin _ _ _ _ (s₁.setTop (mkF m 24 #[.val (.ref a1), .val (.ref a1), .val (.int (2 : Int32)), .val (.int (2 : Int32)), .val (.int b1)] [(.int (2 : Int32)), (.int (2 : Int32))]))
                refine own_go (XS.icmpYes X0.here hx rfl (pc0 := 24) (pc' := 61) rfl (hb hby d1_24) rfl (flt (by decide : ¬ ((2 : Int32) < (2 : Int32)))).2.1 (by decide) (by decide) (Steps.refl _)) ?_
                show own_Fin _ _ _ _ (s₁.setTop (mkF m 61 #[.val (.ref a1), .val (.ref a1), .val (.int (2 : Int32)), .val (.int (2 : Int32)), .val (.int b1)] []))
                refine own_go (XS.iconst X0.here hx rfl (hb hby d1_61) (Steps.refl _)) ?_
                show own_Fin _ _ _ _ (s₁.setTop (mkF m 62 #[.val (.ref a1), .val (.ref a1), .val (.int (2 : Int32)), .val (.int (2 : Int32)), .val (.int b1)] [(.int (1 : Int32))]))
                obtain ⟨fs43, hr43, hrun43, hended43, hW43, hsame43⟩ := X0.leave (v := some (.int (1 : Int32))) (fun h => by rw [Bd.returns] at h; cases h)
                refine own_done (retN X0 hx (t := .boolean) Bd.returns (by simp) (hb hby d1_62) hr43) hrun43 hended43 ⟨_, _, rfl, ?_, ⟨_, rfl⟩, hW43, hsame43.mono (by decide) (by decide)⟩
                show Q1_2 Z a1 k b0 b1 h0 n0 _ s₁.heap _
                rw [e0]
                exact ⟨by simp [own_bad, c10_26, c36_30, c43_32, c50_34, c36_37, c43_39, c50_41], N0, rfl⟩
theorem ef_1_3 (m : MethodId) (x0 : Addr) : entryFrame m #[(.ref x0)] 5 = mkF m 0 #[.val (.ref x0), .unset, .unset, .unset, .unset] [] := by first | (simp [entryFrame, mkF, argsToLocals, Value.category]; done) | rfl
def Q1_3 (Z : State) (a1 : Addr) (k : ClassId) (b0 : Int32) (b1 : Int32) (b2 : Int32) (h0 : Heap) (n0 : Nat) (v : Option Value) (h : Heap) (L : List Loc) : Prop := v = some (.int (if (decide (b0 = 34) || own_bad b0 || own_bad b1 || own_bad b2) then (0 : Int32) else 1)) ∧ Fr n0 L ∧ h = h0
abbrev G1_3 (Z : State) (a1 : Addr) (k : ClassId) (b0 : Int32) (b1 : Int32) (b2 : Int32) (h0 : Heap) (n0 : Nat) (s : State) : Outcome → State → Prop := fun o U' => ∃ v L, o = .returned v ∧ Q1_3 Z a1 k b0 b1 b2 h0 n0 v U'.heap L ∧ FrameEnd s o U' L ({ frames := 0, cells := 0, slots := 0, locals := 0 } : Room).cells ({ frames := 0, cells := 0, slots := 0, locals := 0 } : Room).slots
set_option maxRecDepth 65536 in
set_option maxHeartbeats 40000000 in
theorem rm1_3 (l : Launch) (Z : State) (a0 : Array Value) (hw : ∀ d ∈ tables_1, d.before a0 Z = true) (ws : List Jvm.Cond) (a1 : Addr) (k : ClassId) (b0 : Int32) (b1 : Int32) (b2 : Int32) (h0 : Heap) (n0 : Nat) (Z0 : n0 ≤ h0.size) (V_a1 : Arv Z h0 a1 k .byte (3 : Int32) [.int b0, .int b1, .int b2] (.int (0 : Int32))) :
    MetFree l (⟨"com/example/gridtally/gridtally/casefile/FieldText", "isWhole", "([B)Z"⟩ : MethodName) (head1 (Jvm.Cond.code (⟨"com/example/gridtally/gridtally/casefile/FieldText", "isWhole", "([B)Z"⟩ : MethodName) prog_14_method_2_code 5 (some .boolean) :: ws) ({ frames := 0, cells := 0, slots := 0, locals := 0 } : Room)) (fun a U => a = #[(.ref a1)] ∧ Z.Warmed39 U.vm ∧ U.heap = h0) (fun _ _ _ _ _ => True) (fun _ U o U' => ∃ v L, o = .returned v ∧ Q1_3 Z a1 k b0 b1 b2 h0 n0 v U'.heap L ∧ FrameEnd U o U' L ({ frames := 0, cells := 0, slots := 0, locals := 0 } : Room).cells ({ frames := 0, cells := 0, slots := 0, locals := 0 } : Room).slots) := by
  refine MetFree.of_bodySF (plainFor_of_name pn_com_example_gridtally_gridtally_casefile_FieldText) hisR ?_
  intro p e s m args below meth c s₁ Bd hml0 hP hK
  obtain ⟨rfl, hZ, hh⟩ := hP
  have hx := Bd.exec
  have hby := Bd.bytes
  have hml : c.maxLocals = 5 := hml0
  have hown : s.vm.findClass "com/example/gridtally/gridtally/casefile/FieldText" = some m.cls := findClass_of_methodNamed Bd.named
  have hnm := (name_of_methodNamed Bd.named Bd.method).1
  have X0 : Stand p l e ({ frames := 0, cells := 0, slots := 0, locals := 0 } : Room) s m #[(.ref a1)] below meth c s₁ [] 0 0 := Stand.of_body Bd
  have e0 : s₁.heap = h0 := by rw [← hh, Bd.state]; rfl
  have es0 : s.heap = h0 := hh
  have N0 := Fr.nil n0
  show own_Fin p e below (G1_3 Z a1 k b0 b1 b2 h0 n0 s) (s₁.setTop (entryFrame m #[(.ref a1)] 5))
  rw [ef_1_3 m a1]
  refine own_go (XS.aloadN X0.here hx rfl (hb hby d1_0) rfl rfl (Steps.refl _)) ?_
  show own_Fin _ _ _ _ (s₁.setTop (mkF m 1 #[.val (.ref a1), .unset, .unset, .unset, .unset] [(.ref a1)]))
  obtain ⟨cl44, Ar44, qa44, Sa44, Na44, Ha44, Ga44⟩ := id V_a1
  refine own_by (X0.arraylength hx (by rw [e0]; exact Ar44.1) (State.isArrayOf_alike hZ.alike Ar44.2.1) (g := (mkF m 1 #[.val (.ref a1), .unset, .unset, .unset, .unset] [(.ref a1)])) rfl rfl (hb hby d1_1)) ?_
  rw [len_of Sa44 Na44]
  show own_Fin _ _ _ _ (s₁.setTop (mkF m 2 #[.val (.ref a1), .unset, .unset, .unset, .unset] [(.int (3 : Int32))]))
  refine own_go (XS.ifNo X0.here hx rfl (hb hby d1_2) rfl ((if0 _ _).trans (tlt (by decide : (0 : Int32) < (3 : Int32))).2.2.2) (Steps.refl _)) ?_
  show own_Fin _ _ _ _ (s₁.setTop (mkF m 5 #[.val (.ref a1), .unset, .unset, .unset, .unset] []))
  refine own_go (XS.aloadN X0.here hx rfl (hb hby d1_5) rfl rfl (Steps.refl _)) ?_
  show own_Fin _ _ _ _ (s₁.setTop (mkF m 6 #[.val (.ref a1), .unset, .unset, .unset, .unset] [(.ref a1)]))
  refine own_go (XS.iconst X0.here hx rfl (hb hby d1_6) (Steps.refl _)) ?_
  show own_Fin _ _ _ _ (s₁.setTop (mkF m 7 #[.val (.ref a1), .unset, .unset, .unset, .unset] [(.int (0 : Int32)), (.ref a1)]))
  obtain ⟨cl45, Ar45, qa45, Sa45, Na45, Ha45, Ga45⟩ := id V_a1
  have hin45 : ¬ ((0 : Int32) < 0 ∨ cl45.slots.size ≤ ((0 : Int32)).toNatClampNeg) := inb_of Sa45 ⟨by decide, by decide⟩
  have hat45 : cl45.slots[((0 : Int32)).toNatClampNeg]? = some (.int b0) := Has.at Ha45 hin45 rfl
  refine own_by (X0.baloadBytes hx (j := (0 : Int32)) (v := (.int b0)) (by rw [e0]; exact Ar45.1) (State.isArrayOf_alike hZ.alike Ar45.2.1) Ar45.2.2 hin45 hat45 (g := (mkF m 7 #[.val (.ref a1), .unset, .unset, .unset, .unset] [(.int (0 : Int32)), (.ref a1)])) rfl rfl (hb hby d1_7)) ?_
  show own_Fin _ _ _ _ (s₁.setTop (mkF m 8 #[.val (.ref a1), .unset, .unset, .unset, .unset] [(.int b0)]))
  refine own_go (XS.bipush X0.here hx rfl (hb hby d1_8) (Steps.refl _)) ?_
  show own_Fin _ _ _ _ (s₁.setTop (mkF m 10 #[.val (.ref a1), .unset, .unset, .unset, .unset] [(.int (34 : Int32)), (.int b0)]))
  by_cases c10_46 : b0 = (34 : Int32)
  · refine own_go (XS.icmpNo X0.here hx rfl (hb hby d1_10) rfl (teq c10_46).2 (Steps.refl _)) ?_
    show own_Fin _ _ _ _ (s₁.setTop (mkF m 13 #[.val (.ref a1), .unset, .unset, .unset, .unset] []))
    refine own_go (XS.iconst X0.here hx rfl (hb hby d1_13) (Steps.refl _)) ?_
    show own_Fin _ _ _ _ (s₁.setTop (mkF m 14 #[.val (.ref a1), .unset, .unset, .unset, .unset] [(.int (0 : Int32))]))
    obtain ⟨fs47, hr47, hrun47, hended47, hW47, hsame47⟩ := X0.leave (v := some (.int (0 : Int32))) (fun h => by rw [Bd.returns] at h; cases h)
    refine own_done (retN X0 hx (t := .boolean) Bd.returns (by simp) (hb hby d1_14) hr47) hrun47 hended47 ⟨_, _, rfl, ?_, ⟨_, rfl⟩, hW47, hsame47.mono (by decide) (by decide)⟩
    show Q1_3 Z a1 k b0 b1 b2 h0 n0 _ s₁.heap _
    rw [e0]
    exact ⟨by simp [own_bad, c10_46], N0, rfl⟩
  · refine own_go (XS.icmpYes X0.here hx rfl (pc0 := 10) (pc' := 15) rfl (hb hby d1_10) rfl (feq c10_46).2 (by decide) (by decide) (Steps.refl _)) ?_
    show own_Fin _ _ _ _ (s₁.setTop (mkF m 15 #[.val (.ref a1), .unset, .unset, .unset, .unset] []))
    refine own_go (XS.aloadN X0.here hx rfl (hb hby d1_15) rfl rfl (Steps.refl _)) ?_
    show own_Fin _ _ _ _ (s₁.setTop (mkF m 16 #[.val (.ref a1), .unset, .unset, .unset, .unset] [(.ref a1)]))
    refine own_go (XS.astoreN X0.here hx rfl (hb hby d1_16) rfl rfl (l' := #[.val (.ref a1), .val (.ref a1), .unset, .unset, .unset]) rfl (Steps.refl _)) ?_
    show own_Fin _ _ _ _ (s₁.setTop (mkF m 17 #[.val (.ref a1), .val (.ref a1), .unset, .unset, .unset] []))
    refine own_go (XS.aloadN X0.here hx rfl (hb hby d1_17) rfl rfl (Steps.refl _)) ?_
    show own_Fin _ _ _ _ (s₁.setTop (mkF m 18 #[.val (.ref a1), .val (.ref a1), .unset, .unset, .unset] [(.ref a1)]))
    obtain ⟨cl48, Ar48, qa48, Sa48, Na48, Ha48, Ga48⟩ := id V_a1
    refine own_by (X0.arraylength hx (by rw [e0]; exact Ar48.1) (State.isArrayOf_alike hZ.alike Ar48.2.1) (g := (mkF m 18 #[.val (.ref a1), .val (.ref a1), .unset, .unset, .unset] [(.ref a1)])) rfl rfl (hb hby d1_18)) ?_
    rw [len_of Sa48 Na48]
    show own_Fin _ _ _ _ (s₁.setTop (mkF m 19 #[.val (.ref a1), .val (.ref a1), .unset, .unset, .unset] [(.int (3 : Int32))]))
    refine own_go (XS.istoreN X0.here hx rfl (hb hby d1_19) rfl (l' := #[.val (.ref a1), .val (.ref a1), .val (.int (3 : Int32)), .unset, .unset]) rfl (Steps.refl _)) ?_
    show own_Fin _ _ _ _ (s₁.setTop (mkF m 20 #[.val (.ref a1), .val (.ref a1), .val (.int (3 : Int32)), .unset, .unset] []))
    refine own_go (XS.iconst X0.here hx rfl (hb hby d1_20) (Steps.refl _)) ?_
    show own_Fin _ _ _ _ (s₁.setTop (mkF m 21 #[.val (.ref a1), .val (.ref a1), .val (.int (3 : Int32)), .unset, .unset] [(.int (0 : Int32))]))
    refine own_go (XS.istoreN X0.here hx rfl (hb hby d1_21) rfl (l' := #[.val (.ref a1), .val (.ref a1), .val (.int (3 : Int32)), .val (.int (0 : Int32)), .unset]) rfl (Steps.refl _)) ?_
    show own_Fin _ _ _ _ (s₁.setTop (mkF m 22 #[.val (.ref a1), .val (.ref a1), .val (.int (3 : Int32)), .val (.int (0 : Int32)), .unset] []))
    refine own_go (XS.iloadN X0.here hx rfl (hb hby d1_22) rfl (Steps.refl _)) ?_
    show own_Fin _ _ _ _ (s₁.setTop (mkF m 23 #[.val (.ref a1), .val (.ref a1), .val (.int (3 : Int32)), .val (.int (0 : Int32)), .unset] [(.int (0 : Int32))]))
    refine own_go (XS.iloadN X0.here hx rfl (hb hby d1_23) rfl (Steps.refl _)) ?_
    show own_Fin _ _ _ _ (s₁.setTop (mkF m 24 #[.val (.ref a1), .val (.ref a1), .val (.int (3 : Int32)), .val (.int (0 : Int32)), .unset] [(.int (3 : Int32)), (.int (0 : Int32))]))
    refine own_go (XS.icmpNo X0.here hx rfl (hb hby d1_24) rfl (tlt (by decide : (0 : Int32) < (3 : Int32))).2.1 (Steps.refl _)) ?_
    show own_Fin _ _ _ _ (s₁.setTop (mkF m 27 #[.val (.ref a1), .val (.ref a1), .val (.int (3 : Int32)), .val (.int (0 : Int32)), .unset] []))
    refine own_go (XS.aloadN X0.here hx rfl (hb hby d1_27) rfl rfl (Steps.refl _)) ?_
    show own_Fin _ _ _ _ (s₁.setTop (mkF m 28 #[.val (.ref a1), .val (.ref a1), .val (.int (3 : Int32)), .val (.int (0 : Int32)), .unset] [(.ref a1)]))
    refine own_go (XS.iloadN X0.here hx rfl (hb hby d1_28) rfl (Steps.refl _)) ?_
    show own_Fin _ _ _ _ (s₁.setTop (mkF m 29 #[.val (.ref a1), .val (.ref a1), .val (.int (3 : Int32)), .val (.int (0 : Int32)), .unset] [(.int (0 : Int32)), (.ref a1)]))
    obtain ⟨cl49, Ar49, qa49, Sa49, Na49, Ha49, Ga49⟩ := id V_a1
    have hin49 : ¬ ((0 : Int32) < 0 ∨ cl49.slots.size ≤ ((0 : Int32)).toNatClampNeg) := inb_of Sa49 ⟨by decide, by decide⟩
    have hat49 : cl49.slots[((0 : Int32)).toNatClampNeg]? = some (.int b0) := Has.at Ha49 hin49 rfl
    refine own_by (X0.baloadBytes hx (j := (0 : Int32)) (v := (.int b0)) (by rw [e0]; exact Ar49.1) (State.isArrayOf_alike hZ.alike Ar49.2.1) Ar49.2.2 hin49 hat49 (g := (mkF m 29 #[.val (.ref a1), .val (.ref a1), .val (.int (3 : Int32)), .val (.int (0 : Int32)), .unset] [(.int (0 : Int32)), (.ref a1)])) rfl rfl (hb hby d1_29)) ?_
    show own_Fin _ _ _ _ (s₁.setTop (mkF m 30 #[.val (.ref a1), .val (.ref a1), .val (.int (3 : Int32)), .val (.int (0 : Int32)), .unset] [(.int b0)]))
    refine own_go (XS.istore X0.here hx rfl (hb hby d1_30) rfl (l' := #[.val (.ref a1), .val (.ref a1), .val (.int (3 : Int32)), .val (.int (0 : Int32)), .val (.int b0)]) rfl (Steps.refl _)) ?_
    show own_Fin _ _ _ _ (s₁.setTop (mkF m 32 #[.val (.ref a1), .val (.ref a1), .val (.int (3 : Int32)), .val (.int (0 : Int32)), .val (.int b0)] []))
    refine own_go (XS.iload X0.here hx rfl (hb hby d1_32) rfl (Steps.refl _)) ?_
    show own_Fin _ _ _ _ (s₁.setTop (mkF m 34 #[.val (.ref a1), .val (.ref a1), .val (.int (3 : Int32)), .val (.int (0 : Int32)), .val (.int b0)] [(.int b0)]))
    refine own_go (XS.bipush X0.here hx rfl (hb hby d1_34) (Steps.refl _)) ?_
    show own_Fin _ _ _ _ (s₁.setTop (mkF m 36 #[.val (.ref a1), .val (.ref a1), .val (.int (3 : Int32)), .val (.int (0 : Int32)), .val (.int b0)] [(.int (44 : Int32)), (.int b0)]))
    by_cases c36_50 : b0 = (44 : Int32)
    · refine own_go (XS.icmpYes X0.here hx rfl (pc0 := 36) (pc' := 53) rfl (hb hby d1_36) rfl (teq c36_50).1 (by decide) (by decide) (Steps.refl _)) ?_
      show own_Fin _ _ _ _ (s₁.setTop (mkF m 53 #[.val (.ref a1), .val (.ref a1), .val (.int (3 : Int32)), .val (.int (0 : Int32)), .val (.int b0)] []))
      refine own_go (XS.iconst X0.here hx rfl (hb hby d1_53) (Steps.refl _)) ?_
      show own_Fin _ _ _ _ (s₁.setTop (mkF m 54 #[.val (.ref a1), .val (.ref a1), .val (.int (3 : Int32)), .val (.int (0 : Int32)), .val (.int b0)] [(.int (0 : Int32))]))
      obtain ⟨fs51, hr51, hrun51, hended51, hW51, hsame51⟩ := X0.leave (v := some (.int (0 : Int32))) (fun h => by rw [Bd.returns] at h; cases h)
      refine own_done (retN X0 hx (t := .boolean) Bd.returns (by simp) (hb hby d1_54) hr51) hrun51 hended51 ⟨_, _, rfl, ?_, ⟨_, rfl⟩, hW51, hsame51.mono (by decide) (by decide)⟩
      show Q1_3 Z a1 k b0 b1 b2 h0 n0 _ s₁.heap _
      rw [e0]
      exact ⟨by simp [own_bad, c10_46, c36_50], N0, rfl⟩
    · refine own_go (XS.icmpNo X0.here hx rfl (hb hby d1_36) rfl (feq c36_50).1 (Steps.refl _)) ?_
      show own_Fin _ _ _ _ (s₁.setTop (mkF m 39 #[.val (.ref a1), .val (.ref a1), .val (.int (3 : Int32)), .val (.int (0 : Int32)), .val (.int b0)] []))
      refine own_go (XS.iload X0.here hx rfl (hb hby d1_39) rfl (Steps.refl _)) ?_
      show own_Fin _ _ _ _ (s₁.setTop (mkF m 41 #[.val (.ref a1), .val (.ref a1), .val (.int (3 : Int32)), .val (.int (0 : Int32)), .val (.int b0)] [(.int b0)]))
      refine own_go (XS.bipush X0.here hx rfl (hb hby d1_41) (Steps.refl _)) ?_
      show own_Fin _ _ _ _ (s₁.setTop (mkF m 43 #[.val (.ref a1), .val (.ref a1), .val (.int (3 : Int32)), .val (.int (0 : Int32)), .val (.int b0)] [(.int (10 : Int32)), (.int b0)]))
      by_cases c43_52 : b0 = (10 : Int32)
      · refine own_go (XS.icmpYes X0.here hx rfl (pc0 := 43) (pc' := 53) rfl (hb hby d1_43) rfl (teq c43_52).1 (by decide) (by decide) (Steps.refl _)) ?_
        show own_Fin _ _ _ _ (s₁.setTop (mkF m 53 #[.val (.ref a1), .val (.ref a1), .val (.int (3 : Int32)), .val (.int (0 : Int32)), .val (.int b0)] []))
        refine own_go (XS.iconst X0.here hx rfl (hb hby d1_53) (Steps.refl _)) ?_
        show own_Fin _ _ _ _ (s₁.setTop (mkF m 54 #[.val (.ref a1), .val (.ref a1), .val (.int (3 : Int32)), .val (.int (0 : Int32)), .val (.int b0)] [(.int (0 : Int32))]))
        obtain ⟨fs53, hr53, hrun53, hended53, hW53, hsame53⟩ := X0.leave (v := some (.int (0 : Int32))) (fun h => by rw [Bd.returns] at h; cases h)
        refine own_done (retN X0 hx (t := .boolean) Bd.returns (by simp) (hb hby d1_54) hr53) hrun53 hended53 ⟨_, _, rfl, ?_, ⟨_, rfl⟩, hW53, hsame53.mono (by decide) (by decide)⟩
        show Q1_3 Z a1 k b0 b1 b2 h0 n0 _ s₁.heap _
        rw [e0]
        exact ⟨by simp [own_bad, c10_46, c36_50, c43_52], N0, rfl⟩
      · refine own_go (XS.icmpNo X0.here hx rfl (hb hby d1_43) rfl (feq c43_52).1 (Steps.refl _)) ?_
        show own_Fin _ _ _ _ (s₁.setTop (mkF m 46 #[.val (.ref a1), .val (.ref a1), .val (.int (3 : Int32)), .val (.int (0 : Int32)), .val (.int b0)] []))
        refine own_go (XS.iload X0.here hx rfl (hb hby d1_46) rfl (Steps.refl _)) ?_
        show own_Fin _ _ _ _ (s₁.setTop (mkF m 48 #[.val (.ref a1), .val (.ref a1), .val (.int (3 : Int32)), .val (.int (0 : Int32)), .val (.int b0)] [(.int b0)]))
        refine own_go (XS.bipush X0.here hx rfl (hb hby d1_48) (Steps.refl _)) ?_
        show own_Fin _ _ _ _ (s₁.setTop (mkF m 50 #[.val (.ref a1), .val (.ref a1), .val (.int (3 : Int32)), .val (.int (0 : Int32)), .val (.int b0)] [(.int (13 : Int32)), (.int b0)]))
        by_cases c50_54 : b0 = (13 : Int32)
        · refine own_go (XS.icmpNo X0.here hx rfl (hb hby d1_50) rfl (teq c50_54).2 (Steps.refl _)) ?_
          show own_Fin _ _ _ _ (s₁.setTop (mkF m 53 #[.val (.ref a1), .val (.ref a1), .val (.int (3 : Int32)), .val (.int (0 : Int32)), .val (.int b0)] []))
          refine own_go (XS.iconst X0.here hx rfl (hb hby d1_53) (Steps.refl _)) ?_
          show own_Fin _ _ _ _ (s₁.setTop (mkF m 54 #[.val (.ref a1), .val (.ref a1), .val (.int (3 : Int32)), .val (.int (0 : Int32)), .val (.int b0)] [(.int (0 : Int32))]))
          obtain ⟨fs55, hr55, hrun55, hended55, hW55, hsame55⟩ := X0.leave (v := some (.int (0 : Int32))) (fun h => by rw [Bd.returns] at h; cases h)
          refine own_done (retN X0 hx (t := .boolean) Bd.returns (by simp) (hb hby d1_54) hr55) hrun55 hended55 ⟨_, _, rfl, ?_, ⟨_, rfl⟩, hW55, hsame55.mono (by decide) (by decide)⟩
          show Q1_3 Z a1 k b0 b1 b2 h0 n0 _ s₁.heap _
          rw [e0]
          exact ⟨by simp [own_bad, c10_46, c36_50, c43_52, c50_54], N0, rfl⟩
        · refine own_go (XS.icmpYes X0.here hx rfl (pc0 := 50) (pc' := 55) rfl (hb hby d1_50) rfl (feq c50_54).2 (by decide) (by decide) (Steps.refl _)) ?_
          show own_Fin _ _ _ _ (s₁.setTop (mkF m 55 #[.val (.ref a1), .val (.ref a1), .val (.int (3 : Int32)), .val (.int (0 : Int32)), .val (.int b0)] []))
          refine own_go (XS.iinc X0.here hx rfl (hb hby d1_55) rfl (l' := #[.val (.ref a1), .val (.ref a1), .val (.int (3 : Int32)), .val (.int (1 : Int32)), .val (.int b0)]) rfl (Steps.refl _)) ?_
          show own_Fin _ _ _ _ (s₁.setTop (mkF m 58 #[.val (.ref a1), .val (.ref a1), .val (.int (3 : Int32)), .val (.int (1 : Int32)), .val (.int b0)] []))
          refine own_go (XS.goto X0.here hx rfl (pc0 := 58) (pc' := 22) rfl (hb hby d1_58) (by decide) (by decide) (Steps.refl _)) ?_
          show own_Fin _ _ _ _ (s₁.setTop (mkF m 22 #[.val (.ref a1), .val (.ref a1), .val (.int (3 : Int32)), .val (.int (1 : Int32)), .val (.int b0)] []))
          refine own_go (XS.iloadN X0.here hx rfl (hb hby d1_22) rfl (Steps.refl _)) ?_
          show own_Fin _ _ _ _ (s₁.setTop (mkF m 23 #[.val (.ref a1), .val (.ref a1), .val (.int (3 : Int32)), .val (.int (1 : Int32)), .val (.int b0)] [(.int (1 : Int32))]))
          refine own_go (XS.iloadN X0.here hx rfl (hb hby d1_23) rfl (Steps.refl _)) ?_
          show own_Fin _ _ _ _ (s₁.setTop (mkF m 24 #[.val (.ref a1), .val (.ref a1), .val (.int (3 : Int32)), .val (.int (1 : Int32)), .val (.int b0)] [(.int (3 : Int32)), (.int (1 : Int32))]))
          refine own_go (XS.icmpNo X0.here hx rfl (hb hby d1_24) rfl (tlt (by decide : (1 : Int32) < (3 : Int32))).2.1 (Steps.refl _)) ?_
          show own_Fin _ _ _ _ (s₁.setTop (mkF m 27 #[.val (.ref a1), .val (.ref a1), .val (.int (3 : Int32)), .val (.int (1 : Int32)), .val (.int b0)] []))
          refine own_go (XS.aloadN X0.here hx rfl (hb hby d1_27) rfl rfl (Steps.refl _)) ?_
          show own_Fin _ _ _ _ (s₁.setTop (mkF m 28 #[.val (.ref a1), .val (.ref a1), .val (.int (3 : Int32)), .val (.int (1 : Int32)), .val (.int b0)] [(.ref a1)]))
          refine own_go (XS.iloadN X0.here hx rfl (hb hby d1_28) rfl (Steps.refl _)) ?_
          show own_Fin _ _ _ _ (s₁.setTop (mkF m 29 #[.val (.ref a1), .val (.ref a1), .val (.int (3 : Int32)), .val (.int (1 : Int32)), .val (.int b0)] [(.int (1 : Int32)), (.ref a1)]))
          obtain ⟨cl56, Ar56, qa56, Sa56, Na56, Ha56, Ga56⟩ := id V_a1
          have hin56 : ¬ ((1 : Int32) < 0 ∨ cl56.slots.size ≤ ((1 : Int32)).toNatClampNeg) := inb_of Sa56 ⟨by decide, by decide⟩
          have hat56 : cl56.slots[((1 : Int32)).toNatClampNeg]? = some (.int b1) := Has.at Ha56 hin56 rfl
          refine own_by (X0.baloadBytes hx (j := (1 : Int32)) (v := (.int b1)) (by rw [e0]; exact Ar56.1) (State.isArrayOf_alike hZ.alike Ar56.2.1) Ar56.2.2 hin56 hat56 (g := (mkF m 29 #[.val (.ref a1), .val (.ref a1), .val (.int (3 : Int32)), .val (.int (1 : Int32)), .val (.int b0)] [(.int (1 : Int32)), (.ref a1)])) rfl rfl (hb hby d1_29)) ?_
          show own_Fin _ _ _ _ (s₁.setTop (mkF m 30 #[.val (.ref a1), .val (.ref a1), .val (.int (3 : Int32)), .val (.int (1 : Int32)), .val (.int b0)] [(.int b1)]))
          refine own_go (XS.istore X0.here hx rfl (hb hby d1_30) rfl (l' := #[.val (.ref a1), .val (.ref a1), .val (.int (3 : Int32)), .val (.int (1 : Int32)), .val (.int b1)]) rfl (Steps.refl _)) ?_
          show own_Fin _ _ _ _ (s₁.setTop (mkF m 32 #[.val (.ref a1), .val (.ref a1), .val (.int (3 : Int32)), .val (.int (1 : Int32)), .val (.int b1)] []))
          refine own_go (XS.iload X0.here hx rfl (hb hby d1_32) rfl (Steps.refl _)) ?_
          show own_Fin _ _ _ _ (s₁.setTop (mkF m 34 #[.val (.ref a1), .val (.ref a1), .val (.int (3 : Int32)), .val (.int (1 : Int32)), .val (.int b1)] [(.int b1)]))
          refine own_go (XS.bipush X0.here hx rfl (hb hby d1_34) (Steps.refl _)) ?_
          show own_Fin _ _ _ _ (s₁.setTop (mkF m 36 #[.val (.ref a1), .val (.ref a1), .val (.int (3 : Int32)), .val (.int (1 : Int32)), .val (.int b1)] [(.int (44 : Int32)), (.int b1)]))
          by_cases c36_57 : b1 = (44 : Int32)
          · refine own_go (XS.icmpYes X0.here hx rfl (pc0 := 36) (pc' := 53) rfl (hb hby d1_36) rfl (teq c36_57).1 (by decide) (by decide) (Steps.refl _)) ?_
            show own_Fin _ _ _ _ (s₁.setTop (mkF m 53 #[.val (.ref a1), .val (.ref a1), .val (.int (3 : Int32)), .val (.int (1 : Int32)), .val (.int b1)] []))
            refine own_go (XS.iconst X0.here hx rfl (hb hby d1_53) (Steps.refl _)) ?_
            show own_Fin _ _ _ _ (s₁.setTop (mkF m 54 #[.val (.ref a1), .val (.ref a1), .val (.int (3 : Int32)), .val (.int (1 : Int32)), .val (.int b1)] [(.int (0 : Int32))]))
            obtain ⟨fs58, hr58, hrun58, hended58, hW58, hsame58⟩ := X0.leave (v := some (.int (0 : Int32))) (fun h => by rw [Bd.returns] at h; cases h)
            refine own_done (retN X0 hx (t := .boolean) Bd.returns (by simp) (hb hby d1_54) hr58) hrun58 hended58 ⟨_, _, rfl, ?_, ⟨_, rfl⟩, hW58, hsame58.mono (by decide) (by decide)⟩
            show Q1_3 Z a1 k b0 b1 b2 h0 n0 _ s₁.heap _
            rw [e0]
            exact ⟨by simp [own_bad, c10_46, c36_50, c43_52, c50_54, c36_57], N0, rfl⟩
          · refine own_go (XS.icmpNo X0.here hx rfl (hb hby d1_36) rfl (feq c36_57).1 (Steps.refl _)) ?_
            show own_Fin _ _ _ _ (s₁.setTop (mkF m 39 #[.val (.ref a1), .val (.ref a1), .val (.int (3 : Int32)), .val (.int (1 : Int32)), .val (.int b1)] []))
            refine own_go (XS.iload X0.here hx rfl (hb hby d1_39) rfl (Steps.refl _)) ?_
            show own_Fin _ _ _ _ (s₁.setTop (mkF m 41 #[.val (.ref a1), .val (.ref a1), .val (.int (3 : Int32)), .val (.int (1 : Int32)), .val (.int b1)] [(.int b1)]))
            refine own_go (XS.bipush X0.here hx rfl (hb hby d1_41) (Steps.refl _)) ?_
            show own_Fin _ _ _ _ (s₁.setTop (mkF m 43 #[.val (.ref a1), .val (.ref a1), .val (.int (3 : Int32)), .val (.int (1 : Int32)), .val (.int b1)] [(.int (10 : Int32)), (.int b1)]))
            by_cases c43_59 : b1 = (10 : Int32)
            · refine own_go (XS.icmpYes X0.here hx rfl (pc0 := 43) (pc' := 53) rfl (hb hby d1_43) rfl (teq c43_59).1 (by decide) (by decide) (Steps.refl _)) ?_
              show own_Fin _ _ _ _ (s₁.setTop (mkF m 53 #[.val (.ref a1), .val (.ref a1), .val (.int (3 : Int32)), .val (.int (1 : Int32)), .val (.int b1)] []))
              refine own_go (XS.iconst X0.here hx rfl (hb hby d1_53) (Steps.refl _)) ?_
              show own_Fin _ _ _ _ (s₁.setTop (mkF m 54 #[.val (.ref a1), .val (.ref a1), .val (.int (3 : Int32)), .val (.int (1 : Int32)), .val (.int b1)] [(.int (0 : Int32))]))
              obtain ⟨fs60, hr60, hrun60, hended60, hW60, hsame60⟩ := X0.leave (v := some (.int (0 : Int32))) (fun h => by rw [Bd.returns] at h; cases h)
              refine own_done (retN X0 hx (t := .boolean) Bd.returns (by simp) (hb hby d1_54) hr60) hrun60 hended60 ⟨_, _, rfl, ?_, ⟨_, rfl⟩, hW60, hsame60.mono (by decide) (by decide)⟩
              show Q1_3 Z a1 k b0 b1 b2 h0 n0 _ s₁.heap _
              rw [e0]
              exact ⟨by simp [own_bad, c10_46, c36_50, c43_52, c50_54, c36_57, c43_59], N0, rfl⟩
            · refine own_go (XS.icmpNo X0.here hx rfl (hb hby d1_43) rfl (feq c43_59).1 (Steps.refl _)) ?_
              show own_Fin _ _ _ _ (s₁.setTop (mkF m 46 #[.val (.ref a1), .val (.ref a1), .val (.int (3 : Int32)), .val (.int (1 : Int32)), .val (.int b1)] []))
              refine own_go (XS.iload X0.here hx rfl (hb hby d1_46) rfl (Steps.refl _)) ?_
              show own_Fin _ _ _ _ (s₁.setTop (mkF m 48 #[.val (.ref a1), .val (.ref a1), .val (.int (3 : Int32)), .val (.int (1 : Int32)), .val (.int b1)] [(.int b1)]))
              refine own_go (XS.bipush X0.here hx rfl (hb hby d1_48) (Steps.refl _)) ?_
              show own_Fin _ _ _ _ (s₁.setTop (mkF m 50 #[.val (.ref a1), .val (.ref a1), .val (.int (3 : Int32)), .val (.int (1 : Int32)), .val (.int b1)] [(.int (13 : Int32)), (.int b1)]))
              by_cases c50_61 : b1 = (13 : Int32)
              · refine own_go (XS.icmpNo X0.here hx rfl (hb hby d1_50) rfl (teq c50_61).2 (Steps.refl _)) ?_
                show own_Fin _ _ _ _ (s₁.setTop (mkF m 53 #[.val (.ref a1), .val (.ref a1), .val (.int (3 : Int32)), .val (.int (1 : Int32)), .val (.int b1)] []))
                refine own_go (XS.iconst X0.here hx rfl (hb hby d1_53) (Steps.refl _)) ?_
                show own_Fin _ _ _ _ (s₁.setTop (mkF m 54 #[.val (.ref a1), .val (.ref a1), .val (.int (3 : Int32)), .val (.int (1 : Int32)), .val (.int b1)] [(.int (0 : Int32))]))
                obtain ⟨fs62, hr62, hrun62, hended62, hW62, hsame62⟩ := X0.leave (v := some (.int (0 : Int32))) (fun h => by rw [Bd.returns] at h; cases h)
                refine own_done (retN X0 hx (t := .boolean) Bd.returns (by simp) (hb hby d1_54) hr62) hrun62 hended62 ⟨_, _, rfl, ?_, ⟨_, rfl⟩, hW62, hsame62.mono (by decide) (by decide)⟩
                show Q1_3 Z a1 k b0 b1 b2 h0 n0 _ s₁.heap _
                rw [e0]
                exact ⟨by simp [own_bad, c10_46, c36_50, c43_52, c50_54, c36_57, c43_59, c50_61], N0, rfl⟩
              · refine own_go (XS.icmpYes X0.here hx rfl (pc0 := 50) (pc' := 55) rfl (hb hby d1_50) rfl (feq c50_61).2 (by decide) (by decide) (Steps.refl _)) ?_
                show own_Fin _ _ _ _ (s₁.setTop (mkF m 55 #[.val (.ref a1), .val (.ref a1), .val (.int (3 : Int32)), .val (.int (1 : Int32)), .val (.int b1)] []))
                refine own_go (XS.iinc X0.here hx rfl (hb hby d1_55) rfl (l' := #[.val (.ref a1), .val (.ref a1), .val (.int (3 : Int32)), .val (.int (2 : Int32)), .val (.int b1)]) rfl (Steps.refl _)) ?_
                show own_Fin _ _ _ _ (s₁.setTop (mkF m 58 #[.val (.ref a1), .val (.ref a1), .val (.int (3 : Int32)), .val (.int (2 : Int32)), .val (.int b1)] []))
                refine own_go (XS.goto X0.here hx rfl (pc0 := 58) (pc' := 22) rfl (hb hby d1_58) (by decide) (by decide) (Steps.refl _)) ?_
                show own_Fin _ _ _ _ (s₁.setTop (mkF m 22 #[.val (.ref a1), .val (.ref a1), .val (.int (3 : Int32)), .val (.int (2 : Int32)), .val (.int b1)] []))
                refine own_go (XS.iloadN X0.here hx rfl (hb hby d1_22) rfl (Steps.refl _)) ?_
                show own_Fin _ _ _ _ (s₁.setTop (mkF m 23 #[.val (.ref a1), .val (.ref a1), .val (.int (3 : Int32)), .val (.int (2 : Int32)), .val (.int b1)] [(.int (2 : Int32))]))
                refine own_go (XS.iloadN X0.here hx rfl (hb hby d1_23) rfl (Steps.refl _)) ?_
                show own_Fin _ _ _ _ (s₁.setTop (mkF m 24 #[.val (.ref a1), .val (.ref a1), .val (.int (3 : Int32)), .val (.int (2 : Int32)), .val (.int b1)] [(.int (3 : Int32)), (.int (2 : Int32))]))
                refine own_go (XS.icmpNo X0.here hx rfl (hb hby d1_24) rfl (tlt (by decide : (2 : Int32) < (3 : Int32))).2.1 (Steps.refl _)) ?_
                show own_Fin _ _ _ _ (s₁.setTop (mkF m 27 #[.val (.ref a1), .val (.ref a1), .val (.int (3 : Int32)), .val (.int (2 : Int32)), .val (.int b1)] []))
                refine own_go (XS.aloadN X0.here hx rfl (hb hby d1_27) rfl rfl (Steps.refl _)) ?_
                show own_Fin _ _ _ _ (s₁.setTop (mkF m 28 #[.val (.ref a1), .val (.ref a1), .val (.int (3 : Int32)), .val (.int (2 : Int32)), .val (.int b1)] [(.ref a1)]))
                refine own_go (XS.iloadN X0.here hx rfl (hb hby d1_28) rfl (Steps.refl _)) ?_
                show own_Fin _ _ _ _ (s₁.setTop (mkF m 29 #[.val (.ref a1), .val (.ref a1), .val (.int (3 : Int32)), .val (.int (2 : Int32)), .val (.int b1)] [(.int (2 : Int32)), (.ref a1)]))
                obtain ⟨cl63, Ar63, qa63, Sa63, Na63, Ha63, Ga63⟩ := id V_a1
                have hin63 : ¬ ((2 : Int32) < 0 ∨ cl63.slots.size ≤ ((2 : Int32)).toNatClampNeg) := inb_of Sa63 ⟨by decide, by decide⟩
                have hat63 : cl63.slots[((2 : Int32)).toNatClampNeg]? = some (.int b2) := Has.at Ha63 hin63 rfl
                refine own_by (X0.baloadBytes hx (j := (2 : Int32)) (v := (.int b2)) (by rw [e0]; exact Ar63.1) (State.isArrayOf_alike hZ.alike Ar63.2.1) Ar63.2.2 hin63 hat63 (g := (mkF m 29 #[.val (.ref a1), .val (.ref a1), .val (.int (3 : Int32)), .val (.int (2 : Int32)), .val (.int b1)] [(.int (2 : Int32)), (.ref a1)])) rfl rfl (hb hby d1_29)) ?_
                show own_Fin _ _ _ _ (s₁.setTop (mkF m 30 #[.val (.ref a1), .val (.ref a1), .val (.int (3 : Int32)), .val (.int (2 : Int32)), .val (.int b1)] [(.int b2)]))
                refine own_go (XS.istore X0.here hx rfl (hb hby d1_30) rfl (l' := #[.val (.ref a1), .val (.ref a1), .val (.int (3 : Int32)), .val (.int (2 : Int32)), .val (.int b2)]) rfl (Steps.refl _)) ?_
                show own_Fin _ _ _ _ (s₁.setTop (mkF m 32 #[.val (.ref a1), .val (.ref a1), .val (.int (3 : Int32)), .val (.int (2 : Int32)), .val (.int b2)] []))
                refine own_go (XS.iload X0.here hx rfl (hb hby d1_32) rfl (Steps.refl _)) ?_
                show own_Fin _ _ _ _ (s₁.setTop (mkF m 34 #[.val (.ref a1), .val (.ref a1), .val (.int (3 : Int32)), .val (.int (2 : Int32)), .val (.int b2)] [(.int b2)]))
                refine own_go (XS.bipush X0.here hx rfl (hb hby d1_34) (Steps.refl _)) ?_
                show own_Fin _ _ _ _ (s₁.setTop (mkF m 36 #[.val (.ref a1), .val (.ref a1), .val (.int (3 : Int32)), .val (.int (2 : Int32)), .val (.int b2)] [(.int (44 : Int32)), (.int b2)]))
                by_cases c36_64 : b2 = (44 : Int32)
                · refine own_go (XS.icmpYes X0.here hx rfl (pc0 := 36) (pc' := 53) rfl (hb hby d1_36) rfl (teq c36_64).1 (by decide) (by decide) (Steps.refl _)) ?_
                  show own_Fin _ _ _ _ (s₁.setTop (mkF m 53 #[.val (.ref a1), .val (.ref a1), .val (.int (3 : Int32)), .val (.int (2 : Int32)), .val (.int b2)] []))
                  refine own_go (XS.iconst X0.here hx rfl (hb hby d1_53) (Steps.refl _)) ?_
                  show own_Fin _ _ _ _ (s₁.setTop (mkF m 54 #[.val (.ref a1), .val (.ref a1), .val (.int (3 : Int32)), .val (.int (2 : Int32)), .val (.int b2)] [(.int (0 : Int32))]))
                  obtain ⟨fs65, hr65, hrun65, hended65, hW65, hsame65⟩ := X0.leave (v := some (.int (0 : Int32))) (fun h => by rw [Bd.returns] at h; cases h)
                  refine own_done (retN X0 hx (t := .boolean) Bd.returns (by simp) (hb hby d1_54) hr65) hrun65 hended65 ⟨_, _, rfl, ?_, ⟨_, rfl⟩, hW65, hsame65.mono (by decide) (by decide)⟩
                  show Q1_3 Z a1 k b0 b1 b2 h0 n0 _ s₁.heap _
                  rw [e0]
                  exact ⟨by simp [own_bad, c10_46, c36_50, c43_52, c50_54, c36_57, c43_59, c50_61, c36_64], N0, rfl⟩
                · refine own_go (XS.icmpNo X0.here hx rfl (hb hby d1_36) rfl (feq c36_64).1 (Steps.refl _)) ?_
                  show own_Fin _ _ _ _ (s₁.setTop (mkF m 39 #[.val (.ref a1), .val (.ref a1), .val (.int (3 : Int32)), .val (.int (2 : Int32)), .val (.int b2)] []))
                  refine own_go (XS.iload X0.here hx rfl (hb hby d1_39) rfl (Steps.refl _)) ?_
                  show own_Fin _ _ _ _ (s₁.setTop (mkF m 41 #[.val (.ref a1), .val (.ref a1), .val (.int (3 : Int32)), .val (.int (2 : Int32)), .val (.int b2)] [(.int b2)]))
                  refine own_go (XS.bipush X0.here hx rfl (hb hby d1_41) (Steps.refl _)) ?_
                  show own_Fin _ _ _ _ (s₁.setTop (mkF m 43 #[.val (.ref a1), .val (.ref a1), .val (.int (3 : Int32)), .val (.int (2 : Int32)), .val (.int b2)] [(.int (10 : Int32)), (.int b2)]))
                  by_cases c43_66 : b2 = (10 : Int32)
                  · refine own_go (XS.icmpYes X0.here hx rfl (pc0 := 43) (pc' := 53) rfl (hb hby d1_43) rfl (teq c43_66).1 (by decide) (by decide) (Steps.refl _)) ?_
                    show own_Fin _ _ _ _ (s₁.setTop (mkF m 53 #[.val (.ref a1), .val (.ref a1), .val (.int (3 : Int32)), .val (.int (2 : Int32)), .val (.int b2)] []))
                    refine own_go (XS.iconst X0.here hx rfl (hb hby d1_53) (Steps.refl _)) ?_
                    show own_Fin _ _ _ _ (s₁.setTop (mkF m 54 #[.val (.ref a1), .val (.ref a1), .val (.int (3 : Int32)), .val (.int (2 : Int32)), .val (.int b2)] [(.int (0 : Int32))]))
                    obtain ⟨fs67, hr67, hrun67, hended67, hW67, hsame67⟩ := X0.leave (v := some (.int (0 : Int32))) (fun h => by rw [Bd.returns] at h; cases h)
                    refine own_done (retN X0 hx (t := .boolean) Bd.returns (by simp) (hb hby d1_54) hr67) hrun67 hended67 ⟨_, _, rfl, ?_, ⟨_, rfl⟩, hW67, hsame67.mono (by decide) (by decide)⟩
                    show Q1_3 Z a1 k b0 b1 b2 h0 n0 _ s₁.heap _
                    rw [e0]
                    exact ⟨by simp [own_bad, c10_46, c36_50, c43_52, c50_54, c36_57, c43_59, c50_61, c36_64, c43_66], N0, rfl⟩
                  · refine own_go (XS.icmpNo X0.here hx rfl (hb hby d1_43) rfl (feq c43_66).1 (Steps.refl _)) ?_
                    show own_Fin _ _ _ _ (s₁.setTop (mkF m 46 #[.val (.ref a1), .val (.ref a1), .val (.int (3 : Int32)), .val (.int (2 : Int32)), .val (.int b2)] []))
                    refine own_go (XS.iload X0.here hx rfl (hb hby d1_46) rfl (Steps.refl _)) ?_
                    show own_Fin _ _ _ _ (s₁.setTop (mkF m 48 #[.val (.ref a1), .val (.ref a1), .val (.int (3 : Int32)), .val (.int (2 : Int32)), .val (.int b2)] [(.int b2)]))
                    refine own_go (XS.bipush X0.here hx rfl (hb hby d1_48) (Steps.refl _)) ?_
                    show own_Fin _ _ _ _ (s₁.setTop (mkF m 50 #[.val (.ref a1), .val (.ref a1), .val (.int (3 : Int32)), .val (.int (2 : Int32)), .val (.int b2)] [(.int (13 : Int32)), (.int b2)]))
                    by_cases c50_68 : b2 = (13 : Int32)
                    · refine own_go (XS.icmpNo X0.here hx rfl (hb hby d1_50) rfl (teq c50_68).2 (Steps.refl _)) ?_
                      show own_Fin _ _ _ _ (s₁.setTop (mkF m 53 #[.val (.ref a1), .val (.ref a1), .val (.int (3 : Int32)), .val (.int (2 : Int32)), .val (.int b2)] []))
                      refine own_go (XS.iconst X0.here hx rfl (hb hby d1_53) (Steps.refl _)) ?_
                      show own_Fin _ _ _ _ (s₁.setTop (mkF m 54 #[.val (.ref a1), .val (.ref a1), .val (.int (3 : Int32)), .val (.int (2 : Int32)), .val (.int b2)] [(.int (0 : Int32))]))
                      obtain ⟨fs69, hr69, hrun69, hended69, hW69, hsame69⟩ := X0.leave (v := some (.int (0 : Int32))) (fun h => by rw [Bd.returns] at h; cases h)
                      refine own_done (retN X0 hx (t := .boolean) Bd.returns (by simp) (hb hby d1_54) hr69) hrun69 hended69 ⟨_, _, rfl, ?_, ⟨_, rfl⟩, hW69, hsame69.mono (by decide) (by decide)⟩
                      show Q1_3 Z a1 k b0 b1 b2 h0 n0 _ s₁.heap _
                      rw [e0]
                      exact ⟨by simp [own_bad, c10_46, c36_50, c43_52, c50_54, c36_57, c43_59, c50_61, c36_64, c43_66, c50_68], N0, rfl⟩
                    · refine own_go (XS.icmpYes X0.here hx rfl (pc0 := 50) (pc' := 55) rfl (hb hby d1_50) rfl (feq c50_68).2 (by decide) (by decide) (Steps.refl _)) ?_
                      show own_Fin _ _ _ _ (s₁.setTop (mkF m 55 #[.val (.ref a1), .val (.ref a1), .val (.int (3 : Int32)), .val (.int (2 : Int32)), .val (.int b2)] []))
                      refine own_go (XS.iinc X0.here hx rfl (hb hby d1_55) rfl (l' := #[.val (.ref a1), .val (.ref a1), .val (.int (3 : Int32)), .val (.int (3 : Int32)), .val (.int b2)]) rfl (Steps.refl _)) ?_
                      show own_Fin _ _ _ _ (s₁.setTop (mkF m 58 #[.val (.ref a1), .val (.ref a1), .val (.int (3 : Int32)), .val (.int (3 : Int32)), .val (.int b2)] []))
                      refine own_go (XS.goto X0.here hx rfl (pc0 := 58) (pc' := 22) rfl (hb hby d1_58) (by decide) (by decide) (Steps.refl _)) ?_
                      show own_Fin _ _ _ _ (s₁.setTop (mkF m 22 #[.val (.ref a1), .val (.ref a1), .val (.int (3 : Int32)), .val (.int (3 : Int32)), .val (.int b2)] []))
                      refine own_go (XS.iloadN X0.here hx rfl (hb hby d1_22) rfl (Steps.refl _)) ?_
                      show own_Fin _ _ _ _ (s₁.setTop (mkF m 23 #[.val (.ref a1), .val (.ref a1), .val (.int (3 : Int32)), .val (.int (3 : Int32)), .val (.int b2)] [(.int (3 : Int32))]))
                      refine own_go (XS.iloadN X0.here hx rfl (hb hby d1_23) rfl (Steps.refl _)) ?_
                      show own_Fin _ _ _ _ (s₁.setTop (mkF m 24 #[.val (.ref a1), .val (.ref a1), .val (.int (3 : Int32)), .val (.int (3 : Int32)), .val (.int b2)] [(.int (3 : Int32)), (.int (3 : Int32))]))
                      refine own_go (XS.icmpYes X0.here hx rfl (pc0 := 24) (pc' := 61) rfl (hb hby d1_24) rfl (flt (by decide : ¬ ((3 : Int32) < (3 : Int32)))).2.1 (by decide) (by decide) (Steps.refl _)) ?_
                      show own_Fin _ _ _ _ (s₁.setTop (mkF m 61 #[.val (.ref a1), .val (.ref a1), .val (.int (3 : Int32)), .val (.int (3 : Int32)), .val (.int b2)] []))
                      refine own_go (XS.iconst X0.here hx rfl (hb hby d1_61) (Steps.refl _)) ?_
                      show own_Fin _ _ _ _ (s₁.setTop (mkF m 62 #[.val (.ref a1), .val (.ref a1), .val (.int (3 : Int32)), .val (.int (3 : Int32)), .val (.int b2)] [(.int (1 : Int32))]))
                      obtain ⟨fs70, hr70, hrun70, hended70, hW70, hsame70⟩ := X0.leave (v := some (.int (1 : Int32))) (fun h => by rw [Bd.returns] at h; cases h)
                      refine own_done (retN X0 hx (t := .boolean) Bd.returns (by simp) (hb hby d1_62) hr70) hrun70 hended70 ⟨_, _, rfl, ?_, ⟨_, rfl⟩, hW70, hsame70.mono (by decide) (by decide)⟩
                      show Q1_3 Z a1 k b0 b1 b2 h0 n0 _ s₁.heap _
                      rw [e0]
                      exact ⟨by simp [own_bad, c10_46, c36_50, c43_52, c50_54, c36_57, c43_59, c50_61, c36_64, c43_66, c50_68], N0, rfl⟩
theorem ef_1_4 (m : MethodId) (x0 : Addr) : entryFrame m #[(.ref x0)] 5 = mkF m 0 #[.val (.ref x0), .unset, .unset, .unset, .unset] [] := by first | (simp [entryFrame, mkF, argsToLocals, Value.category]; done) | rfl
def Q1_4 (Z : State) (a1 : Addr) (k : ClassId) (b0 : Int32) (b1 : Int32) (b2 : Int32) (b3 : Int32) (h0 : Heap) (n0 : Nat) (v : Option Value) (h : Heap) (L : List Loc) : Prop := v = some (.int (if (decide (b0 = 34) || own_bad b0 || own_bad b1 || own_bad b2 || own_bad b3) then (0 : Int32) else 1)) ∧ Fr n0 L ∧ h = h0
abbrev G1_4 (Z : State) (a1 : Addr) (k : ClassId) (b0 : Int32) (b1 : Int32) (b2 : Int32) (b3 : Int32) (h0 : Heap) (n0 : Nat) (s : State) : Outcome → State → Prop := fun o U' => ∃ v L, o = .returned v ∧ Q1_4 Z a1 k b0 b1 b2 b3 h0 n0 v U'.heap L ∧ FrameEnd s o U' L ({ frames := 0, cells := 0, slots := 0, locals := 0 } : Room).cells ({ frames := 0, cells := 0, slots := 0, locals := 0 } : Room).slots
set_option maxRecDepth 65536 in
set_option maxHeartbeats 40000000 in
theorem rm1_4 (l : Launch) (Z : State) (a0 : Array Value) (hw : ∀ d ∈ tables_1, d.before a0 Z = true) (ws : List Jvm.Cond) (a1 : Addr) (k : ClassId) (b0 : Int32) (b1 : Int32) (b2 : Int32) (b3 : Int32) (h0 : Heap) (n0 : Nat) (Z0 : n0 ≤ h0.size) (V_a1 : Arv Z h0 a1 k .byte (4 : Int32) [.int b0, .int b1, .int b2, .int b3] (.int (0 : Int32))) :
    MetFree l (⟨"com/example/gridtally/gridtally/casefile/FieldText", "isWhole", "([B)Z"⟩ : MethodName) (head1 (Jvm.Cond.code (⟨"com/example/gridtally/gridtally/casefile/FieldText", "isWhole", "([B)Z"⟩ : MethodName) prog_14_method_2_code 5 (some .boolean) :: ws) ({ frames := 0, cells := 0, slots := 0, locals := 0 } : Room)) (fun a U => a = #[(.ref a1)] ∧ Z.Warmed39 U.vm ∧ U.heap = h0) (fun _ _ _ _ _ => True) (fun _ U o U' => ∃ v L, o = .returned v ∧ Q1_4 Z a1 k b0 b1 b2 b3 h0 n0 v U'.heap L ∧ FrameEnd U o U' L ({ frames := 0, cells := 0, slots := 0, locals := 0 } : Room).cells ({ frames := 0, cells := 0, slots := 0, locals := 0 } : Room).slots) := by
  refine MetFree.of_bodySF (plainFor_of_name pn_com_example_gridtally_gridtally_casefile_FieldText) hisR ?_
  intro p e s m args below meth c s₁ Bd hml0 hP hK
  obtain ⟨rfl, hZ, hh⟩ := hP
  have hx := Bd.exec
  have hby := Bd.bytes
  have hml : c.maxLocals = 5 := hml0
  have hown : s.vm.findClass "com/example/gridtally/gridtally/casefile/FieldText" = some m.cls := findClass_of_methodNamed Bd.named
  have hnm := (name_of_methodNamed Bd.named Bd.method).1
  have X0 : Stand p l e ({ frames := 0, cells := 0, slots := 0, locals := 0 } : Room) s m #[(.ref a1)] below meth c s₁ [] 0 0 := Stand.of_body Bd
  have e0 : s₁.heap = h0 := by rw [← hh, Bd.state]; rfl
  have es0 : s.heap = h0 := hh
  have N0 := Fr.nil n0
  show own_Fin p e below (G1_4 Z a1 k b0 b1 b2 b3 h0 n0 s) (s₁.setTop (entryFrame m #[(.ref a1)] 5))
  rw [ef_1_4 m a1]
  refine own_go (XS.aloadN X0.here hx rfl (hb hby d1_0) rfl rfl (Steps.refl _)) ?_
  show own_Fin _ _ _ _ (s₁.setTop (mkF m 1 #[.val (.ref a1), .unset, .unset, .unset, .unset] [(.ref a1)]))
  obtain ⟨cl71, Ar71, qa71, Sa71, Na71, Ha71, Ga71⟩ := id V_a1
  refine own_by (X0.arraylength hx (by rw [e0]; exact Ar71.1) (State.isArrayOf_alike hZ.alike Ar71.2.1) (g := (mkF m 1 #[.val (.ref a1), .unset, .unset, .unset, .unset] [(.ref a1)])) rfl rfl (hb hby d1_1)) ?_
  rw [len_of Sa71 Na71]
  show own_Fin _ _ _ _ (s₁.setTop (mkF m 2 #[.val (.ref a1), .unset, .unset, .unset, .unset] [(.int (4 : Int32))]))
  refine own_go (XS.ifNo X0.here hx rfl (hb hby d1_2) rfl ((if0 _ _).trans (tlt (by decide : (0 : Int32) < (4 : Int32))).2.2.2) (Steps.refl _)) ?_
  show own_Fin _ _ _ _ (s₁.setTop (mkF m 5 #[.val (.ref a1), .unset, .unset, .unset, .unset] []))
  refine own_go (XS.aloadN X0.here hx rfl (hb hby d1_5) rfl rfl (Steps.refl _)) ?_
  show own_Fin _ _ _ _ (s₁.setTop (mkF m 6 #[.val (.ref a1), .unset, .unset, .unset, .unset] [(.ref a1)]))
  refine own_go (XS.iconst X0.here hx rfl (hb hby d1_6) (Steps.refl _)) ?_
  show own_Fin _ _ _ _ (s₁.setTop (mkF m 7 #[.val (.ref a1), .unset, .unset, .unset, .unset] [(.int (0 : Int32)), (.ref a1)]))
  obtain ⟨cl72, Ar72, qa72, Sa72, Na72, Ha72, Ga72⟩ := id V_a1
  have hin72 : ¬ ((0 : Int32) < 0 ∨ cl72.slots.size ≤ ((0 : Int32)).toNatClampNeg) := inb_of Sa72 ⟨by decide, by decide⟩
  have hat72 : cl72.slots[((0 : Int32)).toNatClampNeg]? = some (.int b0) := Has.at Ha72 hin72 rfl
  refine own_by (X0.baloadBytes hx (j := (0 : Int32)) (v := (.int b0)) (by rw [e0]; exact Ar72.1) (State.isArrayOf_alike hZ.alike Ar72.2.1) Ar72.2.2 hin72 hat72 (g := (mkF m 7 #[.val (.ref a1), .unset, .unset, .unset, .unset] [(.int (0 : Int32)), (.ref a1)])) rfl rfl (hb hby d1_7)) ?_
  show own_Fin _ _ _ _ (s₁.setTop (mkF m 8 #[.val (.ref a1), .unset, .unset, .unset, .unset] [(.int b0)]))
  refine own_go (XS.bipush X0.here hx rfl (hb hby d1_8) (Steps.refl _)) ?_
  show own_Fin _ _ _ _ (s₁.setTop (mkF m 10 #[.val (.ref a1), .unset, .unset, .unset, .unset] [(.int (34 : Int32)), (.int b0)]))
  by_cases c10_73 : b0 = (34 : Int32)
  · refine own_go (XS.icmpNo X0.here hx rfl (hb hby d1_10) rfl (teq c10_73).2 (Steps.refl _)) ?_
    show own_Fin _ _ _ _ (s₁.setTop (mkF m 13 #[.val (.ref a1), .unset, .unset, .unset, .unset] []))
    refine own_go (XS.iconst X0.here hx rfl (hb hby d1_13) (Steps.refl _)) ?_
    show own_Fin _ _ _ _ (s₁.setTop (mkF m 14 #[.val (.ref a1), .unset, .unset, .unset, .unset] [(.int (0 : Int32))]))
    obtain ⟨fs74, hr74, hrun74, hended74, hW74, hsame74⟩ := X0.leave (v := some (.int (0 : Int32))) (fun h => by rw [Bd.returns] at h; cases h)
    refine own_done (retN X0 hx (t := .boolean) Bd.returns (by simp) (hb hby d1_14) hr74) hrun74 hended74 ⟨_, _, rfl, ?_, ⟨_, rfl⟩, hW74, hsame74.mono (by decide) (by decide)⟩
    show Q1_4 Z a1 k b0 b1 b2 b3 h0 n0 _ s₁.heap _
    rw [e0]
    exact ⟨by simp [own_bad, c10_73], N0, rfl⟩
  · refine own_go (XS.icmpYes X0.here hx rfl (pc0 := 10) (pc' := 15) rfl (hb hby d1_10) rfl (feq c10_73).2 (by decide) (by decide) (Steps.refl _)) ?_
    show own_Fin _ _ _ _ (s₁.setTop (mkF m 15 #[.val (.ref a1), .unset, .unset, .unset, .unset] []))
    refine own_go (XS.aloadN X0.here hx rfl (hb hby d1_15) rfl rfl (Steps.refl _)) ?_
    show own_Fin _ _ _ _ (s₁.setTop (mkF m 16 #[.val (.ref a1), .unset, .unset, .unset, .unset] [(.ref a1)]))
    refine own_go (XS.astoreN X0.here hx rfl (hb hby d1_16) rfl rfl (l' := #[.val (.ref a1), .val (.ref a1), .unset, .unset, .unset]) rfl (Steps.refl _)) ?_
    show own_Fin _ _ _ _ (s₁.setTop (mkF m 17 #[.val (.ref a1), .val (.ref a1), .unset, .unset, .unset] []))
    refine own_go (XS.aloadN X0.here hx rfl (hb hby d1_17) rfl rfl (Steps.refl _)) ?_
    show own_Fin _ _ _ _ (s₁.setTop (mkF m 18 #[.val (.ref a1), .val (.ref a1), .unset, .unset, .unset] [(.ref a1)]))
    obtain ⟨cl75, Ar75, qa75, Sa75, Na75, Ha75, Ga75⟩ := id V_a1
    refine own_by (X0.arraylength hx (by rw [e0]; exact Ar75.1) (State.isArrayOf_alike hZ.alike Ar75.2.1) (g := (mkF m 18 #[.val (.ref a1), .val (.ref a1), .unset, .unset, .unset] [(.ref a1)])) rfl rfl (hb hby d1_18)) ?_
    rw [len_of Sa75 Na75]
    show own_Fin _ _ _ _ (s₁.setTop (mkF m 19 #[.val (.ref a1), .val (.ref a1), .unset, .unset, .unset] [(.int (4 : Int32))]))
    refine own_go (XS.istoreN X0.here hx rfl (hb hby d1_19) rfl (l' := #[.val (.ref a1), .val (.ref a1), .val (.int (4 : Int32)), .unset, .unset]) rfl (Steps.refl _)) ?_
    show own_Fin _ _ _ _ (s₁.setTop (mkF m 20 #[.val (.ref a1), .val (.ref a1), .val (.int (4 : Int32)), .unset, .unset] []))
    refine own_go (XS.iconst X0.here hx rfl (hb hby d1_20) (Steps.refl _)) ?_
    show own_Fin _ _ _ _ (s₁.setTop (mkF m 21 #[.val (.ref a1), .val (.ref a1), .val (.int (4 : Int32)), .unset, .unset] [(.int (0 : Int32))]))
    refine own_go (XS.istoreN X0.here hx rfl (hb hby d1_21) rfl (l' := #[.val (.ref a1), .val (.ref a1), .val (.int (4 : Int32)), .val (.int (0 : Int32)), .unset]) rfl (Steps.refl _)) ?_
    show own_Fin _ _ _ _ (s₁.setTop (mkF m 22 #[.val (.ref a1), .val (.ref a1), .val (.int (4 : Int32)), .val (.int (0 : Int32)), .unset] []))
    refine own_go (XS.iloadN X0.here hx rfl (hb hby d1_22) rfl (Steps.refl _)) ?_
    show own_Fin _ _ _ _ (s₁.setTop (mkF m 23 #[.val (.ref a1), .val (.ref a1), .val (.int (4 : Int32)), .val (.int (0 : Int32)), .unset] [(.int (0 : Int32))]))
    refine own_go (XS.iloadN X0.here hx rfl (hb hby d1_23) rfl (Steps.refl _)) ?_
    show own_Fin _ _ _ _ (s₁.setTop (mkF m 24 #[.val (.ref a1), .val (.ref a1), .val (.int (4 : Int32)), .val (.int (0 : Int32)), .unset] [(.int (4 : Int32)), (.int (0 : Int32))]))
    refine own_go (XS.icmpNo X0.here hx rfl (hb hby d1_24) rfl (tlt (by decide : (0 : Int32) < (4 : Int32))).2.1 (Steps.refl _)) ?_
    show own_Fin _ _ _ _ (s₁.setTop (mkF m 27 #[.val (.ref a1), .val (.ref a1), .val (.int (4 : Int32)), .val (.int (0 : Int32)), .unset] []))
    refine own_go (XS.aloadN X0.here hx rfl (hb hby d1_27) rfl rfl (Steps.refl _)) ?_
    show own_Fin _ _ _ _ (s₁.setTop (mkF m 28 #[.val (.ref a1), .val (.ref a1), .val (.int (4 : Int32)), .val (.int (0 : Int32)), .unset] [(.ref a1)]))
    refine own_go (XS.iloadN X0.here hx rfl (hb hby d1_28) rfl (Steps.refl _)) ?_
    show own_Fin _ _ _ _ (s₁.setTop (mkF m 29 #[.val (.ref a1), .val (.ref a1), .val (.int (4 : Int32)), .val (.int (0 : Int32)), .unset] [(.int (0 : Int32)), (.ref a1)]))
    obtain ⟨cl76, Ar76, qa76, Sa76, Na76, Ha76, Ga76⟩ := id V_a1
    have hin76 : ¬ ((0 : Int32) < 0 ∨ cl76.slots.size ≤ ((0 : Int32)).toNatClampNeg) := inb_of Sa76 ⟨by decide, by decide⟩
    have hat76 : cl76.slots[((0 : Int32)).toNatClampNeg]? = some (.int b0) := Has.at Ha76 hin76 rfl
    refine own_by (X0.baloadBytes hx (j := (0 : Int32)) (v := (.int b0)) (by rw [e0]; exact Ar76.1) (State.isArrayOf_alike hZ.alike Ar76.2.1) Ar76.2.2 hin76 hat76 (g := (mkF m 29 #[.val (.ref a1), .val (.ref a1), .val (.int (4 : Int32)), .val (.int (0 : Int32)), .unset] [(.int (0 : Int32)), (.ref a1)])) rfl rfl (hb hby d1_29)) ?_
    show own_Fin _ _ _ _ (s₁.setTop (mkF m 30 #[.val (.ref a1), .val (.ref a1), .val (.int (4 : Int32)), .val (.int (0 : Int32)), .unset] [(.int b0)]))
    refine own_go (XS.istore X0.here hx rfl (hb hby d1_30) rfl (l' := #[.val (.ref a1), .val (.ref a1), .val (.int (4 : Int32)), .val (.int (0 : Int32)), .val (.int b0)]) rfl (Steps.refl _)) ?_
    show own_Fin _ _ _ _ (s₁.setTop (mkF m 32 #[.val (.ref a1), .val (.ref a1), .val (.int (4 : Int32)), .val (.int (0 : Int32)), .val (.int b0)] []))
    refine own_go (XS.iload X0.here hx rfl (hb hby d1_32) rfl (Steps.refl _)) ?_
    show own_Fin _ _ _ _ (s₁.setTop (mkF m 34 #[.val (.ref a1), .val (.ref a1), .val (.int (4 : Int32)), .val (.int (0 : Int32)), .val (.int b0)] [(.int b0)]))
    refine own_go (XS.bipush X0.here hx rfl (hb hby d1_34) (Steps.refl _)) ?_
    show own_Fin _ _ _ _ (s₁.setTop (mkF m 36 #[.val (.ref a1), .val (.ref a1), .val (.int (4 : Int32)), .val (.int (0 : Int32)), .val (.int b0)] [(.int (44 : Int32)), (.int b0)]))
    by_cases c36_77 : b0 = (44 : Int32)
    · refine own_go (XS.icmpYes X0.here hx rfl (pc0 := 36) (pc' := 53) rfl (hb hby d1_36) rfl (teq c36_77).1 (by decide) (by decide) (Steps.refl _)) ?_
      show own_Fin _ _ _ _ (s₁.setTop (mkF m 53 #[.val (.ref a1), .val (.ref a1), .val (.int (4 : Int32)), .val (.int (0 : Int32)), .val (.int b0)] []))
      refine own_go (XS.iconst X0.here hx rfl (hb hby d1_53) (Steps.refl _)) ?_
      show own_Fin _ _ _ _ (s₁.setTop (mkF m 54 #[.val (.ref a1), .val (.ref a1), .val (.int (4 : Int32)), .val (.int (0 : Int32)), .val (.int b0)] [(.int (0 : Int32))]))
      obtain ⟨fs78, hr78, hrun78, hended78, hW78, hsame78⟩ := X0.leave (v := some (.int (0 : Int32))) (fun h => by rw [Bd.returns] at h; cases h)
      refine own_done (retN X0 hx (t := .boolean) Bd.returns (by simp) (hb hby d1_54) hr78) hrun78 hended78 ⟨_, _, rfl, ?_, ⟨_, rfl⟩, hW78, hsame78.mono (by decide) (by decide)⟩
      show Q1_4 Z a1 k b0 b1 b2 b3 h0 n0 _ s₁.heap _
      rw [e0]
      exact ⟨by simp [own_bad, c10_73, c36_77], N0, rfl⟩
    · refine own_go (XS.icmpNo X0.here hx rfl (hb hby d1_36) rfl (feq c36_77).1 (Steps.refl _)) ?_
      show own_Fin _ _ _ _ (s₁.setTop (mkF m 39 #[.val (.ref a1), .val (.ref a1), .val (.int (4 : Int32)), .val (.int (0 : Int32)), .val (.int b0)] []))
      refine own_go (XS.iload X0.here hx rfl (hb hby d1_39) rfl (Steps.refl _)) ?_
      show own_Fin _ _ _ _ (s₁.setTop (mkF m 41 #[.val (.ref a1), .val (.ref a1), .val (.int (4 : Int32)), .val (.int (0 : Int32)), .val (.int b0)] [(.int b0)]))
      refine own_go (XS.bipush X0.here hx rfl (hb hby d1_41) (Steps.refl _)) ?_
      show own_Fin _ _ _ _ (s₁.setTop (mkF m 43 #[.val (.ref a1), .val (.ref a1), .val (.int (4 : Int32)), .val (.int (0 : Int32)), .val (.int b0)] [(.int (10 : Int32)), (.int b0)]))
      by_cases c43_79 : b0 = (10 : Int32)
      · refine own_go (XS.icmpYes X0.here hx rfl (pc0 := 43) (pc' := 53) rfl (hb hby d1_43) rfl (teq c43_79).1 (by decide) (by decide) (Steps.refl _)) ?_
        show own_Fin _ _ _ _ (s₁.setTop (mkF m 53 #[.val (.ref a1), .val (.ref a1), .val (.int (4 : Int32)), .val (.int (0 : Int32)), .val (.int b0)] []))
        refine own_go (XS.iconst X0.here hx rfl (hb hby d1_53) (Steps.refl _)) ?_
        show own_Fin _ _ _ _ (s₁.setTop (mkF m 54 #[.val (.ref a1), .val (.ref a1), .val (.int (4 : Int32)), .val (.int (0 : Int32)), .val (.int b0)] [(.int (0 : Int32))]))
        obtain ⟨fs80, hr80, hrun80, hended80, hW80, hsame80⟩ := X0.leave (v := some (.int (0 : Int32))) (fun h => by rw [Bd.returns] at h; cases h)
        refine own_done (retN X0 hx (t := .boolean) Bd.returns (by simp) (hb hby d1_54) hr80) hrun80 hended80 ⟨_, _, rfl, ?_, ⟨_, rfl⟩, hW80, hsame80.mono (by decide) (by decide)⟩
        show Q1_4 Z a1 k b0 b1 b2 b3 h0 n0 _ s₁.heap _
        rw [e0]
        exact ⟨by simp [own_bad, c10_73, c36_77, c43_79], N0, rfl⟩
      · refine own_go (XS.icmpNo X0.here hx rfl (hb hby d1_43) rfl (feq c43_79).1 (Steps.refl _)) ?_
        show own_Fin _ _ _ _ (s₁.setTop (mkF m 46 #[.val (.ref a1), .val (.ref a1), .val (.int (4 : Int32)), .val (.int (0 : Int32)), .val (.int b0)] []))
        refine own_go (XS.iload X0.here hx rfl (hb hby d1_46) rfl (Steps.refl _)) ?_
        show own_Fin _ _ _ _ (s₁.setTop (mkF m 48 #[.val (.ref a1), .val (.ref a1), .val (.int (4 : Int32)), .val (.int (0 : Int32)), .val (.int b0)] [(.int b0)]))
        refine own_go (XS.bipush X0.here hx rfl (hb hby d1_48) (Steps.refl _)) ?_
        show own_Fin _ _ _ _ (s₁.setTop (mkF m 50 #[.val (.ref a1), .val (.ref a1), .val (.int (4 : Int32)), .val (.int (0 : Int32)), .val (.int b0)] [(.int (13 : Int32)), (.int b0)]))
        by_cases c50_81 : b0 = (13 : Int32)
        · refine own_go (XS.icmpNo X0.here hx rfl (hb hby d1_50) rfl (teq c50_81).2 (Steps.refl _)) ?_
          show own_Fin _ _ _ _ (s₁.setTop (mkF m 53 #[.val (.ref a1), .val (.ref a1), .val (.int (4 : Int32)), .val (.int (0 : Int32)), .val (.int b0)] []))
          refine own_go (XS.iconst X0.here hx rfl (hb hby d1_53) (Steps.refl _)) ?_
          show own_Fin _ _ _ _ (s₁.setTop (mkF m 54 #[.val (.ref a1), .val (.ref a1), .val (.int (4 : Int32)), .val (.int (0 : Int32)), .val (.int b0)] [(.int (0 : Int32))]))
          obtain ⟨fs82, hr82, hrun82, hended82, hW82, hsame82⟩ := X0.leave (v := some (.int (0 : Int32))) (fun h => by rw [Bd.returns] at h; cases h)
          refine own_done (retN X0 hx (t := .boolean) Bd.returns (by simp) (hb hby d1_54) hr82) hrun82 hended82 ⟨_, _, rfl, ?_, ⟨_, rfl⟩, hW82, hsame82.mono (by decide) (by decide)⟩
          show Q1_4 Z a1 k b0 b1 b2 b3 h0 n0 _ s₁.heap _
          rw [e0]
          exact ⟨by simp [own_bad, c10_73, c36_77, c43_79, c50_81], N0, rfl⟩
        · refine own_go (XS.icmpYes X0.here hx rfl (pc0 := 50) (pc' := 55) rfl (hb hby d1_50) rfl (feq c50_81).2 (by decide) (by decide) (Steps.refl _)) ?_
          show own_Fin _ _ _ _ (s₁.setTop (mkF m 55 #[.val (.ref a1), .val (.ref a1), .val (.int (4 : Int32)), .val (.int (0 : Int32)), .val (.int b0)] []))
          refine own_go (XS.iinc X0.here hx rfl (hb hby d1_55) rfl (l' := #[.val (.ref a1), .val (.ref a1), .val (.int (4 : Int32)), .val (.int (1 : Int32)), .val (.int b0)]) rfl (Steps.refl _)) ?_
          show own_Fin _ _ _ _ (s₁.setTop (mkF m 58 #[.val (.ref a1), .val (.ref a1), .val (.int (4 : Int32)), .val (.int (1 : Int32)), .val (.int b0)] []))
          refine own_go (XS.goto X0.here hx rfl (pc0 := 58) (pc' := 22) rfl (hb hby d1_58) (by decide) (by decide) (Steps.refl _)) ?_
          show own_Fin _ _ _ _ (s₁.setTop (mkF m 22 #[.val (.ref a1), .val (.ref a1), .val (.int (4 : Int32)), .val (.int (1 : Int32)), .val (.int b0)] []))
          refine own_go (XS.iloadN X0.here hx rfl (hb hby d1_22) rfl (Steps.refl _)) ?_
          show own_Fin _ _ _ _ (s₁.setTop (mkF m 23 #[.val (.ref a1), .val (.ref a1), .val (.int (4 : Int32)), .val (.int (1 : Int32)), .val (.int b0)] [(.int (1 : Int32))]))
          refine own_go (XS.iloadN X0.here hx rfl (hb hby d1_23) rfl (Steps.refl _)) ?_
          show own_Fin _ _ _ _ (s₁.setTop (mkF m 24 #[.val (.ref a1), .val (.ref a1), .val (.int (4 : Int32)), .val (.int (1 : Int32)), .val (.int b0)] [(.int (4 : Int32)), (.int (1 : Int32))]))
          refine own_go (XS.icmpNo X0.here hx rfl (hb hby d1_24) rfl (tlt (by decide : (1 : Int32) < (4 : Int32))).2.1 (Steps.refl _)) ?_
          show own_Fin _ _ _ _ (s₁.setTop (mkF m 27 #[.val (.ref a1), .val (.ref a1), .val (.int (4 : Int32)), .val (.int (1 : Int32)), .val (.int b0)] []))
          refine own_go (XS.aloadN X0.here hx rfl (hb hby d1_27) rfl rfl (Steps.refl _)) ?_
          show own_Fin _ _ _ _ (s₁.setTop (mkF m 28 #[.val (.ref a1), .val (.ref a1), .val (.int (4 : Int32)), .val (.int (1 : Int32)), .val (.int b0)] [(.ref a1)]))
          refine own_go (XS.iloadN X0.here hx rfl (hb hby d1_28) rfl (Steps.refl _)) ?_
          show own_Fin _ _ _ _ (s₁.setTop (mkF m 29 #[.val (.ref a1), .val (.ref a1), .val (.int (4 : Int32)), .val (.int (1 : Int32)), .val (.int b0)] [(.int (1 : Int32)), (.ref a1)]))
          obtain ⟨cl83, Ar83, qa83, Sa83, Na83, Ha83, Ga83⟩ := id V_a1
          have hin83 : ¬ ((1 : Int32) < 0 ∨ cl83.slots.size ≤ ((1 : Int32)).toNatClampNeg) := inb_of Sa83 ⟨by decide, by decide⟩
          have hat83 : cl83.slots[((1 : Int32)).toNatClampNeg]? = some (.int b1) := Has.at Ha83 hin83 rfl
          refine own_by (X0.baloadBytes hx (j := (1 : Int32)) (v := (.int b1)) (by rw [e0]; exact Ar83.1) (State.isArrayOf_alike hZ.alike Ar83.2.1) Ar83.2.2 hin83 hat83 (g := (mkF m 29 #[.val (.ref a1), .val (.ref a1), .val (.int (4 : Int32)), .val (.int (1 : Int32)), .val (.int b0)] [(.int (1 : Int32)), (.ref a1)])) rfl rfl (hb hby d1_29)) ?_
          show own_Fin _ _ _ _ (s₁.setTop (mkF m 30 #[.val (.ref a1), .val (.ref a1), .val (.int (4 : Int32)), .val (.int (1 : Int32)), .val (.int b0)] [(.int b1)]))
          refine own_go (XS.istore X0.here hx rfl (hb hby d1_30) rfl (l' := #[.val (.ref a1), .val (.ref a1), .val (.int (4 : Int32)), .val (.int (1 : Int32)), .val (.int b1)]) rfl (Steps.refl _)) ?_
          show own_Fin _ _ _ _ (s₁.setTop (mkF m 32 #[.val (.ref a1), .val (.ref a1), .val (.int (4 : Int32)), .val (.int (1 : Int32)), .val (.int b1)] []))
          refine own_go (XS.iload X0.here hx rfl (hb hby d1_32) rfl (Steps.refl _)) ?_
          show own_Fin _ _ _ _ (s₁.setTop (mkF m 34 #[.val (.ref a1), .val (.ref a1), .val (.int (4 : Int32)), .val (.int (1 : Int32)), .val (.int b1)] [(.int b1)]))
          refine own_go (XS.bipush X0.here hx rfl (hb hby d1_34) (Steps.refl _)) ?_
          show own_Fin _ _ _ _ (s₁.setTop (mkF m 36 #[.val (.ref a1), .val (.ref a1), .val (.int (4 : Int32)), .val (.int (1 : Int32)), .val (.int b1)] [(.int (44 : Int32)), (.int b1)]))
          by_cases c36_84 : b1 = (44 : Int32)
          · refine own_go (XS.icmpYes X0.here hx rfl (pc0 := 36) (pc' := 53) rfl (hb hby d1_36) rfl (teq c36_84).1 (by decide) (by decide) (Steps.refl _)) ?_
            show own_Fin _ _ _ _ (s₁.setTop (mkF m 53 #[.val (.ref a1), .val (.ref a1), .val (.int (4 : Int32)), .val (.int (1 : Int32)), .val (.int b1)] []))
            refine own_go (XS.iconst X0.here hx rfl (hb hby d1_53) (Steps.refl _)) ?_
            show own_Fin _ _ _ _ (s₁.setTop (mkF m 54 #[.val (.ref a1), .val (.ref a1), .val (.int (4 : Int32)), .val (.int (1 : Int32)), .val (.int b1)] [(.int (0 : Int32))]))
            obtain ⟨fs85, hr85, hrun85, hended85, hW85, hsame85⟩ := X0.leave (v := some (.int (0 : Int32))) (fun h => by rw [Bd.returns] at h; cases h)
            refine own_done (retN X0 hx (t := .boolean) Bd.returns (by simp) (hb hby d1_54) hr85) hrun85 hended85 ⟨_, _, rfl, ?_, ⟨_, rfl⟩, hW85, hsame85.mono (by decide) (by decide)⟩
            show Q1_4 Z a1 k b0 b1 b2 b3 h0 n0 _ s₁.heap _
            rw [e0]
            exact ⟨by simp [own_bad, c10_73, c36_77, c43_79, c50_81, c36_84], N0, rfl⟩
          · refine own_go (XS.icmpNo X0.here hx rfl (hb hby d1_36) rfl (feq c36_84).1 (Steps.refl _)) ?_
            show own_Fin _ _ _ _ (s₁.setTop (mkF m 39 #[.val (.ref a1), .val (.ref a1), .val (.int (4 : Int32)), .val (.int (1 : Int32)), .val (.int b1)] []))
            refine own_go (XS.iload X0.here hx rfl (hb hby d1_39) rfl (Steps.refl _)) ?_
            show own_Fin _ _ _ _ (s₁.setTop (mkF m 41 #[.val (.ref a1), .val (.ref a1), .val (.int (4 : Int32)), .val (.int (1 : Int32)), .val (.int b1)] [(.int b1)]))
            refine own_go (XS.bipush X0.here hx rfl (hb hby d1_41) (Steps.refl _)) ?_
            show own_Fin _ _ _ _ (s₁.setTop (mkF m 43 #[.val (.ref a1), .val (.ref a1), .val (.int (4 : Int32)), .val (.int (1 : Int32)), .val (.int b1)] [(.int (10 : Int32)), (.int b1)]))
            by_cases c43_86 : b1 = (10 : Int32)
            · refine own_go (XS.icmpYes X0.here hx rfl (pc0 := 43) (pc' := 53) rfl (hb hby d1_43) rfl (teq c43_86).1 (by decide) (by decide) (Steps.refl _)) ?_
              show own_Fin _ _ _ _ (s₁.setTop (mkF m 53 #[.val (.ref a1), .val (.ref a1), .val (.int (4 : Int32)), .val (.int (1 : Int32)), .val (.int b1)] []))
              refine own_go (XS.iconst X0.here hx rfl (hb hby d1_53) (Steps.refl _)) ?_
              show own_Fin _ _ _ _ (s₁.setTop (mkF m 54 #[.val (.ref a1), .val (.ref a1), .val (.int (4 : Int32)), .val (.int (1 : Int32)), .val (.int b1)] [(.int (0 : Int32))]))
              obtain ⟨fs87, hr87, hrun87, hended87, hW87, hsame87⟩ := X0.leave (v := some (.int (0 : Int32))) (fun h => by rw [Bd.returns] at h; cases h)
              refine own_done (retN X0 hx (t := .boolean) Bd.returns (by simp) (hb hby d1_54) hr87) hrun87 hended87 ⟨_, _, rfl, ?_, ⟨_, rfl⟩, hW87, hsame87.mono (by decide) (by decide)⟩
              show Q1_4 Z a1 k b0 b1 b2 b3 h0 n0 _ s₁.heap _
              rw [e0]
              exact ⟨by simp [own_bad, c10_73, c36_77, c43_79, c50_81, c36_84, c43_86], N0, rfl⟩
            · refine own_go (XS.icmpNo X0.here hx rfl (hb hby d1_43) rfl (feq c43_86).1 (Steps.refl _)) ?_
              show own_Fin _ _ _ _ (s₁.setTop (mkF m 46 #[.val (.ref a1), .val (.ref a1), .val (.int (4 : Int32)), .val (.int (1 : Int32)), .val (.int b1)] []))
              refine own_go (XS.iload X0.here hx rfl (hb hby d1_46) rfl (Steps.refl _)) ?_
              show own_Fin _ _ _ _ (s₁.setTop (mkF m 48 #[.val (.ref a1), .val (.ref a1), .val (.int (4 : Int32)), .val (.int (1 : Int32)), .val (.int b1)] [(.int b1)]))
              refine own_go (XS.bipush X0.here hx rfl (hb hby d1_48) (Steps.refl _)) ?_
              show own_Fin _ _ _ _ (s₁.setTop (mkF m 50 #[.val (.ref a1), .val (.ref a1), .val (.int (4 : Int32)), .val (.int (1 : Int32)), .val (.int b1)] [(.int (13 : Int32)), (.int b1)]))
              by_cases c50_88 : b1 = (13 : Int32)
              · refine own_go (XS.icmpNo X0.here hx rfl (hb hby d1_50) rfl (teq c50_88).2 (Steps.refl _)) ?_
                show own_Fin _ _ _ _ (s₁.setTop (mkF m 53 #[.val (.ref a1), .val (.ref a1), .val (.int (4 : Int32)), .val (.int (1 : Int32)), .val (.int b1)] []))
                refine own_go (XS.iconst X0.here hx rfl (hb hby d1_53) (Steps.refl _)) ?_
                show own_Fin _ _ _ _ (s₁.setTop (mkF m 54 #[.val (.ref a1), .val (.ref a1), .val (.int (4 : Int32)), .val (.int (1 : Int32)), .val (.int b1)] [(.int (0 : Int32))]))
                obtain ⟨fs89, hr89, hrun89, hended89, hW89, hsame89⟩ := X0.leave (v := some (.int (0 : Int32))) (fun h => by rw [Bd.returns] at h; cases h)
                refine own_done (retN X0 hx (t := .boolean) Bd.returns (by simp) (hb hby d1_54) hr89) hrun89 hended89 ⟨_, _, rfl, ?_, ⟨_, rfl⟩, hW89, hsame89.mono (by decide) (by decide)⟩
                show Q1_4 Z a1 k b0 b1 b2 b3 h0 n0 _ s₁.heap _
                rw [e0]
                exact ⟨by simp [own_bad, c10_73, c36_77, c43_79, c50_81, c36_84, c43_86, c50_88], N0, rfl⟩
              · refine own_go (XS.icmpYes X0.here hx rfl (pc0 := 50) (pc' := 55) rfl (hb hby d1_50) rfl (feq c50_88).2 (by decide) (by decide) (Steps.refl _)) ?_
                show own_Fin _ _ _ _ (s₁.setTop (mkF m 55 #[.val (.ref a1), .val (.ref a1), .val (.int (4 : Int32)), .val (.int (1 : Int32)), .val (.int b1)] []))
                refine own_go (XS.iinc X0.here hx rfl (hb hby d1_55) rfl (l' := #[.val (.ref a1), .val (.ref a1), .val (.int (4 : Int32)), .val (.int (2 : Int32)), .val (.int b1)]) rfl (Steps.refl _)) ?_
                show own_Fin _ _ _ _ (s₁.setTop (mkF m 58 #[.val (.ref a1), .val (.ref a1), .val (.int (4 : Int32)), .val (.int (2 : Int32)), .val (.int b1)] []))
                refine own_go (XS.goto X0.here hx rfl (pc0 := 58) (pc' := 22) rfl (hb hby d1_58) (by decide) (by decide) (Steps.refl _)) ?_
                show own_Fin _ _ _ _ (s₁.setTop (mkF m 22 #[.val (.ref a1), .val (.ref a1), .val (.int (4 : Int32)), .val (.int (2 : Int32)), .val (.int b1)] []))
                refine own_go (XS.iloadN X0.here hx rfl (hb hby d1_22) rfl (Steps.refl _)) ?_
                show own_Fin _ _ _ _ (s₁.setTop (mkF m 23 #[.val (.ref a1), .val (.ref a1), .val (.int (4 : Int32)), .val (.int (2 : Int32)), .val (.int b1)] [(.int (2 : Int32))]))
                refine own_go (XS.iloadN X0.here hx rfl (hb hby d1_23) rfl (Steps.refl _)) ?_
                show own_Fin _ _ _ _ (s₁.setTop (mkF m 24 #[.val (.ref a1), .val (.ref a1), .val (.int (4 : Int32)), .val (.int (2 : Int32)), .val (.int b1)] [(.int (4 : Int32)), (.int (2 : Int32))]))
                refine own_go (XS.icmpNo X0.here hx rfl (hb hby d1_24) rfl (tlt (by decide : (2 : Int32) < (4 : Int32))).2.1 (Steps.refl _)) ?_
                show own_Fin _ _ _ _ (s₁.setTop (mkF m 27 #[.val (.ref a1), .val (.ref a1), .val (.int (4 : Int32)), .val (.int (2 : Int32)), .val (.int b1)] []))
                refine own_go (XS.aloadN X0.here hx rfl (hb hby d1_27) rfl rfl (Steps.refl _)) ?_
                show own_Fin _ _ _ _ (s₁.setTop (mkF m 28 #[.val (.ref a1), .val (.ref a1), .val (.int (4 : Int32)), .val (.int (2 : Int32)), .val (.int b1)] [(.ref a1)]))
                refine own_go (XS.iloadN X0.here hx rfl (hb hby d1_28) rfl (Steps.refl _)) ?_
                show own_Fin _ _ _ _ (s₁.setTop (mkF m 29 #[.val (.ref a1), .val (.ref a1), .val (.int (4 : Int32)), .val (.int (2 : Int32)), .val (.int b1)] [(.int (2 : Int32)), (.ref a1)]))
                obtain ⟨cl90, Ar90, qa90, Sa90, Na90, Ha90, Ga90⟩ := id V_a1
                have hin90 : ¬ ((2 : Int32) < 0 ∨ cl90.slots.size ≤ ((2 : Int32)).toNatClampNeg) := inb_of Sa90 ⟨by decide, by decide⟩
                have hat90 : cl90.slots[((2 : Int32)).toNatClampNeg]? = some (.int b2) := Has.at Ha90 hin90 rfl
                refine own_by (X0.baloadBytes hx (j := (2 : Int32)) (v := (.int b2)) (by rw [e0]; exact Ar90.1) (State.isArrayOf_alike hZ.alike Ar90.2.1) Ar90.2.2 hin90 hat90 (g := (mkF m 29 #[.val (.ref a1), .val (.ref a1), .val (.int (4 : Int32)), .val (.int (2 : Int32)), .val (.int b1)] [(.int (2 : Int32)), (.ref a1)])) rfl rfl (hb hby d1_29)) ?_
                show own_Fin _ _ _ _ (s₁.setTop (mkF m 30 #[.val (.ref a1), .val (.ref a1), .val (.int (4 : Int32)), .val (.int (2 : Int32)), .val (.int b1)] [(.int b2)]))
                refine own_go (XS.istore X0.here hx rfl (hb hby d1_30) rfl (l' := #[.val (.ref a1), .val (.ref a1), .val (.int (4 : Int32)), .val (.int (2 : Int32)), .val (.int b2)]) rfl (Steps.refl _)) ?_
                show own_Fin _ _ _ _ (s₁.setTop (mkF m 32 #[.val (.ref a1), .val (.ref a1), .val (.int (4 : Int32)), .val (.int (2 : Int32)), .val (.int b2)] []))
                refine own_go (XS.iload X0.here hx rfl (hb hby d1_32) rfl (Steps.refl _)) ?_
                show own_Fin _ _ _ _ (s₁.setTop (mkF m 34 #[.val (.ref a1), .val (.ref a1), .val (.int (4 : Int32)), .val (.int (2 : Int32)), .val (.int b2)] [(.int b2)]))
                refine own_go (XS.bipush X0.here hx rfl (hb hby d1_34) (Steps.refl _)) ?_
                show own_Fin _ _ _ _ (s₁.setTop (mkF m 36 #[.val (.ref a1), .val (.ref a1), .val (.int (4 : Int32)), .val (.int (2 : Int32)), .val (.int b2)] [(.int (44 : Int32)), (.int b2)]))
                by_cases c36_91 : b2 = (44 : Int32)
                · refine own_go (XS.icmpYes X0.here hx rfl (pc0 := 36) (pc' := 53) rfl (hb hby d1_36) rfl (teq c36_91).1 (by decide) (by decide) (Steps.refl _)) ?_
                  show own_Fin _ _ _ _ (s₁.setTop (mkF m 53 #[.val (.ref a1), .val (.ref a1), .val (.int (4 : Int32)), .val (.int (2 : Int32)), .val (.int b2)] []))
                  refine own_go (XS.iconst X0.here hx rfl (hb hby d1_53) (Steps.refl _)) ?_
                  show own_Fin _ _ _ _ (s₁.setTop (mkF m 54 #[.val (.ref a1), .val (.ref a1), .val (.int (4 : Int32)), .val (.int (2 : Int32)), .val (.int b2)] [(.int (0 : Int32))]))
                  obtain ⟨fs92, hr92, hrun92, hended92, hW92, hsame92⟩ := X0.leave (v := some (.int (0 : Int32))) (fun h => by rw [Bd.returns] at h; cases h)
                  refine own_done (retN X0 hx (t := .boolean) Bd.returns (by simp) (hb hby d1_54) hr92) hrun92 hended92 ⟨_, _, rfl, ?_, ⟨_, rfl⟩, hW92, hsame92.mono (by decide) (by decide)⟩
                  show Q1_4 Z a1 k b0 b1 b2 b3 h0 n0 _ s₁.heap _
                  rw [e0]
                  exact ⟨by simp [own_bad, c10_73, c36_77, c43_79, c50_81, c36_84, c43_86, c50_88, c36_91], N0, rfl⟩
                · refine own_go (XS.icmpNo X0.here hx rfl (hb hby d1_36) rfl (feq c36_91).1 (Steps.refl _)) ?_
                  show own_Fin _ _ _ _ (s₁.setTop (mkF m 39 #[.val (.ref a1), .val (.ref a1), .val (.int (4 : Int32)), .val (.int (2 : Int32)), .val (.int b2)] []))
                  refine own_go (XS.iload X0.here hx rfl (hb hby d1_39) rfl (Steps.refl _)) ?_
                  show own_Fin _ _ _ _ (s₁.setTop (mkF m 41 #[.val (.ref a1), .val (.ref a1), .val (.int (4 : Int32)), .val (.int (2 : Int32)), .val (.int b2)] [(.int b2)]))
                  refine own_go (XS.bipush X0.here hx rfl (hb hby d1_41) (Steps.refl _)) ?_
                  show own_Fin _ _ _ _ (s₁.setTop (mkF m 43 #[.val (.ref a1), .val (.ref a1), .val (.int (4 : Int32)), .val (.int (2 : Int32)), .val (.int b2)] [(.int (10 : Int32)), (.int b2)]))
                  by_cases c43_93 : b2 = (10 : Int32)
                  · refine own_go (XS.icmpYes X0.here hx rfl (pc0 := 43) (pc' := 53) rfl (hb hby d1_43) rfl (teq c43_93).1 (by decide) (by decide) (Steps.refl _)) ?_
                    show own_Fin _ _ _ _ (s₁.setTop (mkF m 53 #[.val (.ref a1), .val (.ref a1), .val (.int (4 : Int32)), .val (.int (2 : Int32)), .val (.int b2)] []))
                    refine own_go (XS.iconst X0.here hx rfl (hb hby d1_53) (Steps.refl _)) ?_
                    show own_Fin _ _ _ _ (s₁.setTop (mkF m 54 #[.val (.ref a1), .val (.ref a1), .val (.int (4 : Int32)), .val (.int (2 : Int32)), .val (.int b2)] [(.int (0 : Int32))]))
                    obtain ⟨fs94, hr94, hrun94, hended94, hW94, hsame94⟩ := X0.leave (v := some (.int (0 : Int32))) (fun h => by rw [Bd.returns] at h; cases h)
                    refine own_done (retN X0 hx (t := .boolean) Bd.returns (by simp) (hb hby d1_54) hr94) hrun94 hended94 ⟨_, _, rfl, ?_, ⟨_, rfl⟩, hW94, hsame94.mono (by decide) (by decide)⟩
                    show Q1_4 Z a1 k b0 b1 b2 b3 h0 n0 _ s₁.heap _
                    rw [e0]
                    exact ⟨by simp [own_bad, c10_73, c36_77, c43_79, c50_81, c36_84, c43_86, c50_88, c36_91, c43_93], N0, rfl⟩
                  · refine own_go (XS.icmpNo X0.here hx rfl (hb hby d1_43) rfl (feq c43_93).1 (Steps.refl _)) ?_
                    show own_Fin _ _ _ _ (s₁.setTop (mkF m 46 #[.val (.ref a1), .val (.ref a1), .val (.int (4 : Int32)), .val (.int (2 : Int32)), .val (.int b2)] []))
                    refine own_go (XS.iload X0.here hx rfl (hb hby d1_46) rfl (Steps.refl _)) ?_
                    show own_Fin _ _ _ _ (s₁.setTop (mkF m 48 #[.val (.ref a1), .val (.ref a1), .val (.int (4 : Int32)), .val (.int (2 : Int32)), .val (.int b2)] [(.int b2)]))
                    refine own_go (XS.bipush X0.here hx rfl (hb hby d1_48) (Steps.refl _)) ?_
                    show own_Fin _ _ _ _ (s₁.setTop (mkF m 50 #[.val (.ref a1), .val (.ref a1), .val (.int (4 : Int32)), .val (.int (2 : Int32)), .val (.int b2)] [(.int (13 : Int32)), (.int b2)]))
                    by_cases c50_95 : b2 = (13 : Int32)
                    · refine own_go (XS.icmpNo X0.here hx rfl (hb hby d1_50) rfl (teq c50_95).2 (Steps.refl _)) ?_
                      show own_Fin _ _ _ _ (s₁.setTop (mkF m 53 #[.val (.ref a1), .val (.ref a1), .val (.int (4 : Int32)), .val (.int (2 : Int32)), .val (.int b2)] []))
                      refine own_go (XS.iconst X0.here hx rfl (hb hby d1_53) (Steps.refl _)) ?_
                      show own_Fin _ _ _ _ (s₁.setTop (mkF m 54 #[.val (.ref a1), .val (.ref a1), .val (.int (4 : Int32)), .val (.int (2 : Int32)), .val (.int b2)] [(.int (0 : Int32))]))
                      obtain ⟨fs96, hr96, hrun96, hended96, hW96, hsame96⟩ := X0.leave (v := some (.int (0 : Int32))) (fun h => by rw [Bd.returns] at h; cases h)
                      refine own_done (retN X0 hx (t := .boolean) Bd.returns (by simp) (hb hby d1_54) hr96) hrun96 hended96 ⟨_, _, rfl, ?_, ⟨_, rfl⟩, hW96, hsame96.mono (by decide) (by decide)⟩
                      show Q1_4 Z a1 k b0 b1 b2 b3 h0 n0 _ s₁.heap _
                      rw [e0]
                      exact ⟨by simp [own_bad, c10_73, c36_77, c43_79, c50_81, c36_84, c43_86, c50_88, c36_91, c43_93, c50_95], N0, rfl⟩
                    · refine own_go (XS.icmpYes X0.here hx rfl (pc0 := 50) (pc' := 55) rfl (hb hby d1_50) rfl (feq c50_95).2 (by decide) (by decide) (Steps.refl _)) ?_
                      show own_Fin _ _ _ _ (s₁.setTop (mkF m 55 #[.val (.ref a1), .val (.ref a1), .val (.int (4 : Int32)), .val (.int (2 : Int32)), .val (.int b2)] []))
                      refine own_go (XS.iinc X0.here hx rfl (hb hby d1_55) rfl (l' := #[.val (.ref a1), .val (.ref a1), .val (.int (4 : Int32)), .val (.int (3 : Int32)), .val (.int b2)]) rfl (Steps.refl _)) ?_
                      show own_Fin _ _ _ _ (s₁.setTop (mkF m 58 #[.val (.ref a1), .val (.ref a1), .val (.int (4 : Int32)), .val (.int (3 : Int32)), .val (.int b2)] []))
                      refine own_go (XS.goto X0.here hx rfl (pc0 := 58) (pc' := 22) rfl (hb hby d1_58) (by decide) (by decide) (Steps.refl _)) ?_
                      show own_Fin _ _ _ _ (s₁.setTop (mkF m 22 #[.val (.ref a1), .val (.ref a1), .val (.int (4 : Int32)), .val (.int (3 : Int32)), .val (.int b2)] []))
                      refine own_go (XS.iloadN X0.here hx rfl (hb hby d1_22) rfl (Steps.refl _)) ?_
                      show own_Fin _ _ _ _ (s₁.setTop (mkF m 23 #[.val (.ref a1), .val (.ref a1), .val (.int (4 : Int32)), .val (.int (3 : Int32)), .val (.int b2)] [(.int (3 : Int32))]))
                      refine own_go (XS.iloadN X0.here hx rfl (hb hby d1_23) rfl (Steps.refl _)) ?_
                      show own_Fin _ _ _ _ (s₁.setTop (mkF m 24 #[.val (.ref a1), .val (.ref a1), .val (.int (4 : Int32)), .val (.int (3 : Int32)), .val (.int b2)] [(.int (4 : Int32)), (.int (3 : Int32))]))
                      refine own_go (XS.icmpNo X0.here hx rfl (hb hby d1_24) rfl (tlt (by decide : (3 : Int32) < (4 : Int32))).2.1 (Steps.refl _)) ?_
                      show own_Fin _ _ _ _ (s₁.setTop (mkF m 27 #[.val (.ref a1), .val (.ref a1), .val (.int (4 : Int32)), .val (.int (3 : Int32)), .val (.int b2)] []))
                      refine own_go (XS.aloadN X0.here hx rfl (hb hby d1_27) rfl rfl (Steps.refl _)) ?_
                      show own_Fin _ _ _ _ (s₁.setTop (mkF m 28 #[.val (.ref a1), .val (.ref a1), .val (.int (4 : Int32)), .val (.int (3 : Int32)), .val (.int b2)] [(.ref a1)]))
                      refine own_go (XS.iloadN X0.here hx rfl (hb hby d1_28) rfl (Steps.refl _)) ?_
                      show own_Fin _ _ _ _ (s₁.setTop (mkF m 29 #[.val (.ref a1), .val (.ref a1), .val (.int (4 : Int32)), .val (.int (3 : Int32)), .val (.int b2)] [(.int (3 : Int32)), (.ref a1)]))
                      obtain ⟨cl97, Ar97, qa97, Sa97, Na97, Ha97, Ga97⟩ := id V_a1
                      have hin97 : ¬ ((3 : Int32) < 0 ∨ cl97.slots.size ≤ ((3 : Int32)).toNatClampNeg) := inb_of Sa97 ⟨by decide, by decide⟩
                      have hat97 : cl97.slots[((3 : Int32)).toNatClampNeg]? = some (.int b3) := Has.at Ha97 hin97 rfl
                      refine own_by (X0.baloadBytes hx (j := (3 : Int32)) (v := (.int b3)) (by rw [e0]; exact Ar97.1) (State.isArrayOf_alike hZ.alike Ar97.2.1) Ar97.2.2 hin97 hat97 (g := (mkF m 29 #[.val (.ref a1), .val (.ref a1), .val (.int (4 : Int32)), .val (.int (3 : Int32)), .val (.int b2)] [(.int (3 : Int32)), (.ref a1)])) rfl rfl (hb hby d1_29)) ?_
                      show own_Fin _ _ _ _ (s₁.setTop (mkF m 30 #[.val (.ref a1), .val (.ref a1), .val (.int (4 : Int32)), .val (.int (3 : Int32)), .val (.int b2)] [(.int b3)]))
                      refine own_go (XS.istore X0.here hx rfl (hb hby d1_30) rfl (l' := #[.val (.ref a1), .val (.ref a1), .val (.int (4 : Int32)), .val (.int (3 : Int32)), .val (.int b3)]) rfl (Steps.refl _)) ?_
                      show own_Fin _ _ _ _ (s₁.setTop (mkF m 32 #[.val (.ref a1), .val (.ref a1), .val (.int (4 : Int32)), .val (.int (3 : Int32)), .val (.int b3)] []))
                      refine own_go (XS.iload X0.here hx rfl (hb hby d1_32) rfl (Steps.refl _)) ?_
                      show own_Fin _ _ _ _ (s₁.setTop (mkF m 34 #[.val (.ref a1), .val (.ref a1), .val (.int (4 : Int32)), .val (.int (3 : Int32)), .val (.int b3)] [(.int b3)]))
                      refine own_go (XS.bipush X0.here hx rfl (hb hby d1_34) (Steps.refl _)) ?_
                      show own_Fin _ _ _ _ (s₁.setTop (mkF m 36 #[.val (.ref a1), .val (.ref a1), .val (.int (4 : Int32)), .val (.int (3 : Int32)), .val (.int b3)] [(.int (44 : Int32)), (.int b3)]))
                      by_cases c36_98 : b3 = (44 : Int32)
                      · refine own_go (XS.icmpYes X0.here hx rfl (pc0 := 36) (pc' := 53) rfl (hb hby d1_36) rfl (teq c36_98).1 (by decide) (by decide) (Steps.refl _)) ?_
                        show own_Fin _ _ _ _ (s₁.setTop (mkF m 53 #[.val (.ref a1), .val (.ref a1), .val (.int (4 : Int32)), .val (.int (3 : Int32)), .val (.int b3)] []))
                        refine own_go (XS.iconst X0.here hx rfl (hb hby d1_53) (Steps.refl _)) ?_
                        show own_Fin _ _ _ _ (s₁.setTop (mkF m 54 #[.val (.ref a1), .val (.ref a1), .val (.int (4 : Int32)), .val (.int (3 : Int32)), .val (.int b3)] [(.int (0 : Int32))]))
                        obtain ⟨fs99, hr99, hrun99, hended99, hW99, hsame99⟩ := X0.leave (v := some (.int (0 : Int32))) (fun h => by rw [Bd.returns] at h; cases h)
                        refine own_done (retN X0 hx (t := .boolean) Bd.returns (by simp) (hb hby d1_54) hr99) hrun99 hended99 ⟨_, _, rfl, ?_, ⟨_, rfl⟩, hW99, hsame99.mono (by decide) (by decide)⟩
                        show Q1_4 Z a1 k b0 b1 b2 b3 h0 n0 _ s₁.heap _
                        rw [e0]
                        exact ⟨by simp [own_bad, c10_73, c36_77, c43_79, c50_81, c36_84, c43_86, c50_88, c36_91, c43_93, c50_95, c36_98], N0, rfl⟩
                      · refine own_go (XS.icmpNo X0.here hx rfl (hb hby d1_36) rfl (feq c36_98).1 (Steps.refl _)) ?_
                        show own_Fin _ _ _ _ (s₁.setTop (mkF m 39 #[.val (.ref a1), .val (.ref a1), .val (.int (4 : Int32)), .val (.int (3 : Int32)), .val (.int b3)] []))
                        refine own_go (XS.iload X0.here hx rfl (hb hby d1_39) rfl (Steps.refl _)) ?_
                        show own_Fin _ _ _ _ (s₁.setTop (mkF m 41 #[.val (.ref a1), .val (.ref a1), .val (.int (4 : Int32)), .val (.int (3 : Int32)), .val (.int b3)] [(.int b3)]))
                        refine own_go (XS.bipush X0.here hx rfl (hb hby d1_41) (Steps.refl _)) ?_
                        show own_Fin _ _ _ _ (s₁.setTop (mkF m 43 #[.val (.ref a1), .val (.ref a1), .val (.int (4 : Int32)), .val (.int (3 : Int32)), .val (.int b3)] [(.int (10 : Int32)), (.int b3)]))
                        by_cases c43_100 : b3 = (10 : Int32)
                        · refine own_go (XS.icmpYes X0.here hx rfl (pc0 := 43) (pc' := 53) rfl (hb hby d1_43) rfl (teq c43_100).1 (by decide) (by decide) (Steps.refl _)) ?_
                          show own_Fin _ _ _ _ (s₁.setTop (mkF m 53 #[.val (.ref a1), .val (.ref a1), .val (.int (4 : Int32)), .val (.int (3 : Int32)), .val (.int b3)] []))
                          refine own_go (XS.iconst X0.here hx rfl (hb hby d1_53) (Steps.refl _)) ?_
                          show own_Fin _ _ _ _ (s₁.setTop (mkF m 54 #[.val (.ref a1), .val (.ref a1), .val (.int (4 : Int32)), .val (.int (3 : Int32)), .val (.int b3)] [(.int (0 : Int32))]))
                          obtain ⟨fs101, hr101, hrun101, hended101, hW101, hsame101⟩ := X0.leave (v := some (.int (0 : Int32))) (fun h => by rw [Bd.returns] at h; cases h)
                          refine own_done (retN X0 hx (t := .boolean) Bd.returns (by simp) (hb hby d1_54) hr101) hrun101 hended101 ⟨_, _, rfl, ?_, ⟨_, rfl⟩, hW101, hsame101.mono (by decide) (by decide)⟩
                          show Q1_4 Z a1 k b0 b1 b2 b3 h0 n0 _ s₁.heap _
                          rw [e0]
                          exact ⟨by simp [own_bad, c10_73, c36_77, c43_79, c50_81, c36_84, c43_86, c50_88, c36_91, c43_93, c50_95, c36_98, c43_100], N0, rfl⟩
                        · refine own_go (XS.icmpNo X0.here hx rfl (hb hby d1_43) rfl (feq c43_100).1 (Steps.refl _)) ?_
                          show own_Fin _ _ _ _ (s₁.setTop (mkF m 46 #[.val (.ref a1), .val (.ref a1), .val (.int (4 : Int32)), .val (.int (3 : Int32)), .val (.int b3)] []))
                          refine own_go (XS.iload X0.here hx rfl (hb hby d1_46) rfl (Steps.refl _)) ?_
                          show own_Fin _ _ _ _ (s₁.setTop (mkF m 48 #[.val (.ref a1), .val (.ref a1), .val (.int (4 : Int32)), .val (.int (3 : Int32)), .val (.int b3)] [(.int b3)]))
                          refine own_go (XS.bipush X0.here hx rfl (hb hby d1_48) (Steps.refl _)) ?_
                          show own_Fin _ _ _ _ (s₁.setTop (mkF m 50 #[.val (.ref a1), .val (.ref a1), .val (.int (4 : Int32)), .val (.int (3 : Int32)), .val (.int b3)] [(.int (13 : Int32)), (.int b3)]))
                          by_cases c50_102 : b3 = (13 : Int32)
                          · refine own_go (XS.icmpNo X0.here hx rfl (hb hby d1_50) rfl (teq c50_102).2 (Steps.refl _)) ?_
                            show own_Fin _ _ _ _ (s₁.setTop (mkF m 53 #[.val (.ref a1), .val (.ref a1), .val (.int (4 : Int32)), .val (.int (3 : Int32)), .val (.int b3)] []))
                            refine own_go (XS.iconst X0.here hx rfl (hb hby d1_53) (Steps.refl _)) ?_
                            show own_Fin _ _ _ _ (s₁.setTop (mkF m 54 #[.val (.ref a1), .val (.ref a1), .val (.int (4 : Int32)), .val (.int (3 : Int32)), .val (.int b3)] [(.int (0 : Int32))]))
                            obtain ⟨fs103, hr103, hrun103, hended103, hW103, hsame103⟩ := X0.leave (v := some (.int (0 : Int32))) (fun h => by rw [Bd.returns] at h; cases h)
                            refine own_done (retN X0 hx (t := .boolean) Bd.returns (by simp) (hb hby d1_54) hr103) hrun103 hended103 ⟨_, _, rfl, ?_, ⟨_, rfl⟩, hW103, hsame103.mono (by decide) (by decide)⟩
                            show Q1_4 Z a1 k b0 b1 b2 b3 h0 n0 _ s₁.heap _
                            rw [e0]
                            exact ⟨by simp [own_bad, c10_73, c36_77, c43_79, c50_81, c36_84, c43_86, c50_88, c36_91, c43_93, c50_95, c36_98, c43_100, c50_102], N0, rfl⟩
                          · refine own_go (XS.icmpYes X0.here hx rfl (pc0 := 50) (pc' := 55) rfl (hb hby d1_50) rfl (feq c50_102).2 (by decide) (by decide) (Steps.refl _)) ?_
                            show own_Fin _ _ _ _ (s₁.setTop (mkF m 55 #[.val (.ref a1), .val (.ref a1), .val (.int (4 : Int32)), .val (.int (3 : Int32)), .val (.int b3)] []))
                            refine own_go (XS.iinc X0.here hx rfl (hb hby d1_55) rfl (l' := #[.val (.ref a1), .val (.ref a1), .val (.int (4 : Int32)), .val (.int (4 : Int32)), .val (.int b3)]) rfl (Steps.refl _)) ?_
                            show own_Fin _ _ _ _ (s₁.setTop (mkF m 58 #[.val (.ref a1), .val (.ref a1), .val (.int (4 : Int32)), .val (.int (4 : Int32)), .val (.int b3)] []))
                            refine own_go (XS.goto X0.here hx rfl (pc0 := 58) (pc' := 22) rfl (hb hby d1_58) (by decide) (by decide) (Steps.refl _)) ?_
                            show own_Fin _ _ _ _ (s₁.setTop (mkF m 22 #[.val (.ref a1), .val (.ref a1), .val (.int (4 : Int32)), .val (.int (4 : Int32)), .val (.int b3)] []))
                            refine own_go (XS.iloadN X0.here hx rfl (hb hby d1_22) rfl (Steps.refl _)) ?_
                            show own_Fin _ _ _ _ (s₁.setTop (mkF m 23 #[.val (.ref a1), .val (.ref a1), .val (.int (4 : Int32)), .val (.int (4 : Int32)), .val (.int b3)] [(.int (4 : Int32))]))
                            refine own_go (XS.iloadN X0.here hx rfl (hb hby d1_23) rfl (Steps.refl _)) ?_
                            show own_Fin _ _ _ _ (s₁.setTop (mkF m 24 #[.val (.ref a1), .val (.ref a1), .val (.int (4 : Int32)), .val (.int (4 : Int32)), .val (.int b3)] [(.int (4 : Int32)), (.int (4 : Int32))]))
                            refine own_go (XS.icmpYes X0.here hx rfl (pc0 := 24) (pc' := 61) rfl (hb hby d1_24) rfl (flt (by decide : ¬ ((4 : Int32) < (4 : Int32)))).2.1 (by decide) (by decide) (Steps.refl _)) ?_
                            show own_Fin _ _ _ _ (s₁.setTop (mkF m 61 #[.val (.ref a1), .val (.ref a1), .val (.int (4 : Int32)), .val (.int (4 : Int32)), .val (.int b3)] []))
                            refine own_go (XS.iconst X0.here hx rfl (hb hby d1_61) (Steps.refl _)) ?_
                            show own_Fin _ _ _ _ (s₁.setTop (mkF m 62 #[.val (.ref a1), .val (.ref a1), .val (.int (4 : Int32)), .val (.int (4 : Int32)), .val (.int b3)] [(.int (1 : Int32))]))
                            obtain ⟨fs104, hr104, hrun104, hended104, hW104, hsame104⟩ := X0.leave (v := some (.int (1 : Int32))) (fun h => by rw [Bd.returns] at h; cases h)
                            refine own_done (retN X0 hx (t := .boolean) Bd.returns (by simp) (hb hby d1_62) hr104) hrun104 hended104 ⟨_, _, rfl, ?_, ⟨_, rfl⟩, hW104, hsame104.mono (by decide) (by decide)⟩
                            show Q1_4 Z a1 k b0 b1 b2 b3 h0 n0 _ s₁.heap _
                            rw [e0]
                            exact ⟨by simp [own_bad, c10_73, c36_77, c43_79, c50_81, c36_84, c43_86, c50_88, c36_91, c43_93, c50_95, c36_98, c43_100, c50_102], N0, rfl⟩
theorem ef_0 (m : MethodId) (x0 : Int32) (x1 : Int32) (x2 : Int32) (x3 : Int32) (x4 : Int32) : entryFrame m #[(.int x0), (.int x1), (.int x2), (.int x3), (.int x4)] maxLocals = mkF m 0 #[.val (.int x0), .val (.int x1), .val (.int x2), .val (.int x3), .val (.int x4), .unset, .unset, .unset, .unset, .unset, .unset, .unset, .unset] [] := by first | (simp [entryFrame, mkF, argsToLocals, Value.category, maxLocals]; done) | rfl
def Q0 (Z : State) (p1 : Int32) (p2 : Int32) (p3 : Int32) (p4 : Int32) (p5 : Int32) (h0 : Heap) (n0 : Nat) (v : Option Value) (h : Heap) (L : List Loc) : Prop := v = some (.int 1) ∧ Fr n0 L
abbrev G0 (Z : State) (p1 : Int32) (p2 : Int32) (p3 : Int32) (p4 : Int32) (p5 : Int32) (h0 : Heap) (n0 : Nat) (s : State) : Outcome → State → Prop := fun o U' => ∃ v L, o = .returned v ∧ Q0 Z p1 p2 p3 p4 p5 h0 n0 v U'.heap L ∧ FrameEnd s o U' L 16 128
theorem pd__28__5b_B_29_Z : parseMethodDescriptor "([B)Z" = some ⟨[(.array .byte)], some .boolean⟩ := by decide +kernel
theorem pd__28_B_29_Z : parseMethodDescriptor "(B)Z" = some ⟨[.byte], some .boolean⟩ := by decide +kernel
set_option maxRecDepth 65536 in
set_option maxHeartbeats 40000000 in
theorem rm0 (l : Launch) (Z : State) (a0 : Array Value) (hw : ∀ d ∈ tables_1, d.before a0 Z = true) (ws : List Jvm.Cond) (p1 : Int32) (p2 : Int32) (p3 : Int32) (p4 : Int32) (p5 : Int32) (h0 : Heap) (n0 : Nat) (Z0 : n0 ≤ h0.size)  :
    MetFree l x (head1 (Jvm.Cond.code x code maxLocals ret :: ws) room_1) (fun a U => a = #[(.int p1), (.int p2), (.int p3), (.int p4), (.int p5)] ∧ Z.Warmed39 U.vm ∧ U.heap = h0) (fun _ _ _ _ _ => True) (fun _ U o U' => ∃ v L, o = .returned v ∧ Q0 Z p1 p2 p3 p4 p5 h0 n0 v U'.heap L ∧ FrameEnd U o U' L 16 128) := by
  refine MetFree.of_bodySF (plainFor_of_name pn_com_example_gridtally_gridtally_casefile_FieldTextIsWholePinLaw) hisR ?_
  intro p e s m args below meth c s₁ Bd hml0 hP hK
  obtain ⟨rfl, hZ, hh⟩ := hP
  have hx := Bd.exec
  have hby := Bd.bytes
  have hml : c.maxLocals = 13 := hml0
  have hown : s.vm.findClass "com/example/gridtally/gridtally/casefile/FieldTextIsWholePinLaw" = some m.cls := findClass_of_methodNamed Bd.named
  have hnm := (name_of_methodNamed Bd.named Bd.method).1
  have X0 : Stand p l e room_1 s m #[(.int p1), (.int p2), (.int p3), (.int p4), (.int p5)] below meth c s₁ [] 0 0 := Stand.of_body Bd
  have e0 : s₁.heap = h0 := by rw [← hh, Bd.state]; rfl
  have es0 : s.heap = h0 := hh
  have N0 := Fr.nil n0
  show own_Fin p e below (G0 Z p1 p2 p3 p4 p5 h0 n0 s) (s₁.setTop (entryFrame m #[(.int p1), (.int p2), (.int p3), (.int p4), (.int p5)] maxLocals))
  rw [ef_0 m p1 p2 p3 p4 p5]
  refine own_go (XS.iloadN X0.here hx rfl (hb hby at_0) rfl (Steps.refl _)) ?_
  show own_Fin _ _ _ _ (s₁.setTop (mkF m 1 #[.val (.int p1), .val (.int p2), .val (.int p3), .val (.int p4), .val (.int p5), .unset, .unset, .unset, .unset, .unset, .unset, .unset, .unset] [(.int p1)]))
  refine own_go (XS.bipush X0.here hx rfl (hb hby at_1) (Steps.refl _)) ?_
  show own_Fin _ _ _ _ (s₁.setTop (mkF m 3 #[.val (.int p1), .val (.int p2), .val (.int p3), .val (.int p4), .val (.int p5), .unset, .unset, .unset, .unset, .unset, .unset, .unset, .unset] [(.int (7 : Int32)), (.int p1)]))
  refine own_go (XS.iand X0.here hx rfl (hb hby at_3) rfl (Steps.refl _)) ?_
  show own_Fin _ _ _ _ (s₁.setTop (mkF m 4 #[.val (.int p1), .val (.int p2), .val (.int p3), .val (.int p4), .val (.int p5), .unset, .unset, .unset, .unset, .unset, .unset, .unset, .unset] [(.int (p1 &&& (7 : Int32)))]))
  refine own_go (XS.iconst X0.here hx rfl (hb hby at_4) (Steps.refl _)) ?_
  show own_Fin _ _ _ _ (s₁.setTop (mkF m 5 #[.val (.int p1), .val (.int p2), .val (.int p3), .val (.int p4), .val (.int p5), .unset, .unset, .unset, .unset, .unset, .unset, .unset, .unset] [(.int (5 : Int32)), (.int (p1 &&& (7 : Int32)))]))
  refine own_go (iremM X0 hx rfl (hb hby at_5) rfl (by decide) (Steps.refl _)) ?_
  show own_Fin _ _ _ _ (s₁.setTop (mkF m 6 #[.val (.int p1), .val (.int p2), .val (.int p3), .val (.int p4), .val (.int p5), .unset, .unset, .unset, .unset, .unset, .unset, .unset, .unset] [(.int ((p1 &&& (7 : Int32)) % (5 : Int32)))]))
  refine own_go (XS.istore X0.here hx rfl (hb hby at_6) rfl (l' := #[.val (.int p1), .val (.int p2), .val (.int p3), .val (.int p4), .val (.int p5), .val (.int ((p1 &&& (7 : Int32)) % (5 : Int32))), .unset, .unset, .unset, .unset, .unset, .unset, .unset]) rfl (Steps.refl _)) ?_
  show own_Fin _ _ _ _ (s₁.setTop (mkF m 8 #[.val (.int p1), .val (.int p2), .val (.int p3), .val (.int p4), .val (.int p5), .val (.int ((p1 &&& (7 : Int32)) % (5 : Int32))), .unset, .unset, .unset, .unset, .unset, .unset, .unset] []))
  generalize hz_v5_105 : ((p1 &&& (7 : Int32)) % (5 : Int32)) = v5_105
  have hcs106 : v5_105 = (0 : Int32) ∨ v5_105 = (1 : Int32) ∨ v5_105 = (2 : Int32) ∨ v5_105 = (3 : Int32) ∨ v5_105 = (4 : Int32) := hz_v5_105 ▸ own_n5 p1
  rcases hcs106 with rfl | rfl | rfl | rfl | rfl
  · show own_Fin _ _ _ _ (s₁.setTop (mkF m 8 #[.val (.int p1), .val (.int p2), .val (.int p3), .val (.int p4), .val (.int p5), .val (.int (0 : Int32)), .unset, .unset, .unset, .unset, .unset, .unset, .unset] []))
    refine own_go (XS.iloadN X0.here hx rfl (hb hby at_8) rfl (Steps.refl _)) ?_
    show own_Fin _ _ _ _ (s₁.setTop (mkF m 9 #[.val (.int p1), .val (.int p2), .val (.int p3), .val (.int p4), .val (.int p5), .val (.int (0 : Int32)), .unset, .unset, .unset, .unset, .unset, .unset, .unset] [(.int p2)]))
    refine own_go (XS.i2b X0.here hx rfl (hb hby at_9) rfl (Steps.refl _)) ?_
    show own_Fin _ _ _ _ (s₁.setTop (mkF m 10 #[.val (.int p1), .val (.int p2), .val (.int p3), .val (.int p4), .val (.int p5), .val (.int (0 : Int32)), .unset, .unset, .unset, .unset, .unset, .unset, .unset] [(.int (p2.toInt8.toInt32))]))
    refine own_go (XS.istore X0.here hx rfl (hb hby at_10) rfl (l' := #[.val (.int p1), .val (.int p2), .val (.int p3), .val (.int p4), .val (.int p5), .val (.int (0 : Int32)), .val (.int (p2.toInt8.toInt32)), .unset, .unset, .unset, .unset, .unset, .unset]) rfl (Steps.refl _)) ?_
    show own_Fin _ _ _ _ (s₁.setTop (mkF m 12 #[.val (.int p1), .val (.int p2), .val (.int p3), .val (.int p4), .val (.int p5), .val (.int (0 : Int32)), .val (.int (p2.toInt8.toInt32)), .unset, .unset, .unset, .unset, .unset, .unset] []))
    generalize hz_v6_107 : (p2.toInt8.toInt32) = v6_107
    refine own_go (XS.iloadN X0.here hx rfl (hb hby at_12) rfl (Steps.refl _)) ?_
    show own_Fin _ _ _ _ (s₁.setTop (mkF m 13 #[.val (.int p1), .val (.int p2), .val (.int p3), .val (.int p4), .val (.int p5), .val (.int (0 : Int32)), .val (.int v6_107), .unset, .unset, .unset, .unset, .unset, .unset] [(.int p3)]))
    refine own_go (XS.i2b X0.here hx rfl (hb hby at_13) rfl (Steps.refl _)) ?_
    show own_Fin _ _ _ _ (s₁.setTop (mkF m 14 #[.val (.int p1), .val (.int p2), .val (.int p3), .val (.int p4), .val (.int p5), .val (.int (0 : Int32)), .val (.int v6_107), .unset, .unset, .unset, .unset, .unset, .unset] [(.int (p3.toInt8.toInt32))]))
    refine own_go (XS.istore X0.here hx rfl (hb hby at_14) rfl (l' := #[.val (.int p1), .val (.int p2), .val (.int p3), .val (.int p4), .val (.int p5), .val (.int (0 : Int32)), .val (.int v6_107), .val (.int (p3.toInt8.toInt32)), .unset, .unset, .unset, .unset, .unset]) rfl (Steps.refl _)) ?_
    show own_Fin _ _ _ _ (s₁.setTop (mkF m 16 #[.val (.int p1), .val (.int p2), .val (.int p3), .val (.int p4), .val (.int p5), .val (.int (0 : Int32)), .val (.int v6_107), .val (.int (p3.toInt8.toInt32)), .unset, .unset, .unset, .unset, .unset] []))
    generalize hz_v7_108 : (p3.toInt8.toInt32) = v7_108
    refine own_go (XS.iloadN X0.here hx rfl (hb hby at_16) rfl (Steps.refl _)) ?_
    show own_Fin _ _ _ _ (s₁.setTop (mkF m 17 #[.val (.int p1), .val (.int p2), .val (.int p3), .val (.int p4), .val (.int p5), .val (.int (0 : Int32)), .val (.int v6_107), .val (.int v7_108), .unset, .unset, .unset, .unset, .unset] [(.int p4)]))
    refine own_go (XS.i2b X0.here hx rfl (hb hby at_17) rfl (Steps.refl _)) ?_
    show own_Fin _ _ _ _ (s₁.setTop (mkF m 18 #[.val (.int p1), .val (.int p2), .val (.int p3), .val (.int p4), .val (.int p5), .val (.int (0 : Int32)), .val (.int v6_107), .val (.int v7_108), .unset, .unset, .unset, .unset, .unset] [(.int (p4.toInt8.toInt32))]))
    refine own_go (XS.istore X0.here hx rfl (hb hby at_18) rfl (l' := #[.val (.int p1), .val (.int p2), .val (.int p3), .val (.int p4), .val (.int p5), .val (.int (0 : Int32)), .val (.int v6_107), .val (.int v7_108), .val (.int (p4.toInt8.toInt32)), .unset, .unset, .unset, .unset]) rfl (Steps.refl _)) ?_
    show own_Fin _ _ _ _ (s₁.setTop (mkF m 20 #[.val (.int p1), .val (.int p2), .val (.int p3), .val (.int p4), .val (.int p5), .val (.int (0 : Int32)), .val (.int v6_107), .val (.int v7_108), .val (.int (p4.toInt8.toInt32)), .unset, .unset, .unset, .unset] []))
    generalize hz_v8_109 : (p4.toInt8.toInt32) = v8_109
    refine own_go (XS.iload X0.here hx rfl (hb hby at_20) rfl (Steps.refl _)) ?_
    show own_Fin _ _ _ _ (s₁.setTop (mkF m 22 #[.val (.int p1), .val (.int p2), .val (.int p3), .val (.int p4), .val (.int p5), .val (.int (0 : Int32)), .val (.int v6_107), .val (.int v7_108), .val (.int v8_109), .unset, .unset, .unset, .unset] [(.int p5)]))
    refine own_go (XS.i2b X0.here hx rfl (hb hby at_22) rfl (Steps.refl _)) ?_
    show own_Fin _ _ _ _ (s₁.setTop (mkF m 23 #[.val (.int p1), .val (.int p2), .val (.int p3), .val (.int p4), .val (.int p5), .val (.int (0 : Int32)), .val (.int v6_107), .val (.int v7_108), .val (.int v8_109), .unset, .unset, .unset, .unset] [(.int (p5.toInt8.toInt32))]))
    refine own_go (XS.istore X0.here hx rfl (hb hby at_23) rfl (l' := #[.val (.int p1), .val (.int p2), .val (.int p3), .val (.int p4), .val (.int p5), .val (.int (0 : Int32)), .val (.int v6_107), .val (.int v7_108), .val (.int v8_109), .val (.int (p5.toInt8.toInt32)), .unset, .unset, .unset]) rfl (Steps.refl _)) ?_
    show own_Fin _ _ _ _ (s₁.setTop (mkF m 25 #[.val (.int p1), .val (.int p2), .val (.int p3), .val (.int p4), .val (.int p5), .val (.int (0 : Int32)), .val (.int v6_107), .val (.int v7_108), .val (.int v8_109), .val (.int (p5.toInt8.toInt32)), .unset, .unset, .unset] []))
    generalize hz_v9_110 : (p5.toInt8.toInt32) = v9_110
    refine own_go (XS.iload X0.here hx rfl (hb hby at_25) rfl (Steps.refl _)) ?_
    show own_Fin _ _ _ _ (s₁.setTop (mkF m 27 #[.val (.int p1), .val (.int p2), .val (.int p3), .val (.int p4), .val (.int p5), .val (.int (0 : Int32)), .val (.int v6_107), .val (.int v7_108), .val (.int v8_109), .val (.int v9_110), .unset, .unset, .unset] [(.int (0 : Int32))]))
    obtain ⟨T111, h111, k111, X111, e111, E111, A111, st111⟩ := newP X0 hx hZ (hw _ (List.mem_of_getElem? (i := 0) rfl)) e0 (g := (mkF m 27 #[.val (.int p1), .val (.int p2), .val (.int p3), .val (.int p4), .val (.int p5), .val (.int (0 : Int32)), .val (.int v6_107), .val (.int v7_108), .val (.int v8_109), .val (.int v9_110), .unset, .unset, .unset] [(.int (0 : Int32))])) rfl (hb hby at_27) rfl (by decide) (cap := 0) (by decide) (by decide) (by decide) (by decide)
    obtain ⟨b111, g111⟩ : ∃ z, z = h0.size := ⟨_, rfl⟩
    rw [← g111] at A111 st111
    refine own_by st111 ?_
    have g_b111 : n0 ≤ b111 := Nat.le_trans Z0 (Nat.le_of_eq g111.symm)
    have Z111 : n0 ≤ h111.size := Nat.le_trans Z0 E111.1
    have V_b111 : Arv Z h111 b111 k111 .byte (0 : Int32) [] (.int (0 : Int32)) := (Arv.new A111 (by decide)).pad (pad_rep [] (.int (0 : Int32)) 0)
    show own_Fin _ _ _ _ (T111.setTop (mkF m 29 #[.val (.int p1), .val (.int p2), .val (.int p3), .val (.int p4), .val (.int p5), .val (.int (0 : Int32)), .val (.int v6_107), .val (.int v7_108), .val (.int v8_109), .val (.int v9_110), .unset, .unset, .unset] [(.ref b111)]))
    refine own_go (XS.astore X111.here hx rfl (hb hby at_29) rfl rfl (l' := #[.val (.int p1), .val (.int p2), .val (.int p3), .val (.int p4), .val (.int p5), .val (.int (0 : Int32)), .val (.int v6_107), .val (.int v7_108), .val (.int v8_109), .val (.int v9_110), .val (.ref b111), .unset, .unset]) rfl (Steps.refl _)) ?_
    show own_Fin _ _ _ _ (T111.setTop (mkF m 31 #[.val (.int p1), .val (.int p2), .val (.int p3), .val (.int p4), .val (.int p5), .val (.int (0 : Int32)), .val (.int v6_107), .val (.int v7_108), .val (.int v8_109), .val (.int v9_110), .val (.ref b111), .unset, .unset] []))
    refine own_go (XS.iload X111.here hx rfl (hb hby at_31) rfl (Steps.refl _)) ?_
    show own_Fin _ _ _ _ (T111.setTop (mkF m 33 #[.val (.int p1), .val (.int p2), .val (.int p3), .val (.int p4), .val (.int p5), .val (.int (0 : Int32)), .val (.int v6_107), .val (.int v7_108), .val (.int v8_109), .val (.int v9_110), .val (.ref b111), .unset, .unset] [(.int (0 : Int32))]))
    refine own_go (XS.ifYes X111.here hx rfl (pc0 := 33) (pc' := 42) rfl (hb hby at_33) rfl ((if0 _ _).trans (flt (by decide : ¬ ((0 : Int32) < (0 : Int32)))).2.2.2) (by decide) (by decide) (Steps.refl _)) ?_
    show own_Fin _ _ _ _ (T111.setTop (mkF m 42 #[.val (.int p1), .val (.int p2), .val (.int p3), .val (.int p4), .val (.int p5), .val (.int (0 : Int32)), .val (.int v6_107), .val (.int v7_108), .val (.int v8_109), .val (.int v9_110), .val (.ref b111), .unset, .unset] []))
    refine own_go (XS.iload X111.here hx rfl (hb hby at_42) rfl (Steps.refl _)) ?_
    show own_Fin _ _ _ _ (T111.setTop (mkF m 44 #[.val (.int p1), .val (.int p2), .val (.int p3), .val (.int p4), .val (.int p5), .val (.int (0 : Int32)), .val (.int v6_107), .val (.int v7_108), .val (.int v8_109), .val (.int v9_110), .val (.ref b111), .unset, .unset] [(.int (0 : Int32))]))
    refine own_go (XS.iconst X111.here hx rfl (hb hby at_44) (Steps.refl _)) ?_
    show own_Fin _ _ _ _ (T111.setTop (mkF m 45 #[.val (.int p1), .val (.int p2), .val (.int p3), .val (.int p4), .val (.int p5), .val (.int (0 : Int32)), .val (.int v6_107), .val (.int v7_108), .val (.int v8_109), .val (.int v9_110), .val (.ref b111), .unset, .unset] [(.int (1 : Int32)), (.int (0 : Int32))]))
    refine own_go (XS.icmpYes X111.here hx rfl (pc0 := 45) (pc' := 54) rfl (hb hby at_45) rfl (flt (by decide : ¬ ((1 : Int32) < (0 : Int32)))).2.2.2 (by decide) (by decide) (Steps.refl _)) ?_
    show own_Fin _ _ _ _ (T111.setTop (mkF m 54 #[.val (.int p1), .val (.int p2), .val (.int p3), .val (.int p4), .val (.int p5), .val (.int (0 : Int32)), .val (.int v6_107), .val (.int v7_108), .val (.int v8_109), .val (.int v9_110), .val (.ref b111), .unset, .unset] []))
    refine own_go (XS.iload X111.here hx rfl (hb hby at_54) rfl (Steps.refl _)) ?_
    show own_Fin _ _ _ _ (T111.setTop (mkF m 56 #[.val (.int p1), .val (.int p2), .val (.int p3), .val (.int p4), .val (.int p5), .val (.int (0 : Int32)), .val (.int v6_107), .val (.int v7_108), .val (.int v8_109), .val (.int v9_110), .val (.ref b111), .unset, .unset] [(.int (0 : Int32))]))
    refine own_go (XS.iconst X111.here hx rfl (hb hby at_56) (Steps.refl _)) ?_
    show own_Fin _ _ _ _ (T111.setTop (mkF m 57 #[.val (.int p1), .val (.int p2), .val (.int p3), .val (.int p4), .val (.int p5), .val (.int (0 : Int32)), .val (.int v6_107), .val (.int v7_108), .val (.int v8_109), .val (.int v9_110), .val (.ref b111), .unset, .unset] [(.int (2 : Int32)), (.int (0 : Int32))]))
    refine own_go (XS.icmpYes X111.here hx rfl (pc0 := 57) (pc' := 66) rfl (hb hby at_57) rfl (flt (by decide : ¬ ((2 : Int32) < (0 : Int32)))).2.2.2 (by decide) (by decide) (Steps.refl _)) ?_
    show own_Fin _ _ _ _ (T111.setTop (mkF m 66 #[.val (.int p1), .val (.int p2), .val (.int p3), .val (.int p4), .val (.int p5), .val (.int (0 : Int32)), .val (.int v6_107), .val (.int v7_108), .val (.int v8_109), .val (.int v9_110), .val (.ref b111), .unset, .unset] []))
    refine own_go (XS.iload X111.here hx rfl (hb hby at_66) rfl (Steps.refl _)) ?_
    show own_Fin _ _ _ _ (T111.setTop (mkF m 68 #[.val (.int p1), .val (.int p2), .val (.int p3), .val (.int p4), .val (.int p5), .val (.int (0 : Int32)), .val (.int v6_107), .val (.int v7_108), .val (.int v8_109), .val (.int v9_110), .val (.ref b111), .unset, .unset] [(.int (0 : Int32))]))
    refine own_go (XS.iconst X111.here hx rfl (hb hby at_68) (Steps.refl _)) ?_
    show own_Fin _ _ _ _ (T111.setTop (mkF m 69 #[.val (.int p1), .val (.int p2), .val (.int p3), .val (.int p4), .val (.int p5), .val (.int (0 : Int32)), .val (.int v6_107), .val (.int v7_108), .val (.int v8_109), .val (.int v9_110), .val (.ref b111), .unset, .unset] [(.int (3 : Int32)), (.int (0 : Int32))]))
    refine own_go (XS.icmpYes X111.here hx rfl (pc0 := 69) (pc' := 78) rfl (hb hby at_69) rfl (flt (by decide : ¬ ((3 : Int32) < (0 : Int32)))).2.2.2 (by decide) (by decide) (Steps.refl _)) ?_
    show own_Fin _ _ _ _ (T111.setTop (mkF m 78 #[.val (.int p1), .val (.int p2), .val (.int p3), .val (.int p4), .val (.int p5), .val (.int (0 : Int32)), .val (.int v6_107), .val (.int v7_108), .val (.int v8_109), .val (.int v9_110), .val (.ref b111), .unset, .unset] []))
    refine own_go (XS.iconst X111.here hx rfl (hb hby at_78) (Steps.refl _)) ?_
    show own_Fin _ _ _ _ (T111.setTop (mkF m 79 #[.val (.int p1), .val (.int p2), .val (.int p3), .val (.int p4), .val (.int p5), .val (.int (0 : Int32)), .val (.int v6_107), .val (.int v7_108), .val (.int v8_109), .val (.int v9_110), .val (.ref b111), .unset, .unset] [(.int (1 : Int32))]))
    refine own_go (XS.istore X111.here hx rfl (hb hby at_79) rfl (l' := #[.val (.int p1), .val (.int p2), .val (.int p3), .val (.int p4), .val (.int p5), .val (.int (0 : Int32)), .val (.int v6_107), .val (.int v7_108), .val (.int v8_109), .val (.int v9_110), .val (.ref b111), .val (.int (1 : Int32)), .unset]) rfl (Steps.refl _)) ?_
    show own_Fin _ _ _ _ (T111.setTop (mkF m 81 #[.val (.int p1), .val (.int p2), .val (.int p3), .val (.int p4), .val (.int p5), .val (.int (0 : Int32)), .val (.int v6_107), .val (.int v7_108), .val (.int v8_109), .val (.int v9_110), .val (.ref b111), .val (.int (1 : Int32)), .unset] []))
    refine own_go (XS.iload X111.here hx rfl (hb hby at_81) rfl (Steps.refl _)) ?_
    show own_Fin _ _ _ _ (T111.setTop (mkF m 83 #[.val (.int p1), .val (.int p2), .val (.int p3), .val (.int p4), .val (.int p5), .val (.int (0 : Int32)), .val (.int v6_107), .val (.int v7_108), .val (.int v8_109), .val (.int v9_110), .val (.ref b111), .val (.int (1 : Int32)), .unset] [(.int (0 : Int32))]))
    refine own_go (XS.ifYes X111.here hx rfl (pc0 := 83) (pc' := 96) rfl (hb hby at_83) rfl ((if0 _ _).trans (flt (by decide : ¬ ((0 : Int32) < (0 : Int32)))).2.2.2) (by decide) (by decide) (Steps.refl _)) ?_
    show own_Fin _ _ _ _ (T111.setTop (mkF m 96 #[.val (.int p1), .val (.int p2), .val (.int p3), .val (.int p4), .val (.int p5), .val (.int (0 : Int32)), .val (.int v6_107), .val (.int v7_108), .val (.int v8_109), .val (.int v9_110), .val (.ref b111), .val (.int (1 : Int32)), .unset] []))
    refine own_go (XS.iload X111.here hx rfl (hb hby at_96) rfl (Steps.refl _)) ?_
    show own_Fin _ _ _ _ (T111.setTop (mkF m 98 #[.val (.int p1), .val (.int p2), .val (.int p3), .val (.int p4), .val (.int p5), .val (.int (0 : Int32)), .val (.int v6_107), .val (.int v7_108), .val (.int v8_109), .val (.int v9_110), .val (.ref b111), .val (.int (1 : Int32)), .unset] [(.int (0 : Int32))]))
    refine own_go (XS.ifYes X111.here hx rfl (pc0 := 98) (pc' := 112) rfl (hb hby at_98) rfl ((if0 _ _).trans (flt (by decide : ¬ ((0 : Int32) < (0 : Int32)))).2.2.2) (by decide) (by decide) (Steps.refl _)) ?_
    show own_Fin _ _ _ _ (T111.setTop (mkF m 112 #[.val (.int p1), .val (.int p2), .val (.int p3), .val (.int p4), .val (.int p5), .val (.int (0 : Int32)), .val (.int v6_107), .val (.int v7_108), .val (.int v8_109), .val (.int v9_110), .val (.ref b111), .val (.int (1 : Int32)), .unset] []))
    refine own_go (XS.iload X111.here hx rfl (hb hby at_112) rfl (Steps.refl _)) ?_
    show own_Fin _ _ _ _ (T111.setTop (mkF m 114 #[.val (.int p1), .val (.int p2), .val (.int p3), .val (.int p4), .val (.int p5), .val (.int (0 : Int32)), .val (.int v6_107), .val (.int v7_108), .val (.int v8_109), .val (.int v9_110), .val (.ref b111), .val (.int (1 : Int32)), .unset] [(.int (0 : Int32))]))
    refine own_go (XS.iconst X111.here hx rfl (hb hby at_114) (Steps.refl _)) ?_
    show own_Fin _ _ _ _ (T111.setTop (mkF m 115 #[.val (.int p1), .val (.int p2), .val (.int p3), .val (.int p4), .val (.int p5), .val (.int (0 : Int32)), .val (.int v6_107), .val (.int v7_108), .val (.int v8_109), .val (.int v9_110), .val (.ref b111), .val (.int (1 : Int32)), .unset] [(.int (1 : Int32)), (.int (0 : Int32))]))
    refine own_go (XS.icmpYes X111.here hx rfl (pc0 := 115) (pc' := 129) rfl (hb hby at_115) rfl (flt (by decide : ¬ ((1 : Int32) < (0 : Int32)))).2.2.2 (by decide) (by decide) (Steps.refl _)) ?_
    show own_Fin _ _ _ _ (T111.setTop (mkF m 129 #[.val (.int p1), .val (.int p2), .val (.int p3), .val (.int p4), .val (.int p5), .val (.int (0 : Int32)), .val (.int v6_107), .val (.int v7_108), .val (.int v8_109), .val (.int v9_110), .val (.ref b111), .val (.int (1 : Int32)), .unset] []))
    refine own_go (XS.iload X111.here hx rfl (hb hby at_129) rfl (Steps.refl _)) ?_
    show own_Fin _ _ _ _ (T111.setTop (mkF m 131 #[.val (.int p1), .val (.int p2), .val (.int p3), .val (.int p4), .val (.int p5), .val (.int (0 : Int32)), .val (.int v6_107), .val (.int v7_108), .val (.int v8_109), .val (.int v9_110), .val (.ref b111), .val (.int (1 : Int32)), .unset] [(.int (0 : Int32))]))
    refine own_go (XS.iconst X111.here hx rfl (hb hby at_131) (Steps.refl _)) ?_
    show own_Fin _ _ _ _ (T111.setTop (mkF m 132 #[.val (.int p1), .val (.int p2), .val (.int p3), .val (.int p4), .val (.int p5), .val (.int (0 : Int32)), .val (.int v6_107), .val (.int v7_108), .val (.int v8_109), .val (.int v9_110), .val (.ref b111), .val (.int (1 : Int32)), .unset] [(.int (2 : Int32)), (.int (0 : Int32))]))
    refine own_go (XS.icmpYes X111.here hx rfl (pc0 := 132) (pc' := 146) rfl (hb hby at_132) rfl (flt (by decide : ¬ ((2 : Int32) < (0 : Int32)))).2.2.2 (by decide) (by decide) (Steps.refl _)) ?_
    show own_Fin _ _ _ _ (T111.setTop (mkF m 146 #[.val (.int p1), .val (.int p2), .val (.int p3), .val (.int p4), .val (.int p5), .val (.int (0 : Int32)), .val (.int v6_107), .val (.int v7_108), .val (.int v8_109), .val (.int v9_110), .val (.ref b111), .val (.int (1 : Int32)), .unset] []))
    refine own_go (XS.iload X111.here hx rfl (hb hby at_146) rfl (Steps.refl _)) ?_
    show own_Fin _ _ _ _ (T111.setTop (mkF m 148 #[.val (.int p1), .val (.int p2), .val (.int p3), .val (.int p4), .val (.int p5), .val (.int (0 : Int32)), .val (.int v6_107), .val (.int v7_108), .val (.int v8_109), .val (.int v9_110), .val (.ref b111), .val (.int (1 : Int32)), .unset] [(.int (0 : Int32))]))
    refine own_go (XS.iconst X111.here hx rfl (hb hby at_148) (Steps.refl _)) ?_
    show own_Fin _ _ _ _ (T111.setTop (mkF m 149 #[.val (.int p1), .val (.int p2), .val (.int p3), .val (.int p4), .val (.int p5), .val (.int (0 : Int32)), .val (.int v6_107), .val (.int v7_108), .val (.int v8_109), .val (.int v9_110), .val (.ref b111), .val (.int (1 : Int32)), .unset] [(.int (3 : Int32)), (.int (0 : Int32))]))
    refine own_go (XS.icmpYes X111.here hx rfl (pc0 := 149) (pc' := 163) rfl (hb hby at_149) rfl (flt (by decide : ¬ ((3 : Int32) < (0 : Int32)))).2.2.2 (by decide) (by decide) (Steps.refl _)) ?_
    show own_Fin _ _ _ _ (T111.setTop (mkF m 163 #[.val (.int p1), .val (.int p2), .val (.int p3), .val (.int p4), .val (.int p5), .val (.int (0 : Int32)), .val (.int v6_107), .val (.int v7_108), .val (.int v8_109), .val (.int v9_110), .val (.ref b111), .val (.int (1 : Int32)), .unset] []))
    refine own_go (XS.aload X111.here hx rfl (hb hby at_163) rfl rfl (Steps.refl _)) ?_
    show own_Fin _ _ _ _ (T111.setTop (mkF m 165 #[.val (.int p1), .val (.int p2), .val (.int p3), .val (.int p4), .val (.int p5), .val (.int (0 : Int32)), .val (.int v6_107), .val (.int v7_108), .val (.int v8_109), .val (.int v9_110), .val (.ref b111), .val (.int (1 : Int32)), .unset] [(.ref b111)]))
    obtain ⟨_, _, ⟨T112, L112, k112, n112⟩, -, X112, ⟨Lc112, hQ112, l112, y112, z112⟩, st112⟩ := Jvm.LawKit.callS X111 hx (y := (⟨"com/example/gridtally/gridtally/casefile/FieldText", "isWhole", "([B)Z"⟩ : MethodName)) hown (mvT hZ (hw _ (List.mem_of_getElem? (i := 1) rfl))) (mvT hZ (hw _ (List.mem_of_getElem? (i := 2) rfl))) (mvT hZ (hw _ (List.mem_of_getElem? (i := 3) rfl))) (mvT hZ (hw _ (List.mem_of_getElem? (i := 4) rfl))) (by decide) (backOf (W := 0) (rm1_0 l Z a0 hw [] b111 k111 h111 n0 Z111 V_b111) hZ (hw _ (List.mem_of_getElem? (i := 4) rfl)) (hw _ (List.mem_of_getElem? (i := 3) rfl)) (by decide) (by decide)) (g := (mkF m 165 #[.val (.int p1), .val (.int p2), .val (.int p3), .val (.int p4), .val (.int p5), .val (.int (0 : Int32)), .val (.int v6_107), .val (.int v7_108), .val (.int v8_109), .val (.int v9_110), .val (.ref b111), .val (.int (1 : Int32)), .unset] [(.ref b111)])) rfl (by rw [hml]; rfl) (argsL := [(.ref b111)]) (rest := []) (lenOf pd__28__5b_B_29_Z rfl) rfl (by show 2 * 0 + _ ≤ _; exact Nat.le_of_eq rfl) (hb hby at_165) (fun _ _ => ⟨rfl, e111, (by decide : 1 + 0 ≤ _), (by decide : 0 + 0 ≤ _)⟩)
    dsimp only [Pt.U, Pt.locs, Pt.cells, Pt.slots] at X112 l112 y112 z112 st112 hQ112
    subst l112 y112 z112
    obtain ⟨rfl, Nq112, e112⟩ := hQ112
    refine own_by st112 ?_
    have N112 := Fr.app N0 Nq112
    show own_Fin _ _ _ _ (T112.setTop (mkF m 168 #[.val (.int p1), .val (.int p2), .val (.int p3), .val (.int p4), .val (.int p5), .val (.int (0 : Int32)), .val (.int v6_107), .val (.int v7_108), .val (.int v8_109), .val (.int v9_110), .val (.ref b111), .val (.int (1 : Int32)), .unset] [(.int (1 : Int32))]))
    refine own_go (XS.istore X112.here hx rfl (hb hby at_168) rfl (l' := #[.val (.int p1), .val (.int p2), .val (.int p3), .val (.int p4), .val (.int p5), .val (.int (0 : Int32)), .val (.int v6_107), .val (.int v7_108), .val (.int v8_109), .val (.int v9_110), .val (.ref b111), .val (.int (1 : Int32)), .val (.int (1 : Int32))]) rfl (Steps.refl _)) ?_
    show own_Fin _ _ _ _ (T112.setTop (mkF m 170 #[.val (.int p1), .val (.int p2), .val (.int p3), .val (.int p4), .val (.int p5), .val (.int (0 : Int32)), .val (.int v6_107), .val (.int v7_108), .val (.int v8_109), .val (.int v9_110), .val (.ref b111), .val (.int (1 : Int32)), .val (.int (1 : Int32))] []))
    refine own_go (XS.iload X112.here hx rfl (hb hby at_170) rfl (Steps.refl _)) ?_
    show own_Fin _ _ _ _ (T112.setTop (mkF m 172 #[.val (.int p1), .val (.int p2), .val (.int p3), .val (.int p4), .val (.int p5), .val (.int (0 : Int32)), .val (.int v6_107), .val (.int v7_108), .val (.int v8_109), .val (.int v9_110), .val (.ref b111), .val (.int (1 : Int32)), .val (.int (1 : Int32))] [(.int (1 : Int32))]))
    refine own_go (XS.iload X112.here hx rfl (hb hby at_172) rfl (Steps.refl _)) ?_
    show own_Fin _ _ _ _ (T112.setTop (mkF m 174 #[.val (.int p1), .val (.int p2), .val (.int p3), .val (.int p4), .val (.int p5), .val (.int (0 : Int32)), .val (.int v6_107), .val (.int v7_108), .val (.int v8_109), .val (.int v9_110), .val (.ref b111), .val (.int (1 : Int32)), .val (.int (1 : Int32))] [(.int (1 : Int32)), (.int (1 : Int32))]))
    refine own_go (XS.icmpNo X112.here hx rfl (hb hby at_174) rfl (teq (by decide : (1 : Int32) = (1 : Int32))).2 (Steps.refl _)) ?_
    show own_Fin _ _ _ _ (T112.setTop (mkF m 177 #[.val (.int p1), .val (.int p2), .val (.int p3), .val (.int p4), .val (.int p5), .val (.int (0 : Int32)), .val (.int v6_107), .val (.int v7_108), .val (.int v8_109), .val (.int v9_110), .val (.ref b111), .val (.int (1 : Int32)), .val (.int (1 : Int32))] []))
    refine own_go (XS.iconst X112.here hx rfl (hb hby at_177) (Steps.refl _)) ?_
    show own_Fin _ _ _ _ (T112.setTop (mkF m 178 #[.val (.int p1), .val (.int p2), .val (.int p3), .val (.int p4), .val (.int p5), .val (.int (0 : Int32)), .val (.int v6_107), .val (.int v7_108), .val (.int v8_109), .val (.int v9_110), .val (.ref b111), .val (.int (1 : Int32)), .val (.int (1 : Int32))] [(.int (1 : Int32))]))
    refine own_go (XS.goto X112.here hx rfl (pc0 := 178) (pc' := 182) rfl (hb hby at_178) (by decide) (by decide) (Steps.refl _)) ?_
    show own_Fin _ _ _ _ (T112.setTop (mkF m 182 #[.val (.int p1), .val (.int p2), .val (.int p3), .val (.int p4), .val (.int p5), .val (.int (0 : Int32)), .val (.int v6_107), .val (.int v7_108), .val (.int v8_109), .val (.int v9_110), .val (.ref b111), .val (.int (1 : Int32)), .val (.int (1 : Int32))] [(.int (1 : Int32))]))
    obtain ⟨fs113, hr113, hrun113, hended113, hW113, hsame113⟩ := X112.leave (v := some (.int (1 : Int32))) (fun h => by rw [Bd.returns] at h; cases h)
    refine own_done (retN X112 hx (t := .boolean) Bd.returns (by simp) (hb hby at_182) hr113) hrun113 hended113 ⟨_, _, rfl, ?_, ⟨_, rfl⟩, hW113, hsame113.mono (by decide) (by decide)⟩
    show Q0 Z p1 p2 p3 p4 p5 h0 n0 _ T112.heap _
    rw [e112]
    exact ⟨rfl, N112⟩
  · show own_Fin _ _ _ _ (s₁.setTop (mkF m 8 #[.val (.int p1), .val (.int p2), .val (.int p3), .val (.int p4), .val (.int p5), .val (.int (1 : Int32)), .unset, .unset, .unset, .unset, .unset, .unset, .unset] []))
    refine own_go (XS.iloadN X0.here hx rfl (hb hby at_8) rfl (Steps.refl _)) ?_
    show own_Fin _ _ _ _ (s₁.setTop (mkF m 9 #[.val (.int p1), .val (.int p2), .val (.int p3), .val (.int p4), .val (.int p5), .val (.int (1 : Int32)), .unset, .unset, .unset, .unset, .unset, .unset, .unset] [(.int p2)]))
    refine own_go (XS.i2b X0.here hx rfl (hb hby at_9) rfl (Steps.refl _)) ?_
    show own_Fin _ _ _ _ (s₁.setTop (mkF m 10 #[.val (.int p1), .val (.int p2), .val (.int p3), .val (.int p4), .val (.int p5), .val (.int (1 : Int32)), .unset, .unset, .unset, .unset, .unset, .unset, .unset] [(.int (p2.toInt8.toInt32))]))
    refine own_go (XS.istore X0.here hx rfl (hb hby at_10) rfl (l' := #[.val (.int p1), .val (.int p2), .val (.int p3), .val (.int p4), .val (.int p5), .val (.int (1 : Int32)), .val (.int (p2.toInt8.toInt32)), .unset, .unset, .unset, .unset, .unset, .unset]) rfl (Steps.refl _)) ?_
    show own_Fin _ _ _ _ (s₁.setTop (mkF m 12 #[.val (.int p1), .val (.int p2), .val (.int p3), .val (.int p4), .val (.int p5), .val (.int (1 : Int32)), .val (.int (p2.toInt8.toInt32)), .unset, .unset, .unset, .unset, .unset, .unset] []))
    generalize hz_v6_114 : (p2.toInt8.toInt32) = v6_114
    refine own_go (XS.iloadN X0.here hx rfl (hb hby at_12) rfl (Steps.refl _)) ?_
    show own_Fin _ _ _ _ (s₁.setTop (mkF m 13 #[.val (.int p1), .val (.int p2), .val (.int p3), .val (.int p4), .val (.int p5), .val (.int (1 : Int32)), .val (.int v6_114), .unset, .unset, .unset, .unset, .unset, .unset] [(.int p3)]))
    refine own_go (XS.i2b X0.here hx rfl (hb hby at_13) rfl (Steps.refl _)) ?_
    show own_Fin _ _ _ _ (s₁.setTop (mkF m 14 #[.val (.int p1), .val (.int p2), .val (.int p3), .val (.int p4), .val (.int p5), .val (.int (1 : Int32)), .val (.int v6_114), .unset, .unset, .unset, .unset, .unset, .unset] [(.int (p3.toInt8.toInt32))]))
    refine own_go (XS.istore X0.here hx rfl (hb hby at_14) rfl (l' := #[.val (.int p1), .val (.int p2), .val (.int p3), .val (.int p4), .val (.int p5), .val (.int (1 : Int32)), .val (.int v6_114), .val (.int (p3.toInt8.toInt32)), .unset, .unset, .unset, .unset, .unset]) rfl (Steps.refl _)) ?_
    show own_Fin _ _ _ _ (s₁.setTop (mkF m 16 #[.val (.int p1), .val (.int p2), .val (.int p3), .val (.int p4), .val (.int p5), .val (.int (1 : Int32)), .val (.int v6_114), .val (.int (p3.toInt8.toInt32)), .unset, .unset, .unset, .unset, .unset] []))
    generalize hz_v7_115 : (p3.toInt8.toInt32) = v7_115
    refine own_go (XS.iloadN X0.here hx rfl (hb hby at_16) rfl (Steps.refl _)) ?_
    show own_Fin _ _ _ _ (s₁.setTop (mkF m 17 #[.val (.int p1), .val (.int p2), .val (.int p3), .val (.int p4), .val (.int p5), .val (.int (1 : Int32)), .val (.int v6_114), .val (.int v7_115), .unset, .unset, .unset, .unset, .unset] [(.int p4)]))
    refine own_go (XS.i2b X0.here hx rfl (hb hby at_17) rfl (Steps.refl _)) ?_
    show own_Fin _ _ _ _ (s₁.setTop (mkF m 18 #[.val (.int p1), .val (.int p2), .val (.int p3), .val (.int p4), .val (.int p5), .val (.int (1 : Int32)), .val (.int v6_114), .val (.int v7_115), .unset, .unset, .unset, .unset, .unset] [(.int (p4.toInt8.toInt32))]))
    refine own_go (XS.istore X0.here hx rfl (hb hby at_18) rfl (l' := #[.val (.int p1), .val (.int p2), .val (.int p3), .val (.int p4), .val (.int p5), .val (.int (1 : Int32)), .val (.int v6_114), .val (.int v7_115), .val (.int (p4.toInt8.toInt32)), .unset, .unset, .unset, .unset]) rfl (Steps.refl _)) ?_
    show own_Fin _ _ _ _ (s₁.setTop (mkF m 20 #[.val (.int p1), .val (.int p2), .val (.int p3), .val (.int p4), .val (.int p5), .val (.int (1 : Int32)), .val (.int v6_114), .val (.int v7_115), .val (.int (p4.toInt8.toInt32)), .unset, .unset, .unset, .unset] []))
    generalize hz_v8_116 : (p4.toInt8.toInt32) = v8_116
    refine own_go (XS.iload X0.here hx rfl (hb hby at_20) rfl (Steps.refl _)) ?_
    show own_Fin _ _ _ _ (s₁.setTop (mkF m 22 #[.val (.int p1), .val (.int p2), .val (.int p3), .val (.int p4), .val (.int p5), .val (.int (1 : Int32)), .val (.int v6_114), .val (.int v7_115), .val (.int v8_116), .unset, .unset, .unset, .unset] [(.int p5)]))
    refine own_go (XS.i2b X0.here hx rfl (hb hby at_22) rfl (Steps.refl _)) ?_
    show own_Fin _ _ _ _ (s₁.setTop (mkF m 23 #[.val (.int p1), .val (.int p2), .val (.int p3), .val (.int p4), .val (.int p5), .val (.int (1 : Int32)), .val (.int v6_114), .val (.int v7_115), .val (.int v8_116), .unset, .unset, .unset, .unset] [(.int (p5.toInt8.toInt32))]))
    refine own_go (XS.istore X0.here hx rfl (hb hby at_23) rfl (l' := #[.val (.int p1), .val (.int p2), .val (.int p3), .val (.int p4), .val (.int p5), .val (.int (1 : Int32)), .val (.int v6_114), .val (.int v7_115), .val (.int v8_116), .val (.int (p5.toInt8.toInt32)), .unset, .unset, .unset]) rfl (Steps.refl _)) ?_
    show own_Fin _ _ _ _ (s₁.setTop (mkF m 25 #[.val (.int p1), .val (.int p2), .val (.int p3), .val (.int p4), .val (.int p5), .val (.int (1 : Int32)), .val (.int v6_114), .val (.int v7_115), .val (.int v8_116), .val (.int (p5.toInt8.toInt32)), .unset, .unset, .unset] []))
    generalize hz_v9_117 : (p5.toInt8.toInt32) = v9_117
    refine own_go (XS.iload X0.here hx rfl (hb hby at_25) rfl (Steps.refl _)) ?_
    show own_Fin _ _ _ _ (s₁.setTop (mkF m 27 #[.val (.int p1), .val (.int p2), .val (.int p3), .val (.int p4), .val (.int p5), .val (.int (1 : Int32)), .val (.int v6_114), .val (.int v7_115), .val (.int v8_116), .val (.int v9_117), .unset, .unset, .unset] [(.int (1 : Int32))]))
    obtain ⟨T118, h118, k118, X118, e118, E118, A118, st118⟩ := newP X0 hx hZ (hw _ (List.mem_of_getElem? (i := 0) rfl)) e0 (g := (mkF m 27 #[.val (.int p1), .val (.int p2), .val (.int p3), .val (.int p4), .val (.int p5), .val (.int (1 : Int32)), .val (.int v6_114), .val (.int v7_115), .val (.int v8_116), .val (.int v9_117), .unset, .unset, .unset] [(.int (1 : Int32))])) rfl (hb hby at_27) rfl (by decide) (cap := 1) (by decide) (by decide) (by decide) (by decide)
    obtain ⟨b118, g118⟩ : ∃ z, z = h0.size := ⟨_, rfl⟩
    rw [← g118] at A118 st118
    refine own_by st118 ?_
    have g_b118 : n0 ≤ b118 := Nat.le_trans Z0 (Nat.le_of_eq g118.symm)
    have Z118 : n0 ≤ h118.size := Nat.le_trans Z0 E118.1
    have V_b118 : Arv Z h118 b118 k118 .byte (1 : Int32) [(.int (0 : Int32))] (.int (0 : Int32)) := (Arv.new A118 (by decide)).pad (pad_rep [] (.int (0 : Int32)) 1)
    show own_Fin _ _ _ _ (T118.setTop (mkF m 29 #[.val (.int p1), .val (.int p2), .val (.int p3), .val (.int p4), .val (.int p5), .val (.int (1 : Int32)), .val (.int v6_114), .val (.int v7_115), .val (.int v8_116), .val (.int v9_117), .unset, .unset, .unset] [(.ref b118)]))
    refine own_go (XS.astore X118.here hx rfl (hb hby at_29) rfl rfl (l' := #[.val (.int p1), .val (.int p2), .val (.int p3), .val (.int p4), .val (.int p5), .val (.int (1 : Int32)), .val (.int v6_114), .val (.int v7_115), .val (.int v8_116), .val (.int v9_117), .val (.ref b118), .unset, .unset]) rfl (Steps.refl _)) ?_
    show own_Fin _ _ _ _ (T118.setTop (mkF m 31 #[.val (.int p1), .val (.int p2), .val (.int p3), .val (.int p4), .val (.int p5), .val (.int (1 : Int32)), .val (.int v6_114), .val (.int v7_115), .val (.int v8_116), .val (.int v9_117), .val (.ref b118), .unset, .unset] []))
    refine own_go (XS.iload X118.here hx rfl (hb hby at_31) rfl (Steps.refl _)) ?_
    show own_Fin _ _ _ _ (T118.setTop (mkF m 33 #[.val (.int p1), .val (.int p2), .val (.int p3), .val (.int p4), .val (.int p5), .val (.int (1 : Int32)), .val (.int v6_114), .val (.int v7_115), .val (.int v8_116), .val (.int v9_117), .val (.ref b118), .unset, .unset] [(.int (1 : Int32))]))
    refine own_go (XS.ifNo X118.here hx rfl (hb hby at_33) rfl ((if0 _ _).trans (tlt (by decide : (0 : Int32) < (1 : Int32))).2.2.2) (Steps.refl _)) ?_
    show own_Fin _ _ _ _ (T118.setTop (mkF m 36 #[.val (.int p1), .val (.int p2), .val (.int p3), .val (.int p4), .val (.int p5), .val (.int (1 : Int32)), .val (.int v6_114), .val (.int v7_115), .val (.int v8_116), .val (.int v9_117), .val (.ref b118), .unset, .unset] []))
    refine own_go (XS.aload X118.here hx rfl (hb hby at_36) rfl rfl (Steps.refl _)) ?_
    show own_Fin _ _ _ _ (T118.setTop (mkF m 38 #[.val (.int p1), .val (.int p2), .val (.int p3), .val (.int p4), .val (.int p5), .val (.int (1 : Int32)), .val (.int v6_114), .val (.int v7_115), .val (.int v8_116), .val (.int v9_117), .val (.ref b118), .unset, .unset] [(.ref b118)]))
    refine own_go (XS.iconst X118.here hx rfl (hb hby at_38) (Steps.refl _)) ?_
    show own_Fin _ _ _ _ (T118.setTop (mkF m 39 #[.val (.int p1), .val (.int p2), .val (.int p3), .val (.int p4), .val (.int p5), .val (.int (1 : Int32)), .val (.int v6_114), .val (.int v7_115), .val (.int v8_116), .val (.int v9_117), .val (.ref b118), .unset, .unset] [(.int (0 : Int32)), (.ref b118)]))
    refine own_go (XS.iload X118.here hx rfl (hb hby at_39) rfl (Steps.refl _)) ?_
    show own_Fin _ _ _ _ (T118.setTop (mkF m 41 #[.val (.int p1), .val (.int p2), .val (.int p3), .val (.int p4), .val (.int p5), .val (.int (1 : Int32)), .val (.int v6_114), .val (.int v7_115), .val (.int v8_116), .val (.int v9_117), .val (.ref b118), .unset, .unset] [(.int v6_114), (.int (0 : Int32)), (.ref b118)]))
    obtain ⟨cl119, Ar119, qa119, Sa119, Na119, Ha119, Ga119⟩ := id V_b118
    have hin119 : ¬ ((0 : Int32) < 0 ∨ cl119.slots.size ≤ ((0 : Int32)).toNatClampNeg) := inb_of Sa119 ⟨by decide, by decide⟩
    obtain ⟨T120, h120, X120, e120, W120, st120⟩ := stB X118 hx hZ e118 Ar119 (j := (0 : Int32)) hin119 (g := (mkF m 41 #[.val (.int p1), .val (.int p2), .val (.int p3), .val (.int p4), .val (.int p5), .val (.int (1 : Int32)), .val (.int v6_114), .val (.int v7_115), .val (.int v8_116), .val (.int v9_117), .val (.ref b118), .unset, .unset] [(.int v6_114), (.int (0 : Int32)), (.ref b118)])) rfl rfl (hb hby at_41)
    refine own_by st120 ?_
    have hnr120 : nar .byte v6_114 = v6_114 := by rw [← hz_v6_114]; exact own_nb _
    rw [hnr120] at W120
    have V_b118_120 : Arv Z h120 b118 k118 .byte (1 : Int32) [(.int v6_114)] (.int (0 : Int32)) := Arv.set Ar119 qa119 Sa119 Na119 Ha119 Ga119 (hnr120 ▸ fits_nar_byte v6_114) W120 0 rfl (Nat.le_of_ble_eq_true rfl)
    have N120 := Fr.snoc X120 N0 g_b118
    have Z120 : n0 ≤ h120.size := Nat.le_trans Z118 (Keep.of_wr W120).1
    show own_Fin _ _ _ _ (T120.setTop (mkF m 42 #[.val (.int p1), .val (.int p2), .val (.int p3), .val (.int p4), .val (.int p5), .val (.int (1 : Int32)), .val (.int v6_114), .val (.int v7_115), .val (.int v8_116), .val (.int v9_117), .val (.ref b118), .unset, .unset] []))
    refine own_go (XS.iload X120.here hx rfl (hb hby at_42) rfl (Steps.refl _)) ?_
    show own_Fin _ _ _ _ (T120.setTop (mkF m 44 #[.val (.int p1), .val (.int p2), .val (.int p3), .val (.int p4), .val (.int p5), .val (.int (1 : Int32)), .val (.int v6_114), .val (.int v7_115), .val (.int v8_116), .val (.int v9_117), .val (.ref b118), .unset, .unset] [(.int (1 : Int32))]))
    refine own_go (XS.iconst X120.here hx rfl (hb hby at_44) (Steps.refl _)) ?_
    show own_Fin _ _ _ _ (T120.setTop (mkF m 45 #[.val (.int p1), .val (.int p2), .val (.int p3), .val (.int p4), .val (.int p5), .val (.int (1 : Int32)), .val (.int v6_114), .val (.int v7_115), .val (.int v8_116), .val (.int v9_117), .val (.ref b118), .unset, .unset] [(.int (1 : Int32)), (.int (1 : Int32))]))
    refine own_go (XS.icmpYes X120.here hx rfl (pc0 := 45) (pc' := 54) rfl (hb hby at_45) rfl (flt (by decide : ¬ ((1 : Int32) < (1 : Int32)))).2.2.2 (by decide) (by decide) (Steps.refl _)) ?_
    show own_Fin _ _ _ _ (T120.setTop (mkF m 54 #[.val (.int p1), .val (.int p2), .val (.int p3), .val (.int p4), .val (.int p5), .val (.int (1 : Int32)), .val (.int v6_114), .val (.int v7_115), .val (.int v8_116), .val (.int v9_117), .val (.ref b118), .unset, .unset] []))
    refine own_go (XS.iload X120.here hx rfl (hb hby at_54) rfl (Steps.refl _)) ?_
    show own_Fin _ _ _ _ (T120.setTop (mkF m 56 #[.val (.int p1), .val (.int p2), .val (.int p3), .val (.int p4), .val (.int p5), .val (.int (1 : Int32)), .val (.int v6_114), .val (.int v7_115), .val (.int v8_116), .val (.int v9_117), .val (.ref b118), .unset, .unset] [(.int (1 : Int32))]))
    refine own_go (XS.iconst X120.here hx rfl (hb hby at_56) (Steps.refl _)) ?_
    show own_Fin _ _ _ _ (T120.setTop (mkF m 57 #[.val (.int p1), .val (.int p2), .val (.int p3), .val (.int p4), .val (.int p5), .val (.int (1 : Int32)), .val (.int v6_114), .val (.int v7_115), .val (.int v8_116), .val (.int v9_117), .val (.ref b118), .unset, .unset] [(.int (2 : Int32)), (.int (1 : Int32))]))
    refine own_go (XS.icmpYes X120.here hx rfl (pc0 := 57) (pc' := 66) rfl (hb hby at_57) rfl (flt (by decide : ¬ ((2 : Int32) < (1 : Int32)))).2.2.2 (by decide) (by decide) (Steps.refl _)) ?_
    show own_Fin _ _ _ _ (T120.setTop (mkF m 66 #[.val (.int p1), .val (.int p2), .val (.int p3), .val (.int p4), .val (.int p5), .val (.int (1 : Int32)), .val (.int v6_114), .val (.int v7_115), .val (.int v8_116), .val (.int v9_117), .val (.ref b118), .unset, .unset] []))
    refine own_go (XS.iload X120.here hx rfl (hb hby at_66) rfl (Steps.refl _)) ?_
    show own_Fin _ _ _ _ (T120.setTop (mkF m 68 #[.val (.int p1), .val (.int p2), .val (.int p3), .val (.int p4), .val (.int p5), .val (.int (1 : Int32)), .val (.int v6_114), .val (.int v7_115), .val (.int v8_116), .val (.int v9_117), .val (.ref b118), .unset, .unset] [(.int (1 : Int32))]))
    refine own_go (XS.iconst X120.here hx rfl (hb hby at_68) (Steps.refl _)) ?_
    show own_Fin _ _ _ _ (T120.setTop (mkF m 69 #[.val (.int p1), .val (.int p2), .val (.int p3), .val (.int p4), .val (.int p5), .val (.int (1 : Int32)), .val (.int v6_114), .val (.int v7_115), .val (.int v8_116), .val (.int v9_117), .val (.ref b118), .unset, .unset] [(.int (3 : Int32)), (.int (1 : Int32))]))
    refine own_go (XS.icmpYes X120.here hx rfl (pc0 := 69) (pc' := 78) rfl (hb hby at_69) rfl (flt (by decide : ¬ ((3 : Int32) < (1 : Int32)))).2.2.2 (by decide) (by decide) (Steps.refl _)) ?_
    show own_Fin _ _ _ _ (T120.setTop (mkF m 78 #[.val (.int p1), .val (.int p2), .val (.int p3), .val (.int p4), .val (.int p5), .val (.int (1 : Int32)), .val (.int v6_114), .val (.int v7_115), .val (.int v8_116), .val (.int v9_117), .val (.ref b118), .unset, .unset] []))
    refine own_go (XS.iconst X120.here hx rfl (hb hby at_78) (Steps.refl _)) ?_
    show own_Fin _ _ _ _ (T120.setTop (mkF m 79 #[.val (.int p1), .val (.int p2), .val (.int p3), .val (.int p4), .val (.int p5), .val (.int (1 : Int32)), .val (.int v6_114), .val (.int v7_115), .val (.int v8_116), .val (.int v9_117), .val (.ref b118), .unset, .unset] [(.int (1 : Int32))]))
    refine own_go (XS.istore X120.here hx rfl (hb hby at_79) rfl (l' := #[.val (.int p1), .val (.int p2), .val (.int p3), .val (.int p4), .val (.int p5), .val (.int (1 : Int32)), .val (.int v6_114), .val (.int v7_115), .val (.int v8_116), .val (.int v9_117), .val (.ref b118), .val (.int (1 : Int32)), .unset]) rfl (Steps.refl _)) ?_
    show own_Fin _ _ _ _ (T120.setTop (mkF m 81 #[.val (.int p1), .val (.int p2), .val (.int p3), .val (.int p4), .val (.int p5), .val (.int (1 : Int32)), .val (.int v6_114), .val (.int v7_115), .val (.int v8_116), .val (.int v9_117), .val (.ref b118), .val (.int (1 : Int32)), .unset] []))
    refine own_go (XS.iload X120.here hx rfl (hb hby at_81) rfl (Steps.refl _)) ?_
    show own_Fin _ _ _ _ (T120.setTop (mkF m 83 #[.val (.int p1), .val (.int p2), .val (.int p3), .val (.int p4), .val (.int p5), .val (.int (1 : Int32)), .val (.int v6_114), .val (.int v7_115), .val (.int v8_116), .val (.int v9_117), .val (.ref b118), .val (.int (1 : Int32)), .unset] [(.int (1 : Int32))]))
    refine own_go (XS.ifNo X120.here hx rfl (hb hby at_83) rfl ((if0 _ _).trans (tlt (by decide : (0 : Int32) < (1 : Int32))).2.2.2) (Steps.refl _)) ?_
    show own_Fin _ _ _ _ (T120.setTop (mkF m 86 #[.val (.int p1), .val (.int p2), .val (.int p3), .val (.int p4), .val (.int p5), .val (.int (1 : Int32)), .val (.int v6_114), .val (.int v7_115), .val (.int v8_116), .val (.int v9_117), .val (.ref b118), .val (.int (1 : Int32)), .unset] []))
    refine own_go (XS.iload X120.here hx rfl (hb hby at_86) rfl (Steps.refl _)) ?_
    show own_Fin _ _ _ _ (T120.setTop (mkF m 88 #[.val (.int p1), .val (.int p2), .val (.int p3), .val (.int p4), .val (.int p5), .val (.int (1 : Int32)), .val (.int v6_114), .val (.int v7_115), .val (.int v8_116), .val (.int v9_117), .val (.ref b118), .val (.int (1 : Int32)), .unset] [(.int v6_114)]))
    refine own_go (XS.bipush X120.here hx rfl (hb hby at_88) (Steps.refl _)) ?_
    show own_Fin _ _ _ _ (T120.setTop (mkF m 90 #[.val (.int p1), .val (.int p2), .val (.int p3), .val (.int p4), .val (.int p5), .val (.int (1 : Int32)), .val (.int v6_114), .val (.int v7_115), .val (.int v8_116), .val (.int v9_117), .val (.ref b118), .val (.int (1 : Int32)), .unset] [(.int (34 : Int32)), (.int v6_114)]))
    have jn123 : ∀ (Tj123 : State) (Lj123 : List Loc) (xe121 : Int32), Stand p l e room_1 s m #[(.int p1), (.int p2), (.int p3), (.int p4), (.int p5)] below meth c Tj123 Lj123 1 1 → Tj123.heap = h120 → Fr n0 Lj123 → (xe121 = (if v6_114 = (34 : Int32) then (0 : Int32) else (1 : Int32))) → own_Fin p e below (G0 Z p1 p2 p3 p4 p5 h0 n0 s) (Tj123.setTop (mkF m 96 #[.val (.int p1), .val (.int p2), .val (.int p3), .val (.int p4), .val (.int p5), .val (.int (1 : Int32)), .val (.int v6_114), .val (.int v7_115), .val (.int v8_116), .val (.int v9_117), .val (.ref b118), .val (.int xe121), .unset] [])) := by
      intro Tj123 Lj123 xe121 Xj123 ej123 Nj123 hj123
      refine own_go (XS.iload Xj123.here hx rfl (hb hby at_96) rfl (Steps.refl _)) ?_
      show own_Fin _ _ _ _ (Tj123.setTop (mkF m 98 #[.val (.int p1), .val (.int p2), .val (.int p3), .val (.int p4), .val (.int p5), .val (.int (1 : Int32)), .val (.int v6_114), .val (.int v7_115), .val (.int v8_116), .val (.int v9_117), .val (.ref b118), .val (.int xe121), .unset] [(.int (1 : Int32))]))
      refine own_go (XS.ifNo Xj123.here hx rfl (hb hby at_98) rfl ((if0 _ _).trans (tlt (by decide : (0 : Int32) < (1 : Int32))).2.2.2) (Steps.refl _)) ?_
      show own_Fin _ _ _ _ (Tj123.setTop (mkF m 101 #[.val (.int p1), .val (.int p2), .val (.int p3), .val (.int p4), .val (.int p5), .val (.int (1 : Int32)), .val (.int v6_114), .val (.int v7_115), .val (.int v8_116), .val (.int v9_117), .val (.ref b118), .val (.int xe121), .unset] []))
      refine own_go (XS.iload Xj123.here hx rfl (hb hby at_101) rfl (Steps.refl _)) ?_
      show own_Fin _ _ _ _ (Tj123.setTop (mkF m 103 #[.val (.int p1), .val (.int p2), .val (.int p3), .val (.int p4), .val (.int p5), .val (.int (1 : Int32)), .val (.int v6_114), .val (.int v7_115), .val (.int v8_116), .val (.int v9_117), .val (.ref b118), .val (.int xe121), .unset] [(.int v6_114)]))
      obtain ⟨_, _, ⟨T124, L124, k124, n124⟩, -, X124, ⟨Lc124, hQ124, l124, y124, z124⟩, st124⟩ := Jvm.LawKit.callS Xj123 hx (y := (⟨"com/example/gridtally/gridtally/casefile/FieldTextIsWholePinLaw", "bad", "(B)Z"⟩ : MethodName)) hown (mvT hZ (hw _ (List.mem_of_getElem? (i := 5) rfl))) (mvT hZ (hw _ (List.mem_of_getElem? (i := 6) rfl))) (mvT hZ (hw _ (List.mem_of_getElem? (i := 7) rfl))) (mvT hZ (hw _ (List.mem_of_getElem? (i := 8) rfl))) (by decide) (backOf (W := 0) (rm2 l Z a0 hw [] v6_114 h120 n0 Z120) hZ (hw _ (List.mem_of_getElem? (i := 8) rfl)) (hw _ (List.mem_of_getElem? (i := 7) rfl)) (by decide) (by decide)) (g := (mkF m 103 #[.val (.int p1), .val (.int p2), .val (.int p3), .val (.int p4), .val (.int p5), .val (.int (1 : Int32)), .val (.int v6_114), .val (.int v7_115), .val (.int v8_116), .val (.int v9_117), .val (.ref b118), .val (.int xe121), .unset] [(.int v6_114)])) rfl (by rw [hml]; rfl) (argsL := [(.int v6_114)]) (rest := []) (lenOf pd__28_B_29_Z rfl) rfl (by show 2 * 0 + _ ≤ _; exact Nat.le_of_eq rfl) (hb hby at_103) (fun _ _ => ⟨rfl, ej123, (by decide : 1 + 0 ≤ _), (by decide : 1 + 0 ≤ _)⟩)
      dsimp only [Pt.U, Pt.locs, Pt.cells, Pt.slots] at X124 l124 y124 z124 st124 hQ124
      subst l124 y124 z124
      obtain ⟨rfl, Nq124, e124⟩ := hQ124
      refine own_by st124 ?_
      have N124 := Fr.app Nj123 Nq124
      show own_Fin _ _ _ _ (T124.setTop (mkF m 106 #[.val (.int p1), .val (.int p2), .val (.int p3), .val (.int p4), .val (.int p5), .val (.int (1 : Int32)), .val (.int v6_114), .val (.int v7_115), .val (.int v8_116), .val (.int v9_117), .val (.ref b118), .val (.int xe121), .unset] [(.int (if own_bad v6_114 then (1 : Int32) else 0))]))
      have jn127 : ∀ (Tj127 : State) (Lj127 : List Loc) (xe125 : Int32), Stand p l e room_1 s m #[(.int p1), (.int p2), (.int p3), (.int p4), (.int p5)] below meth c Tj127 Lj127 1 1 → Tj127.heap = h120 → Fr n0 Lj127 → (xe125 = (if own_bad v6_114 = true then (0 : Int32) else xe121)) → own_Fin p e below (G0 Z p1 p2 p3 p4 p5 h0 n0 s) (Tj127.setTop (mkF m 112 #[.val (.int p1), .val (.int p2), .val (.int p3), .val (.int p4), .val (.int p5), .val (.int (1 : Int32)), .val (.int v6_114), .val (.int v7_115), .val (.int v8_116), .val (.int v9_117), .val (.ref b118), .val (.int xe125), .unset] [])) := by
        intro Tj127 Lj127 xe125 Xj127 ej127 Nj127 hj127
        refine own_go (XS.iload Xj127.here hx rfl (hb hby at_112) rfl (Steps.refl _)) ?_
        show own_Fin _ _ _ _ (Tj127.setTop (mkF m 114 #[.val (.int p1), .val (.int p2), .val (.int p3), .val (.int p4), .val (.int p5), .val (.int (1 : Int32)), .val (.int v6_114), .val (.int v7_115), .val (.int v8_116), .val (.int v9_117), .val (.ref b118), .val (.int xe125), .unset] [(.int (1 : Int32))]))
        refine own_go (XS.iconst Xj127.here hx rfl (hb hby at_114) (Steps.refl _)) ?_
        show own_Fin _ _ _ _ (Tj127.setTop (mkF m 115 #[.val (.int p1), .val (.int p2), .val (.int p3), .val (.int p4), .val (.int p5), .val (.int (1 : Int32)), .val (.int v6_114), .val (.int v7_115), .val (.int v8_116), .val (.int v9_117), .val (.ref b118), .val (.int xe125), .unset] [(.int (1 : Int32)), (.int (1 : Int32))]))
        refine own_go (XS.icmpYes Xj127.here hx rfl (pc0 := 115) (pc' := 129) rfl (hb hby at_115) rfl (flt (by decide : ¬ ((1 : Int32) < (1 : Int32)))).2.2.2 (by decide) (by decide) (Steps.refl _)) ?_
        show own_Fin _ _ _ _ (Tj127.setTop (mkF m 129 #[.val (.int p1), .val (.int p2), .val (.int p3), .val (.int p4), .val (.int p5), .val (.int (1 : Int32)), .val (.int v6_114), .val (.int v7_115), .val (.int v8_116), .val (.int v9_117), .val (.ref b118), .val (.int xe125), .unset] []))
        refine own_go (XS.iload Xj127.here hx rfl (hb hby at_129) rfl (Steps.refl _)) ?_
        show own_Fin _ _ _ _ (Tj127.setTop (mkF m 131 #[.val (.int p1), .val (.int p2), .val (.int p3), .val (.int p4), .val (.int p5), .val (.int (1 : Int32)), .val (.int v6_114), .val (.int v7_115), .val (.int v8_116), .val (.int v9_117), .val (.ref b118), .val (.int xe125), .unset] [(.int (1 : Int32))]))
        refine own_go (XS.iconst Xj127.here hx rfl (hb hby at_131) (Steps.refl _)) ?_
        show own_Fin _ _ _ _ (Tj127.setTop (mkF m 132 #[.val (.int p1), .val (.int p2), .val (.int p3), .val (.int p4), .val (.int p5), .val (.int (1 : Int32)), .val (.int v6_114), .val (.int v7_115), .val (.int v8_116), .val (.int v9_117), .val (.ref b118), .val (.int xe125), .unset] [(.int (2 : Int32)), (.int (1 : Int32))]))
        refine own_go (XS.icmpYes Xj127.here hx rfl (pc0 := 132) (pc' := 146) rfl (hb hby at_132) rfl (flt (by decide : ¬ ((2 : Int32) < (1 : Int32)))).2.2.2 (by decide) (by decide) (Steps.refl _)) ?_
        show own_Fin _ _ _ _ (Tj127.setTop (mkF m 146 #[.val (.int p1), .val (.int p2), .val (.int p3), .val (.int p4), .val (.int p5), .val (.int (1 : Int32)), .val (.int v6_114), .val (.int v7_115), .val (.int v8_116), .val (.int v9_117), .val (.ref b118), .val (.int xe125), .unset] []))
        refine own_go (XS.iload Xj127.here hx rfl (hb hby at_146) rfl (Steps.refl _)) ?_
        show own_Fin _ _ _ _ (Tj127.setTop (mkF m 148 #[.val (.int p1), .val (.int p2), .val (.int p3), .val (.int p4), .val (.int p5), .val (.int (1 : Int32)), .val (.int v6_114), .val (.int v7_115), .val (.int v8_116), .val (.int v9_117), .val (.ref b118), .val (.int xe125), .unset] [(.int (1 : Int32))]))
        refine own_go (XS.iconst Xj127.here hx rfl (hb hby at_148) (Steps.refl _)) ?_
        show own_Fin _ _ _ _ (Tj127.setTop (mkF m 149 #[.val (.int p1), .val (.int p2), .val (.int p3), .val (.int p4), .val (.int p5), .val (.int (1 : Int32)), .val (.int v6_114), .val (.int v7_115), .val (.int v8_116), .val (.int v9_117), .val (.ref b118), .val (.int xe125), .unset] [(.int (3 : Int32)), (.int (1 : Int32))]))
        refine own_go (XS.icmpYes Xj127.here hx rfl (pc0 := 149) (pc' := 163) rfl (hb hby at_149) rfl (flt (by decide : ¬ ((3 : Int32) < (1 : Int32)))).2.2.2 (by decide) (by decide) (Steps.refl _)) ?_
        show own_Fin _ _ _ _ (Tj127.setTop (mkF m 163 #[.val (.int p1), .val (.int p2), .val (.int p3), .val (.int p4), .val (.int p5), .val (.int (1 : Int32)), .val (.int v6_114), .val (.int v7_115), .val (.int v8_116), .val (.int v9_117), .val (.ref b118), .val (.int xe125), .unset] []))
        refine own_go (XS.aload Xj127.here hx rfl (hb hby at_163) rfl rfl (Steps.refl _)) ?_
        show own_Fin _ _ _ _ (Tj127.setTop (mkF m 165 #[.val (.int p1), .val (.int p2), .val (.int p3), .val (.int p4), .val (.int p5), .val (.int (1 : Int32)), .val (.int v6_114), .val (.int v7_115), .val (.int v8_116), .val (.int v9_117), .val (.ref b118), .val (.int xe125), .unset] [(.ref b118)]))
        obtain ⟨_, _, ⟨T128, L128, k128, n128⟩, -, X128, ⟨Lc128, hQ128, l128, y128, z128⟩, st128⟩ := Jvm.LawKit.callS Xj127 hx (y := (⟨"com/example/gridtally/gridtally/casefile/FieldText", "isWhole", "([B)Z"⟩ : MethodName)) hown (mvT hZ (hw _ (List.mem_of_getElem? (i := 1) rfl))) (mvT hZ (hw _ (List.mem_of_getElem? (i := 2) rfl))) (mvT hZ (hw _ (List.mem_of_getElem? (i := 3) rfl))) (mvT hZ (hw _ (List.mem_of_getElem? (i := 4) rfl))) (by decide) (backOf (W := 0) (rm1_1 l Z a0 hw [] b118 k118 v6_114 h120 n0 Z120 V_b118_120) hZ (hw _ (List.mem_of_getElem? (i := 4) rfl)) (hw _ (List.mem_of_getElem? (i := 3) rfl)) (by decide) (by decide)) (g := (mkF m 165 #[.val (.int p1), .val (.int p2), .val (.int p3), .val (.int p4), .val (.int p5), .val (.int (1 : Int32)), .val (.int v6_114), .val (.int v7_115), .val (.int v8_116), .val (.int v9_117), .val (.ref b118), .val (.int xe125), .unset] [(.ref b118)])) rfl (by rw [hml]; rfl) (argsL := [(.ref b118)]) (rest := []) (lenOf pd__28__5b_B_29_Z rfl) rfl (by show 2 * 0 + _ ≤ _; exact Nat.le_of_eq rfl) (hb hby at_165) (fun _ _ => ⟨rfl, ej127, (by decide : 1 + 0 ≤ _), (by decide : 1 + 0 ≤ _)⟩)
        dsimp only [Pt.U, Pt.locs, Pt.cells, Pt.slots] at X128 l128 y128 z128 st128 hQ128
        subst l128 y128 z128
        obtain ⟨rfl, Nq128, e128⟩ := hQ128
        refine own_by st128 ?_
        have N128 := Fr.app Nj127 Nq128
        show own_Fin _ _ _ _ (T128.setTop (mkF m 168 #[.val (.int p1), .val (.int p2), .val (.int p3), .val (.int p4), .val (.int p5), .val (.int (1 : Int32)), .val (.int v6_114), .val (.int v7_115), .val (.int v8_116), .val (.int v9_117), .val (.ref b118), .val (.int xe125), .unset] [(.int (if (decide (v6_114 = 34) || own_bad v6_114) then (0 : Int32) else 1))]))
        refine own_go (XS.istore X128.here hx rfl (hb hby at_168) rfl (l' := #[.val (.int p1), .val (.int p2), .val (.int p3), .val (.int p4), .val (.int p5), .val (.int (1 : Int32)), .val (.int v6_114), .val (.int v7_115), .val (.int v8_116), .val (.int v9_117), .val (.ref b118), .val (.int xe125), .val (.int (if (decide (v6_114 = 34) || own_bad v6_114) then (0 : Int32) else 1))]) rfl (Steps.refl _)) ?_
        show own_Fin _ _ _ _ (T128.setTop (mkF m 170 #[.val (.int p1), .val (.int p2), .val (.int p3), .val (.int p4), .val (.int p5), .val (.int (1 : Int32)), .val (.int v6_114), .val (.int v7_115), .val (.int v8_116), .val (.int v9_117), .val (.ref b118), .val (.int xe125), .val (.int (if (decide (v6_114 = 34) || own_bad v6_114) then (0 : Int32) else 1))] []))
        generalize hz_v12_129 : (if (decide (v6_114 = 34) || own_bad v6_114) then (0 : Int32) else 1) = v12_129
        refine own_go (XS.iload X128.here hx rfl (hb hby at_170) rfl (Steps.refl _)) ?_
        show own_Fin _ _ _ _ (T128.setTop (mkF m 172 #[.val (.int p1), .val (.int p2), .val (.int p3), .val (.int p4), .val (.int p5), .val (.int (1 : Int32)), .val (.int v6_114), .val (.int v7_115), .val (.int v8_116), .val (.int v9_117), .val (.ref b118), .val (.int xe125), .val (.int v12_129)] [(.int v12_129)]))
        refine own_go (XS.iload X128.here hx rfl (hb hby at_172) rfl (Steps.refl _)) ?_
        show own_Fin _ _ _ _ (T128.setTop (mkF m 174 #[.val (.int p1), .val (.int p2), .val (.int p3), .val (.int p4), .val (.int p5), .val (.int (1 : Int32)), .val (.int v6_114), .val (.int v7_115), .val (.int v8_116), .val (.int v9_117), .val (.ref b118), .val (.int xe125), .val (.int v12_129)] [(.int xe125), (.int v12_129)]))
        refine own_go (XS.icmpNo X128.here hx rfl (hb hby at_174) rfl (teq (show v12_129 = xe125 from by rw [← hz_v12_129, hj127, hj123]; cases own_bad v6_114 <;>  by_cases q : v6_114 = (34 : Int32) <;> simp [q])).2 (Steps.refl _)) ?_
        show own_Fin _ _ _ _ (T128.setTop (mkF m 177 #[.val (.int p1), .val (.int p2), .val (.int p3), .val (.int p4), .val (.int p5), .val (.int (1 : Int32)), .val (.int v6_114), .val (.int v7_115), .val (.int v8_116), .val (.int v9_117), .val (.ref b118), .val (.int xe125), .val (.int v12_129)] []))
        refine own_go (XS.iconst X128.here hx rfl (hb hby at_177) (Steps.refl _)) ?_
        show own_Fin _ _ _ _ (T128.setTop (mkF m 178 #[.val (.int p1), .val (.int p2), .val (.int p3), .val (.int p4), .val (.int p5), .val (.int (1 : Int32)), .val (.int v6_114), .val (.int v7_115), .val (.int v8_116), .val (.int v9_117), .val (.ref b118), .val (.int xe125), .val (.int v12_129)] [(.int (1 : Int32))]))
        refine own_go (XS.goto X128.here hx rfl (pc0 := 178) (pc' := 182) rfl (hb hby at_178) (by decide) (by decide) (Steps.refl _)) ?_
        show own_Fin _ _ _ _ (T128.setTop (mkF m 182 #[.val (.int p1), .val (.int p2), .val (.int p3), .val (.int p4), .val (.int p5), .val (.int (1 : Int32)), .val (.int v6_114), .val (.int v7_115), .val (.int v8_116), .val (.int v9_117), .val (.ref b118), .val (.int xe125), .val (.int v12_129)] [(.int (1 : Int32))]))
        obtain ⟨fs130, hr130, hrun130, hended130, hW130, hsame130⟩ := X128.leave (v := some (.int (1 : Int32))) (fun h => by rw [Bd.returns] at h; cases h)
        refine own_done (retN X128 hx (t := .boolean) Bd.returns (by simp) (hb hby at_182) hr130) hrun130 hended130 ⟨_, _, rfl, ?_, ⟨_, rfl⟩, hW130, hsame130.mono (by decide) (by decide)⟩
        show Q0 Z p1 p2 p3 p4 p5 h0 n0 _ T128.heap _
        rw [e128]
        exact ⟨rfl, N128⟩
      by_cases c126 : own_bad v6_114 = true
      · refine own_go (XS.ifNo X124.here hx rfl (hb hby at_106) rfl ((if0 _ _).trans (feq (show ¬ ((if own_bad v6_114 then (1 : Int32) else 0) = (0 : Int32)) from by simp [c126])).1) (Steps.refl _)) ?_
        show own_Fin _ _ _ _ (T124.setTop (mkF m 109 #[.val (.int p1), .val (.int p2), .val (.int p3), .val (.int p4), .val (.int p5), .val (.int (1 : Int32)), .val (.int v6_114), .val (.int v7_115), .val (.int v8_116), .val (.int v9_117), .val (.ref b118), .val (.int xe121), .unset] []))
        refine own_go (XS.iconst X124.here hx rfl (hb hby at_109) (Steps.refl _)) ?_
        show own_Fin _ _ _ _ (T124.setTop (mkF m 110 #[.val (.int p1), .val (.int p2), .val (.int p3), .val (.int p4), .val (.int p5), .val (.int (1 : Int32)), .val (.int v6_114), .val (.int v7_115), .val (.int v8_116), .val (.int v9_117), .val (.ref b118), .val (.int xe121), .unset] [(.int (0 : Int32))]))
        refine own_go (XS.istore X124.here hx rfl (hb hby at_110) rfl (l' := #[.val (.int p1), .val (.int p2), .val (.int p3), .val (.int p4), .val (.int p5), .val (.int (1 : Int32)), .val (.int v6_114), .val (.int v7_115), .val (.int v8_116), .val (.int v9_117), .val (.ref b118), .val (.int (0 : Int32)), .unset]) rfl (Steps.refl _)) ?_
        show own_Fin _ _ _ _ (T124.setTop (mkF m 112 #[.val (.int p1), .val (.int p2), .val (.int p3), .val (.int p4), .val (.int p5), .val (.int (1 : Int32)), .val (.int v6_114), .val (.int v7_115), .val (.int v8_116), .val (.int v9_117), .val (.ref b118), .val (.int (0 : Int32)), .unset] []))
        exact jn127 T124 _ (0 : Int32) X124 e124 N124 (by simp [c126])
      · refine own_go (XS.ifYes X124.here hx rfl (pc0 := 106) (pc' := 112) rfl (hb hby at_106) rfl ((if0 _ _).trans (teq (show (if own_bad v6_114 then (1 : Int32) else 0) = (0 : Int32) from by simp [c126])).1) (by decide) (by decide) (Steps.refl _)) ?_
        show own_Fin _ _ _ _ (T124.setTop (mkF m 112 #[.val (.int p1), .val (.int p2), .val (.int p3), .val (.int p4), .val (.int p5), .val (.int (1 : Int32)), .val (.int v6_114), .val (.int v7_115), .val (.int v8_116), .val (.int v9_117), .val (.ref b118), .val (.int xe121), .unset] []))
        exact jn127 T124 _ xe121 X124 e124 N124 (by simp [c126])
    by_cases c122 : v6_114 = (34 : Int32)
    · refine own_go (XS.icmpNo X120.here hx rfl (hb hby at_90) rfl (teq c122).2 (Steps.refl _)) ?_
      show own_Fin _ _ _ _ (T120.setTop (mkF m 93 #[.val (.int p1), .val (.int p2), .val (.int p3), .val (.int p4), .val (.int p5), .val (.int (1 : Int32)), .val (.int v6_114), .val (.int v7_115), .val (.int v8_116), .val (.int v9_117), .val (.ref b118), .val (.int (1 : Int32)), .unset] []))
      refine own_go (XS.iconst X120.here hx rfl (hb hby at_93) (Steps.refl _)) ?_
      show own_Fin _ _ _ _ (T120.setTop (mkF m 94 #[.val (.int p1), .val (.int p2), .val (.int p3), .val (.int p4), .val (.int p5), .val (.int (1 : Int32)), .val (.int v6_114), .val (.int v7_115), .val (.int v8_116), .val (.int v9_117), .val (.ref b118), .val (.int (1 : Int32)), .unset] [(.int (0 : Int32))]))
      refine own_go (XS.istore X120.here hx rfl (hb hby at_94) rfl (l' := #[.val (.int p1), .val (.int p2), .val (.int p3), .val (.int p4), .val (.int p5), .val (.int (1 : Int32)), .val (.int v6_114), .val (.int v7_115), .val (.int v8_116), .val (.int v9_117), .val (.ref b118), .val (.int (0 : Int32)), .unset]) rfl (Steps.refl _)) ?_
      show own_Fin _ _ _ _ (T120.setTop (mkF m 96 #[.val (.int p1), .val (.int p2), .val (.int p3), .val (.int p4), .val (.int p5), .val (.int (1 : Int32)), .val (.int v6_114), .val (.int v7_115), .val (.int v8_116), .val (.int v9_117), .val (.ref b118), .val (.int (0 : Int32)), .unset] []))
      exact jn123 T120 _ (0 : Int32) X120 e120 N120 (by simp [c122])
    · refine own_go (XS.icmpYes X120.here hx rfl (pc0 := 90) (pc' := 96) rfl (hb hby at_90) rfl (feq c122).2 (by decide) (by decide) (Steps.refl _)) ?_
      show own_Fin _ _ _ _ (T120.setTop (mkF m 96 #[.val (.int p1), .val (.int p2), .val (.int p3), .val (.int p4), .val (.int p5), .val (.int (1 : Int32)), .val (.int v6_114), .val (.int v7_115), .val (.int v8_116), .val (.int v9_117), .val (.ref b118), .val (.int (1 : Int32)), .unset] []))
      exact jn123 T120 _ (1 : Int32) X120 e120 N120 (by simp [c122])
  · show own_Fin _ _ _ _ (s₁.setTop (mkF m 8 #[.val (.int p1), .val (.int p2), .val (.int p3), .val (.int p4), .val (.int p5), .val (.int (2 : Int32)), .unset, .unset, .unset, .unset, .unset, .unset, .unset] []))
    refine own_go (XS.iloadN X0.here hx rfl (hb hby at_8) rfl (Steps.refl _)) ?_
    show own_Fin _ _ _ _ (s₁.setTop (mkF m 9 #[.val (.int p1), .val (.int p2), .val (.int p3), .val (.int p4), .val (.int p5), .val (.int (2 : Int32)), .unset, .unset, .unset, .unset, .unset, .unset, .unset] [(.int p2)]))
    refine own_go (XS.i2b X0.here hx rfl (hb hby at_9) rfl (Steps.refl _)) ?_
    show own_Fin _ _ _ _ (s₁.setTop (mkF m 10 #[.val (.int p1), .val (.int p2), .val (.int p3), .val (.int p4), .val (.int p5), .val (.int (2 : Int32)), .unset, .unset, .unset, .unset, .unset, .unset, .unset] [(.int (p2.toInt8.toInt32))]))
    refine own_go (XS.istore X0.here hx rfl (hb hby at_10) rfl (l' := #[.val (.int p1), .val (.int p2), .val (.int p3), .val (.int p4), .val (.int p5), .val (.int (2 : Int32)), .val (.int (p2.toInt8.toInt32)), .unset, .unset, .unset, .unset, .unset, .unset]) rfl (Steps.refl _)) ?_
    show own_Fin _ _ _ _ (s₁.setTop (mkF m 12 #[.val (.int p1), .val (.int p2), .val (.int p3), .val (.int p4), .val (.int p5), .val (.int (2 : Int32)), .val (.int (p2.toInt8.toInt32)), .unset, .unset, .unset, .unset, .unset, .unset] []))
    generalize hz_v6_131 : (p2.toInt8.toInt32) = v6_131
    refine own_go (XS.iloadN X0.here hx rfl (hb hby at_12) rfl (Steps.refl _)) ?_
    show own_Fin _ _ _ _ (s₁.setTop (mkF m 13 #[.val (.int p1), .val (.int p2), .val (.int p3), .val (.int p4), .val (.int p5), .val (.int (2 : Int32)), .val (.int v6_131), .unset, .unset, .unset, .unset, .unset, .unset] [(.int p3)]))
    refine own_go (XS.i2b X0.here hx rfl (hb hby at_13) rfl (Steps.refl _)) ?_
    show own_Fin _ _ _ _ (s₁.setTop (mkF m 14 #[.val (.int p1), .val (.int p2), .val (.int p3), .val (.int p4), .val (.int p5), .val (.int (2 : Int32)), .val (.int v6_131), .unset, .unset, .unset, .unset, .unset, .unset] [(.int (p3.toInt8.toInt32))]))
    refine own_go (XS.istore X0.here hx rfl (hb hby at_14) rfl (l' := #[.val (.int p1), .val (.int p2), .val (.int p3), .val (.int p4), .val (.int p5), .val (.int (2 : Int32)), .val (.int v6_131), .val (.int (p3.toInt8.toInt32)), .unset, .unset, .unset, .unset, .unset]) rfl (Steps.refl _)) ?_
    show own_Fin _ _ _ _ (s₁.setTop (mkF m 16 #[.val (.int p1), .val (.int p2), .val (.int p3), .val (.int p4), .val (.int p5), .val (.int (2 : Int32)), .val (.int v6_131), .val (.int (p3.toInt8.toInt32)), .unset, .unset, .unset, .unset, .unset] []))
    generalize hz_v7_132 : (p3.toInt8.toInt32) = v7_132
    refine own_go (XS.iloadN X0.here hx rfl (hb hby at_16) rfl (Steps.refl _)) ?_
    show own_Fin _ _ _ _ (s₁.setTop (mkF m 17 #[.val (.int p1), .val (.int p2), .val (.int p3), .val (.int p4), .val (.int p5), .val (.int (2 : Int32)), .val (.int v6_131), .val (.int v7_132), .unset, .unset, .unset, .unset, .unset] [(.int p4)]))
    refine own_go (XS.i2b X0.here hx rfl (hb hby at_17) rfl (Steps.refl _)) ?_
    show own_Fin _ _ _ _ (s₁.setTop (mkF m 18 #[.val (.int p1), .val (.int p2), .val (.int p3), .val (.int p4), .val (.int p5), .val (.int (2 : Int32)), .val (.int v6_131), .val (.int v7_132), .unset, .unset, .unset, .unset, .unset] [(.int (p4.toInt8.toInt32))]))
    refine own_go (XS.istore X0.here hx rfl (hb hby at_18) rfl (l' := #[.val (.int p1), .val (.int p2), .val (.int p3), .val (.int p4), .val (.int p5), .val (.int (2 : Int32)), .val (.int v6_131), .val (.int v7_132), .val (.int (p4.toInt8.toInt32)), .unset, .unset, .unset, .unset]) rfl (Steps.refl _)) ?_
    show own_Fin _ _ _ _ (s₁.setTop (mkF m 20 #[.val (.int p1), .val (.int p2), .val (.int p3), .val (.int p4), .val (.int p5), .val (.int (2 : Int32)), .val (.int v6_131), .val (.int v7_132), .val (.int (p4.toInt8.toInt32)), .unset, .unset, .unset, .unset] []))
    generalize hz_v8_133 : (p4.toInt8.toInt32) = v8_133
    refine own_go (XS.iload X0.here hx rfl (hb hby at_20) rfl (Steps.refl _)) ?_
    show own_Fin _ _ _ _ (s₁.setTop (mkF m 22 #[.val (.int p1), .val (.int p2), .val (.int p3), .val (.int p4), .val (.int p5), .val (.int (2 : Int32)), .val (.int v6_131), .val (.int v7_132), .val (.int v8_133), .unset, .unset, .unset, .unset] [(.int p5)]))
    refine own_go (XS.i2b X0.here hx rfl (hb hby at_22) rfl (Steps.refl _)) ?_
    show own_Fin _ _ _ _ (s₁.setTop (mkF m 23 #[.val (.int p1), .val (.int p2), .val (.int p3), .val (.int p4), .val (.int p5), .val (.int (2 : Int32)), .val (.int v6_131), .val (.int v7_132), .val (.int v8_133), .unset, .unset, .unset, .unset] [(.int (p5.toInt8.toInt32))]))
    refine own_go (XS.istore X0.here hx rfl (hb hby at_23) rfl (l' := #[.val (.int p1), .val (.int p2), .val (.int p3), .val (.int p4), .val (.int p5), .val (.int (2 : Int32)), .val (.int v6_131), .val (.int v7_132), .val (.int v8_133), .val (.int (p5.toInt8.toInt32)), .unset, .unset, .unset]) rfl (Steps.refl _)) ?_
    show own_Fin _ _ _ _ (s₁.setTop (mkF m 25 #[.val (.int p1), .val (.int p2), .val (.int p3), .val (.int p4), .val (.int p5), .val (.int (2 : Int32)), .val (.int v6_131), .val (.int v7_132), .val (.int v8_133), .val (.int (p5.toInt8.toInt32)), .unset, .unset, .unset] []))
    generalize hz_v9_134 : (p5.toInt8.toInt32) = v9_134
    refine own_go (XS.iload X0.here hx rfl (hb hby at_25) rfl (Steps.refl _)) ?_
    show own_Fin _ _ _ _ (s₁.setTop (mkF m 27 #[.val (.int p1), .val (.int p2), .val (.int p3), .val (.int p4), .val (.int p5), .val (.int (2 : Int32)), .val (.int v6_131), .val (.int v7_132), .val (.int v8_133), .val (.int v9_134), .unset, .unset, .unset] [(.int (2 : Int32))]))
    obtain ⟨T135, h135, k135, X135, e135, E135, A135, st135⟩ := newP X0 hx hZ (hw _ (List.mem_of_getElem? (i := 0) rfl)) e0 (g := (mkF m 27 #[.val (.int p1), .val (.int p2), .val (.int p3), .val (.int p4), .val (.int p5), .val (.int (2 : Int32)), .val (.int v6_131), .val (.int v7_132), .val (.int v8_133), .val (.int v9_134), .unset, .unset, .unset] [(.int (2 : Int32))])) rfl (hb hby at_27) rfl (by decide) (cap := 2) (by decide) (by decide) (by decide) (by decide)
    obtain ⟨b135, g135⟩ : ∃ z, z = h0.size := ⟨_, rfl⟩
    rw [← g135] at A135 st135
    refine own_by st135 ?_
    have g_b135 : n0 ≤ b135 := Nat.le_trans Z0 (Nat.le_of_eq g135.symm)
    have Z135 : n0 ≤ h135.size := Nat.le_trans Z0 E135.1
    have V_b135 : Arv Z h135 b135 k135 .byte (2 : Int32) [(.int (0 : Int32)), (.int (0 : Int32))] (.int (0 : Int32)) := (Arv.new A135 (by decide)).pad (pad_rep [] (.int (0 : Int32)) 2)
    show own_Fin _ _ _ _ (T135.setTop (mkF m 29 #[.val (.int p1), .val (.int p2), .val (.int p3), .val (.int p4), .val (.int p5), .val (.int (2 : Int32)), .val (.int v6_131), .val (.int v7_132), .val (.int v8_133), .val (.int v9_134), .unset, .unset, .unset] [(.ref b135)]))
    refine own_go (XS.astore X135.here hx rfl (hb hby at_29) rfl rfl (l' := #[.val (.int p1), .val (.int p2), .val (.int p3), .val (.int p4), .val (.int p5), .val (.int (2 : Int32)), .val (.int v6_131), .val (.int v7_132), .val (.int v8_133), .val (.int v9_134), .val (.ref b135), .unset, .unset]) rfl (Steps.refl _)) ?_
    show own_Fin _ _ _ _ (T135.setTop (mkF m 31 #[.val (.int p1), .val (.int p2), .val (.int p3), .val (.int p4), .val (.int p5), .val (.int (2 : Int32)), .val (.int v6_131), .val (.int v7_132), .val (.int v8_133), .val (.int v9_134), .val (.ref b135), .unset, .unset] []))
    refine own_go (XS.iload X135.here hx rfl (hb hby at_31) rfl (Steps.refl _)) ?_
    show own_Fin _ _ _ _ (T135.setTop (mkF m 33 #[.val (.int p1), .val (.int p2), .val (.int p3), .val (.int p4), .val (.int p5), .val (.int (2 : Int32)), .val (.int v6_131), .val (.int v7_132), .val (.int v8_133), .val (.int v9_134), .val (.ref b135), .unset, .unset] [(.int (2 : Int32))]))
    refine own_go (XS.ifNo X135.here hx rfl (hb hby at_33) rfl ((if0 _ _).trans (tlt (by decide : (0 : Int32) < (2 : Int32))).2.2.2) (Steps.refl _)) ?_
    show own_Fin _ _ _ _ (T135.setTop (mkF m 36 #[.val (.int p1), .val (.int p2), .val (.int p3), .val (.int p4), .val (.int p5), .val (.int (2 : Int32)), .val (.int v6_131), .val (.int v7_132), .val (.int v8_133), .val (.int v9_134), .val (.ref b135), .unset, .unset] []))
    refine own_go (XS.aload X135.here hx rfl (hb hby at_36) rfl rfl (Steps.refl _)) ?_
    show own_Fin _ _ _ _ (T135.setTop (mkF m 38 #[.val (.int p1), .val (.int p2), .val (.int p3), .val (.int p4), .val (.int p5), .val (.int (2 : Int32)), .val (.int v6_131), .val (.int v7_132), .val (.int v8_133), .val (.int v9_134), .val (.ref b135), .unset, .unset] [(.ref b135)]))
    refine own_go (XS.iconst X135.here hx rfl (hb hby at_38) (Steps.refl _)) ?_
    show own_Fin _ _ _ _ (T135.setTop (mkF m 39 #[.val (.int p1), .val (.int p2), .val (.int p3), .val (.int p4), .val (.int p5), .val (.int (2 : Int32)), .val (.int v6_131), .val (.int v7_132), .val (.int v8_133), .val (.int v9_134), .val (.ref b135), .unset, .unset] [(.int (0 : Int32)), (.ref b135)]))
    refine own_go (XS.iload X135.here hx rfl (hb hby at_39) rfl (Steps.refl _)) ?_
    show own_Fin _ _ _ _ (T135.setTop (mkF m 41 #[.val (.int p1), .val (.int p2), .val (.int p3), .val (.int p4), .val (.int p5), .val (.int (2 : Int32)), .val (.int v6_131), .val (.int v7_132), .val (.int v8_133), .val (.int v9_134), .val (.ref b135), .unset, .unset] [(.int v6_131), (.int (0 : Int32)), (.ref b135)]))
    obtain ⟨cl136, Ar136, qa136, Sa136, Na136, Ha136, Ga136⟩ := id V_b135
    have hin136 : ¬ ((0 : Int32) < 0 ∨ cl136.slots.size ≤ ((0 : Int32)).toNatClampNeg) := inb_of Sa136 ⟨by decide, by decide⟩
    obtain ⟨T137, h137, X137, e137, W137, st137⟩ := stB X135 hx hZ e135 Ar136 (j := (0 : Int32)) hin136 (g := (mkF m 41 #[.val (.int p1), .val (.int p2), .val (.int p3), .val (.int p4), .val (.int p5), .val (.int (2 : Int32)), .val (.int v6_131), .val (.int v7_132), .val (.int v8_133), .val (.int v9_134), .val (.ref b135), .unset, .unset] [(.int v6_131), (.int (0 : Int32)), (.ref b135)])) rfl rfl (hb hby at_41)
    refine own_by st137 ?_
    have hnr137 : nar .byte v6_131 = v6_131 := by rw [← hz_v6_131]; exact own_nb _
    rw [hnr137] at W137
    have V_b135_137 : Arv Z h137 b135 k135 .byte (2 : Int32) [(.int v6_131), (.int (0 : Int32))] (.int (0 : Int32)) := Arv.set Ar136 qa136 Sa136 Na136 Ha136 Ga136 (hnr137 ▸ fits_nar_byte v6_131) W137 0 rfl (Nat.le_of_ble_eq_true rfl)
    have N137 := Fr.snoc X137 N0 g_b135
    have Z137 : n0 ≤ h137.size := Nat.le_trans Z135 (Keep.of_wr W137).1
    show own_Fin _ _ _ _ (T137.setTop (mkF m 42 #[.val (.int p1), .val (.int p2), .val (.int p3), .val (.int p4), .val (.int p5), .val (.int (2 : Int32)), .val (.int v6_131), .val (.int v7_132), .val (.int v8_133), .val (.int v9_134), .val (.ref b135), .unset, .unset] []))
    refine own_go (XS.iload X137.here hx rfl (hb hby at_42) rfl (Steps.refl _)) ?_
    show own_Fin _ _ _ _ (T137.setTop (mkF m 44 #[.val (.int p1), .val (.int p2), .val (.int p3), .val (.int p4), .val (.int p5), .val (.int (2 : Int32)), .val (.int v6_131), .val (.int v7_132), .val (.int v8_133), .val (.int v9_134), .val (.ref b135), .unset, .unset] [(.int (2 : Int32))]))
    refine own_go (XS.iconst X137.here hx rfl (hb hby at_44) (Steps.refl _)) ?_
    show own_Fin _ _ _ _ (T137.setTop (mkF m 45 #[.val (.int p1), .val (.int p2), .val (.int p3), .val (.int p4), .val (.int p5), .val (.int (2 : Int32)), .val (.int v6_131), .val (.int v7_132), .val (.int v8_133), .val (.int v9_134), .val (.ref b135), .unset, .unset] [(.int (1 : Int32)), (.int (2 : Int32))]))
    refine own_go (XS.icmpNo X137.here hx rfl (hb hby at_45) rfl (tlt (by decide : (1 : Int32) < (2 : Int32))).2.2.2 (Steps.refl _)) ?_
    show own_Fin _ _ _ _ (T137.setTop (mkF m 48 #[.val (.int p1), .val (.int p2), .val (.int p3), .val (.int p4), .val (.int p5), .val (.int (2 : Int32)), .val (.int v6_131), .val (.int v7_132), .val (.int v8_133), .val (.int v9_134), .val (.ref b135), .unset, .unset] []))
    refine own_go (XS.aload X137.here hx rfl (hb hby at_48) rfl rfl (Steps.refl _)) ?_
    show own_Fin _ _ _ _ (T137.setTop (mkF m 50 #[.val (.int p1), .val (.int p2), .val (.int p3), .val (.int p4), .val (.int p5), .val (.int (2 : Int32)), .val (.int v6_131), .val (.int v7_132), .val (.int v8_133), .val (.int v9_134), .val (.ref b135), .unset, .unset] [(.ref b135)]))
    refine own_go (XS.iconst X137.here hx rfl (hb hby at_50) (Steps.refl _)) ?_
    show own_Fin _ _ _ _ (T137.setTop (mkF m 51 #[.val (.int p1), .val (.int p2), .val (.int p3), .val (.int p4), .val (.int p5), .val (.int (2 : Int32)), .val (.int v6_131), .val (.int v7_132), .val (.int v8_133), .val (.int v9_134), .val (.ref b135), .unset, .unset] [(.int (1 : Int32)), (.ref b135)]))
    refine own_go (XS.iload X137.here hx rfl (hb hby at_51) rfl (Steps.refl _)) ?_
    show own_Fin _ _ _ _ (T137.setTop (mkF m 53 #[.val (.int p1), .val (.int p2), .val (.int p3), .val (.int p4), .val (.int p5), .val (.int (2 : Int32)), .val (.int v6_131), .val (.int v7_132), .val (.int v8_133), .val (.int v9_134), .val (.ref b135), .unset, .unset] [(.int v7_132), (.int (1 : Int32)), (.ref b135)]))
    obtain ⟨cl138, Ar138, qa138, Sa138, Na138, Ha138, Ga138⟩ := id V_b135_137
    have hin138 : ¬ ((1 : Int32) < 0 ∨ cl138.slots.size ≤ ((1 : Int32)).toNatClampNeg) := inb_of Sa138 ⟨by decide, by decide⟩
    obtain ⟨T139, h139, X139, e139, W139, st139⟩ := stB X137 hx hZ e137 Ar138 (j := (1 : Int32)) hin138 (g := (mkF m 53 #[.val (.int p1), .val (.int p2), .val (.int p3), .val (.int p4), .val (.int p5), .val (.int (2 : Int32)), .val (.int v6_131), .val (.int v7_132), .val (.int v8_133), .val (.int v9_134), .val (.ref b135), .unset, .unset] [(.int v7_132), (.int (1 : Int32)), (.ref b135)])) rfl rfl (hb hby at_53)
    refine own_by st139 ?_
    have hnr139 : nar .byte v7_132 = v7_132 := by rw [← hz_v7_132]; exact own_nb _
    rw [hnr139] at W139
    have V_b135_139 : Arv Z h139 b135 k135 .byte (2 : Int32) [(.int v6_131), (.int v7_132)] (.int (0 : Int32)) := Arv.set Ar138 qa138 Sa138 Na138 Ha138 Ga138 (hnr139 ▸ fits_nar_byte v7_132) W139 1 rfl (Nat.le_of_ble_eq_true rfl)
    have N139 := Fr.snoc X139 N137 g_b135
    have Z139 : n0 ≤ h139.size := Nat.le_trans Z137 (Keep.of_wr W139).1
    show own_Fin _ _ _ _ (T139.setTop (mkF m 54 #[.val (.int p1), .val (.int p2), .val (.int p3), .val (.int p4), .val (.int p5), .val (.int (2 : Int32)), .val (.int v6_131), .val (.int v7_132), .val (.int v8_133), .val (.int v9_134), .val (.ref b135), .unset, .unset] []))
    refine own_go (XS.iload X139.here hx rfl (hb hby at_54) rfl (Steps.refl _)) ?_
    show own_Fin _ _ _ _ (T139.setTop (mkF m 56 #[.val (.int p1), .val (.int p2), .val (.int p3), .val (.int p4), .val (.int p5), .val (.int (2 : Int32)), .val (.int v6_131), .val (.int v7_132), .val (.int v8_133), .val (.int v9_134), .val (.ref b135), .unset, .unset] [(.int (2 : Int32))]))
    refine own_go (XS.iconst X139.here hx rfl (hb hby at_56) (Steps.refl _)) ?_
    show own_Fin _ _ _ _ (T139.setTop (mkF m 57 #[.val (.int p1), .val (.int p2), .val (.int p3), .val (.int p4), .val (.int p5), .val (.int (2 : Int32)), .val (.int v6_131), .val (.int v7_132), .val (.int v8_133), .val (.int v9_134), .val (.ref b135), .unset, .unset] [(.int (2 : Int32)), (.int (2 : Int32))]))
    refine own_go (XS.icmpYes X139.here hx rfl (pc0 := 57) (pc' := 66) rfl (hb hby at_57) rfl (flt (by decide : ¬ ((2 : Int32) < (2 : Int32)))).2.2.2 (by decide) (by decide) (Steps.refl _)) ?_
    show own_Fin _ _ _ _ (T139.setTop (mkF m 66 #[.val (.int p1), .val (.int p2), .val (.int p3), .val (.int p4), .val (.int p5), .val (.int (2 : Int32)), .val (.int v6_131), .val (.int v7_132), .val (.int v8_133), .val (.int v9_134), .val (.ref b135), .unset, .unset] []))
    refine own_go (XS.iload X139.here hx rfl (hb hby at_66) rfl (Steps.refl _)) ?_
    show own_Fin _ _ _ _ (T139.setTop (mkF m 68 #[.val (.int p1), .val (.int p2), .val (.int p3), .val (.int p4), .val (.int p5), .val (.int (2 : Int32)), .val (.int v6_131), .val (.int v7_132), .val (.int v8_133), .val (.int v9_134), .val (.ref b135), .unset, .unset] [(.int (2 : Int32))]))
    refine own_go (XS.iconst X139.here hx rfl (hb hby at_68) (Steps.refl _)) ?_
    show own_Fin _ _ _ _ (T139.setTop (mkF m 69 #[.val (.int p1), .val (.int p2), .val (.int p3), .val (.int p4), .val (.int p5), .val (.int (2 : Int32)), .val (.int v6_131), .val (.int v7_132), .val (.int v8_133), .val (.int v9_134), .val (.ref b135), .unset, .unset] [(.int (3 : Int32)), (.int (2 : Int32))]))
    refine own_go (XS.icmpYes X139.here hx rfl (pc0 := 69) (pc' := 78) rfl (hb hby at_69) rfl (flt (by decide : ¬ ((3 : Int32) < (2 : Int32)))).2.2.2 (by decide) (by decide) (Steps.refl _)) ?_
    show own_Fin _ _ _ _ (T139.setTop (mkF m 78 #[.val (.int p1), .val (.int p2), .val (.int p3), .val (.int p4), .val (.int p5), .val (.int (2 : Int32)), .val (.int v6_131), .val (.int v7_132), .val (.int v8_133), .val (.int v9_134), .val (.ref b135), .unset, .unset] []))
    refine own_go (XS.iconst X139.here hx rfl (hb hby at_78) (Steps.refl _)) ?_
    show own_Fin _ _ _ _ (T139.setTop (mkF m 79 #[.val (.int p1), .val (.int p2), .val (.int p3), .val (.int p4), .val (.int p5), .val (.int (2 : Int32)), .val (.int v6_131), .val (.int v7_132), .val (.int v8_133), .val (.int v9_134), .val (.ref b135), .unset, .unset] [(.int (1 : Int32))]))
    refine own_go (XS.istore X139.here hx rfl (hb hby at_79) rfl (l' := #[.val (.int p1), .val (.int p2), .val (.int p3), .val (.int p4), .val (.int p5), .val (.int (2 : Int32)), .val (.int v6_131), .val (.int v7_132), .val (.int v8_133), .val (.int v9_134), .val (.ref b135), .val (.int (1 : Int32)), .unset]) rfl (Steps.refl _)) ?_
    show own_Fin _ _ _ _ (T139.setTop (mkF m 81 #[.val (.int p1), .val (.int p2), .val (.int p3), .val (.int p4), .val (.int p5), .val (.int (2 : Int32)), .val (.int v6_131), .val (.int v7_132), .val (.int v8_133), .val (.int v9_134), .val (.ref b135), .val (.int (1 : Int32)), .unset] []))
    refine own_go (XS.iload X139.here hx rfl (hb hby at_81) rfl (Steps.refl _)) ?_
    show own_Fin _ _ _ _ (T139.setTop (mkF m 83 #[.val (.int p1), .val (.int p2), .val (.int p3), .val (.int p4), .val (.int p5), .val (.int (2 : Int32)), .val (.int v6_131), .val (.int v7_132), .val (.int v8_133), .val (.int v9_134), .val (.ref b135), .val (.int (1 : Int32)), .unset] [(.int (2 : Int32))]))
    refine own_go (XS.ifNo X139.here hx rfl (hb hby at_83) rfl ((if0 _ _).trans (tlt (by decide : (0 : Int32) < (2 : Int32))).2.2.2) (Steps.refl _)) ?_
    show own_Fin _ _ _ _ (T139.setTop (mkF m 86 #[.val (.int p1), .val (.int p2), .val (.int p3), .val (.int p4), .val (.int p5), .val (.int (2 : Int32)), .val (.int v6_131), .val (.int v7_132), .val (.int v8_133), .val (.int v9_134), .val (.ref b135), .val (.int (1 : Int32)), .unset] []))
    refine own_go (XS.iload X139.here hx rfl (hb hby at_86) rfl (Steps.refl _)) ?_
    show own_Fin _ _ _ _ (T139.setTop (mkF m 88 #[.val (.int p1), .val (.int p2), .val (.int p3), .val (.int p4), .val (.int p5), .val (.int (2 : Int32)), .val (.int v6_131), .val (.int v7_132), .val (.int v8_133), .val (.int v9_134), .val (.ref b135), .val (.int (1 : Int32)), .unset] [(.int v6_131)]))
    refine own_go (XS.bipush X139.here hx rfl (hb hby at_88) (Steps.refl _)) ?_
    show own_Fin _ _ _ _ (T139.setTop (mkF m 90 #[.val (.int p1), .val (.int p2), .val (.int p3), .val (.int p4), .val (.int p5), .val (.int (2 : Int32)), .val (.int v6_131), .val (.int v7_132), .val (.int v8_133), .val (.int v9_134), .val (.ref b135), .val (.int (1 : Int32)), .unset] [(.int (34 : Int32)), (.int v6_131)]))
    have jn142 : ∀ (Tj142 : State) (Lj142 : List Loc) (xe140 : Int32), Stand p l e room_1 s m #[(.int p1), (.int p2), (.int p3), (.int p4), (.int p5)] below meth c Tj142 Lj142 1 2 → Tj142.heap = h139 → Fr n0 Lj142 → (xe140 = (if v6_131 = (34 : Int32) then (0 : Int32) else (1 : Int32))) → own_Fin p e below (G0 Z p1 p2 p3 p4 p5 h0 n0 s) (Tj142.setTop (mkF m 96 #[.val (.int p1), .val (.int p2), .val (.int p3), .val (.int p4), .val (.int p5), .val (.int (2 : Int32)), .val (.int v6_131), .val (.int v7_132), .val (.int v8_133), .val (.int v9_134), .val (.ref b135), .val (.int xe140), .unset] [])) := by
      intro Tj142 Lj142 xe140 Xj142 ej142 Nj142 hj142
      refine own_go (XS.iload Xj142.here hx rfl (hb hby at_96) rfl (Steps.refl _)) ?_
      show own_Fin _ _ _ _ (Tj142.setTop (mkF m 98 #[.val (.int p1), .val (.int p2), .val (.int p3), .val (.int p4), .val (.int p5), .val (.int (2 : Int32)), .val (.int v6_131), .val (.int v7_132), .val (.int v8_133), .val (.int v9_134), .val (.ref b135), .val (.int xe140), .unset] [(.int (2 : Int32))]))
      refine own_go (XS.ifNo Xj142.here hx rfl (hb hby at_98) rfl ((if0 _ _).trans (tlt (by decide : (0 : Int32) < (2 : Int32))).2.2.2) (Steps.refl _)) ?_
      show own_Fin _ _ _ _ (Tj142.setTop (mkF m 101 #[.val (.int p1), .val (.int p2), .val (.int p3), .val (.int p4), .val (.int p5), .val (.int (2 : Int32)), .val (.int v6_131), .val (.int v7_132), .val (.int v8_133), .val (.int v9_134), .val (.ref b135), .val (.int xe140), .unset] []))
      refine own_go (XS.iload Xj142.here hx rfl (hb hby at_101) rfl (Steps.refl _)) ?_
      show own_Fin _ _ _ _ (Tj142.setTop (mkF m 103 #[.val (.int p1), .val (.int p2), .val (.int p3), .val (.int p4), .val (.int p5), .val (.int (2 : Int32)), .val (.int v6_131), .val (.int v7_132), .val (.int v8_133), .val (.int v9_134), .val (.ref b135), .val (.int xe140), .unset] [(.int v6_131)]))
      obtain ⟨_, _, ⟨T143, L143, k143, n143⟩, -, X143, ⟨Lc143, hQ143, l143, y143, z143⟩, st143⟩ := Jvm.LawKit.callS Xj142 hx (y := (⟨"com/example/gridtally/gridtally/casefile/FieldTextIsWholePinLaw", "bad", "(B)Z"⟩ : MethodName)) hown (mvT hZ (hw _ (List.mem_of_getElem? (i := 5) rfl))) (mvT hZ (hw _ (List.mem_of_getElem? (i := 6) rfl))) (mvT hZ (hw _ (List.mem_of_getElem? (i := 7) rfl))) (mvT hZ (hw _ (List.mem_of_getElem? (i := 8) rfl))) (by decide) (backOf (W := 0) (rm2 l Z a0 hw [] v6_131 h139 n0 Z139) hZ (hw _ (List.mem_of_getElem? (i := 8) rfl)) (hw _ (List.mem_of_getElem? (i := 7) rfl)) (by decide) (by decide)) (g := (mkF m 103 #[.val (.int p1), .val (.int p2), .val (.int p3), .val (.int p4), .val (.int p5), .val (.int (2 : Int32)), .val (.int v6_131), .val (.int v7_132), .val (.int v8_133), .val (.int v9_134), .val (.ref b135), .val (.int xe140), .unset] [(.int v6_131)])) rfl (by rw [hml]; rfl) (argsL := [(.int v6_131)]) (rest := []) (lenOf pd__28_B_29_Z rfl) rfl (by show 2 * 0 + _ ≤ _; exact Nat.le_of_eq rfl) (hb hby at_103) (fun _ _ => ⟨rfl, ej142, (by decide : 1 + 0 ≤ _), (by decide : 2 + 0 ≤ _)⟩)
      dsimp only [Pt.U, Pt.locs, Pt.cells, Pt.slots] at X143 l143 y143 z143 st143 hQ143
      subst l143 y143 z143
      obtain ⟨rfl, Nq143, e143⟩ := hQ143
      refine own_by st143 ?_
      have N143 := Fr.app Nj142 Nq143
      show own_Fin _ _ _ _ (T143.setTop (mkF m 106 #[.val (.int p1), .val (.int p2), .val (.int p3), .val (.int p4), .val (.int p5), .val (.int (2 : Int32)), .val (.int v6_131), .val (.int v7_132), .val (.int v8_133), .val (.int v9_134), .val (.ref b135), .val (.int xe140), .unset] [(.int (if own_bad v6_131 then (1 : Int32) else 0))]))
      have jn146 : ∀ (Tj146 : State) (Lj146 : List Loc) (xe144 : Int32), Stand p l e room_1 s m #[(.int p1), (.int p2), (.int p3), (.int p4), (.int p5)] below meth c Tj146 Lj146 1 2 → Tj146.heap = h139 → Fr n0 Lj146 → (xe144 = (if own_bad v6_131 = true then (0 : Int32) else xe140)) → own_Fin p e below (G0 Z p1 p2 p3 p4 p5 h0 n0 s) (Tj146.setTop (mkF m 112 #[.val (.int p1), .val (.int p2), .val (.int p3), .val (.int p4), .val (.int p5), .val (.int (2 : Int32)), .val (.int v6_131), .val (.int v7_132), .val (.int v8_133), .val (.int v9_134), .val (.ref b135), .val (.int xe144), .unset] [])) := by
        intro Tj146 Lj146 xe144 Xj146 ej146 Nj146 hj146
        refine own_go (XS.iload Xj146.here hx rfl (hb hby at_112) rfl (Steps.refl _)) ?_
        show own_Fin _ _ _ _ (Tj146.setTop (mkF m 114 #[.val (.int p1), .val (.int p2), .val (.int p3), .val (.int p4), .val (.int p5), .val (.int (2 : Int32)), .val (.int v6_131), .val (.int v7_132), .val (.int v8_133), .val (.int v9_134), .val (.ref b135), .val (.int xe144), .unset] [(.int (2 : Int32))]))
        refine own_go (XS.iconst Xj146.here hx rfl (hb hby at_114) (Steps.refl _)) ?_
        show own_Fin _ _ _ _ (Tj146.setTop (mkF m 115 #[.val (.int p1), .val (.int p2), .val (.int p3), .val (.int p4), .val (.int p5), .val (.int (2 : Int32)), .val (.int v6_131), .val (.int v7_132), .val (.int v8_133), .val (.int v9_134), .val (.ref b135), .val (.int xe144), .unset] [(.int (1 : Int32)), (.int (2 : Int32))]))
        refine own_go (XS.icmpNo Xj146.here hx rfl (hb hby at_115) rfl (tlt (by decide : (1 : Int32) < (2 : Int32))).2.2.2 (Steps.refl _)) ?_
        show own_Fin _ _ _ _ (Tj146.setTop (mkF m 118 #[.val (.int p1), .val (.int p2), .val (.int p3), .val (.int p4), .val (.int p5), .val (.int (2 : Int32)), .val (.int v6_131), .val (.int v7_132), .val (.int v8_133), .val (.int v9_134), .val (.ref b135), .val (.int xe144), .unset] []))
        refine own_go (XS.iload Xj146.here hx rfl (hb hby at_118) rfl (Steps.refl _)) ?_
        show own_Fin _ _ _ _ (Tj146.setTop (mkF m 120 #[.val (.int p1), .val (.int p2), .val (.int p3), .val (.int p4), .val (.int p5), .val (.int (2 : Int32)), .val (.int v6_131), .val (.int v7_132), .val (.int v8_133), .val (.int v9_134), .val (.ref b135), .val (.int xe144), .unset] [(.int v7_132)]))
        obtain ⟨_, _, ⟨T147, L147, k147, n147⟩, -, X147, ⟨Lc147, hQ147, l147, y147, z147⟩, st147⟩ := Jvm.LawKit.callS Xj146 hx (y := (⟨"com/example/gridtally/gridtally/casefile/FieldTextIsWholePinLaw", "bad", "(B)Z"⟩ : MethodName)) hown (mvT hZ (hw _ (List.mem_of_getElem? (i := 5) rfl))) (mvT hZ (hw _ (List.mem_of_getElem? (i := 6) rfl))) (mvT hZ (hw _ (List.mem_of_getElem? (i := 7) rfl))) (mvT hZ (hw _ (List.mem_of_getElem? (i := 8) rfl))) (by decide) (backOf (W := 0) (rm2 l Z a0 hw [] v7_132 h139 n0 Z139) hZ (hw _ (List.mem_of_getElem? (i := 8) rfl)) (hw _ (List.mem_of_getElem? (i := 7) rfl)) (by decide) (by decide)) (g := (mkF m 120 #[.val (.int p1), .val (.int p2), .val (.int p3), .val (.int p4), .val (.int p5), .val (.int (2 : Int32)), .val (.int v6_131), .val (.int v7_132), .val (.int v8_133), .val (.int v9_134), .val (.ref b135), .val (.int xe144), .unset] [(.int v7_132)])) rfl (by rw [hml]; rfl) (argsL := [(.int v7_132)]) (rest := []) (lenOf pd__28_B_29_Z rfl) rfl (by show 2 * 0 + _ ≤ _; exact Nat.le_of_eq rfl) (hb hby at_120) (fun _ _ => ⟨rfl, ej146, (by decide : 1 + 0 ≤ _), (by decide : 2 + 0 ≤ _)⟩)
        dsimp only [Pt.U, Pt.locs, Pt.cells, Pt.slots] at X147 l147 y147 z147 st147 hQ147
        subst l147 y147 z147
        obtain ⟨rfl, Nq147, e147⟩ := hQ147
        refine own_by st147 ?_
        have N147 := Fr.app Nj146 Nq147
        show own_Fin _ _ _ _ (T147.setTop (mkF m 123 #[.val (.int p1), .val (.int p2), .val (.int p3), .val (.int p4), .val (.int p5), .val (.int (2 : Int32)), .val (.int v6_131), .val (.int v7_132), .val (.int v8_133), .val (.int v9_134), .val (.ref b135), .val (.int xe144), .unset] [(.int (if own_bad v7_132 then (1 : Int32) else 0))]))
        have jn150 : ∀ (Tj150 : State) (Lj150 : List Loc) (xe148 : Int32), Stand p l e room_1 s m #[(.int p1), (.int p2), (.int p3), (.int p4), (.int p5)] below meth c Tj150 Lj150 1 2 → Tj150.heap = h139 → Fr n0 Lj150 → (xe148 = (if own_bad v7_132 = true then (0 : Int32) else xe144)) → own_Fin p e below (G0 Z p1 p2 p3 p4 p5 h0 n0 s) (Tj150.setTop (mkF m 129 #[.val (.int p1), .val (.int p2), .val (.int p3), .val (.int p4), .val (.int p5), .val (.int (2 : Int32)), .val (.int v6_131), .val (.int v7_132), .val (.int v8_133), .val (.int v9_134), .val (.ref b135), .val (.int xe148), .unset] [])) := by
          intro Tj150 Lj150 xe148 Xj150 ej150 Nj150 hj150
          refine own_go (XS.iload Xj150.here hx rfl (hb hby at_129) rfl (Steps.refl _)) ?_
          show own_Fin _ _ _ _ (Tj150.setTop (mkF m 131 #[.val (.int p1), .val (.int p2), .val (.int p3), .val (.int p4), .val (.int p5), .val (.int (2 : Int32)), .val (.int v6_131), .val (.int v7_132), .val (.int v8_133), .val (.int v9_134), .val (.ref b135), .val (.int xe148), .unset] [(.int (2 : Int32))]))
          refine own_go (XS.iconst Xj150.here hx rfl (hb hby at_131) (Steps.refl _)) ?_
          show own_Fin _ _ _ _ (Tj150.setTop (mkF m 132 #[.val (.int p1), .val (.int p2), .val (.int p3), .val (.int p4), .val (.int p5), .val (.int (2 : Int32)), .val (.int v6_131), .val (.int v7_132), .val (.int v8_133), .val (.int v9_134), .val (.ref b135), .val (.int xe148), .unset] [(.int (2 : Int32)), (.int (2 : Int32))]))
          refine own_go (XS.icmpYes Xj150.here hx rfl (pc0 := 132) (pc' := 146) rfl (hb hby at_132) rfl (flt (by decide : ¬ ((2 : Int32) < (2 : Int32)))).2.2.2 (by decide) (by decide) (Steps.refl _)) ?_
          show own_Fin _ _ _ _ (Tj150.setTop (mkF m 146 #[.val (.int p1), .val (.int p2), .val (.int p3), .val (.int p4), .val (.int p5), .val (.int (2 : Int32)), .val (.int v6_131), .val (.int v7_132), .val (.int v8_133), .val (.int v9_134), .val (.ref b135), .val (.int xe148), .unset] []))
          refine own_go (XS.iload Xj150.here hx rfl (hb hby at_146) rfl (Steps.refl _)) ?_
          show own_Fin _ _ _ _ (Tj150.setTop (mkF m 148 #[.val (.int p1), .val (.int p2), .val (.int p3), .val (.int p4), .val (.int p5), .val (.int (2 : Int32)), .val (.int v6_131), .val (.int v7_132), .val (.int v8_133), .val (.int v9_134), .val (.ref b135), .val (.int xe148), .unset] [(.int (2 : Int32))]))
          refine own_go (XS.iconst Xj150.here hx rfl (hb hby at_148) (Steps.refl _)) ?_
          show own_Fin _ _ _ _ (Tj150.setTop (mkF m 149 #[.val (.int p1), .val (.int p2), .val (.int p3), .val (.int p4), .val (.int p5), .val (.int (2 : Int32)), .val (.int v6_131), .val (.int v7_132), .val (.int v8_133), .val (.int v9_134), .val (.ref b135), .val (.int xe148), .unset] [(.int (3 : Int32)), (.int (2 : Int32))]))
          refine own_go (XS.icmpYes Xj150.here hx rfl (pc0 := 149) (pc' := 163) rfl (hb hby at_149) rfl (flt (by decide : ¬ ((3 : Int32) < (2 : Int32)))).2.2.2 (by decide) (by decide) (Steps.refl _)) ?_
          show own_Fin _ _ _ _ (Tj150.setTop (mkF m 163 #[.val (.int p1), .val (.int p2), .val (.int p3), .val (.int p4), .val (.int p5), .val (.int (2 : Int32)), .val (.int v6_131), .val (.int v7_132), .val (.int v8_133), .val (.int v9_134), .val (.ref b135), .val (.int xe148), .unset] []))
          refine own_go (XS.aload Xj150.here hx rfl (hb hby at_163) rfl rfl (Steps.refl _)) ?_
          show own_Fin _ _ _ _ (Tj150.setTop (mkF m 165 #[.val (.int p1), .val (.int p2), .val (.int p3), .val (.int p4), .val (.int p5), .val (.int (2 : Int32)), .val (.int v6_131), .val (.int v7_132), .val (.int v8_133), .val (.int v9_134), .val (.ref b135), .val (.int xe148), .unset] [(.ref b135)]))
          obtain ⟨_, _, ⟨T151, L151, k151, n151⟩, -, X151, ⟨Lc151, hQ151, l151, y151, z151⟩, st151⟩ := Jvm.LawKit.callS Xj150 hx (y := (⟨"com/example/gridtally/gridtally/casefile/FieldText", "isWhole", "([B)Z"⟩ : MethodName)) hown (mvT hZ (hw _ (List.mem_of_getElem? (i := 1) rfl))) (mvT hZ (hw _ (List.mem_of_getElem? (i := 2) rfl))) (mvT hZ (hw _ (List.mem_of_getElem? (i := 3) rfl))) (mvT hZ (hw _ (List.mem_of_getElem? (i := 4) rfl))) (by decide) (backOf (W := 0) (rm1_2 l Z a0 hw [] b135 k135 v6_131 v7_132 h139 n0 Z139 V_b135_139) hZ (hw _ (List.mem_of_getElem? (i := 4) rfl)) (hw _ (List.mem_of_getElem? (i := 3) rfl)) (by decide) (by decide)) (g := (mkF m 165 #[.val (.int p1), .val (.int p2), .val (.int p3), .val (.int p4), .val (.int p5), .val (.int (2 : Int32)), .val (.int v6_131), .val (.int v7_132), .val (.int v8_133), .val (.int v9_134), .val (.ref b135), .val (.int xe148), .unset] [(.ref b135)])) rfl (by rw [hml]; rfl) (argsL := [(.ref b135)]) (rest := []) (lenOf pd__28__5b_B_29_Z rfl) rfl (by show 2 * 0 + _ ≤ _; exact Nat.le_of_eq rfl) (hb hby at_165) (fun _ _ => ⟨rfl, ej150, (by decide : 1 + 0 ≤ _), (by decide : 2 + 0 ≤ _)⟩)
          dsimp only [Pt.U, Pt.locs, Pt.cells, Pt.slots] at X151 l151 y151 z151 st151 hQ151
          subst l151 y151 z151
          obtain ⟨rfl, Nq151, e151⟩ := hQ151
          refine own_by st151 ?_
          have N151 := Fr.app Nj150 Nq151
          show own_Fin _ _ _ _ (T151.setTop (mkF m 168 #[.val (.int p1), .val (.int p2), .val (.int p3), .val (.int p4), .val (.int p5), .val (.int (2 : Int32)), .val (.int v6_131), .val (.int v7_132), .val (.int v8_133), .val (.int v9_134), .val (.ref b135), .val (.int xe148), .unset] [(.int (if (decide (v6_131 = 34) || own_bad v6_131 || own_bad v7_132) then (0 : Int32) else 1))]))
          refine own_go (XS.istore X151.here hx rfl (hb hby at_168) rfl (l' := #[.val (.int p1), .val (.int p2), .val (.int p3), .val (.int p4), .val (.int p5), .val (.int (2 : Int32)), .val (.int v6_131), .val (.int v7_132), .val (.int v8_133), .val (.int v9_134), .val (.ref b135), .val (.int xe148), .val (.int (if (decide (v6_131 = 34) || own_bad v6_131 || own_bad v7_132) then (0 : Int32) else 1))]) rfl (Steps.refl _)) ?_
          show own_Fin _ _ _ _ (T151.setTop (mkF m 170 #[.val (.int p1), .val (.int p2), .val (.int p3), .val (.int p4), .val (.int p5), .val (.int (2 : Int32)), .val (.int v6_131), .val (.int v7_132), .val (.int v8_133), .val (.int v9_134), .val (.ref b135), .val (.int xe148), .val (.int (if (decide (v6_131 = 34) || own_bad v6_131 || own_bad v7_132) then (0 : Int32) else 1))] []))
          generalize hz_v12_152 : (if (decide (v6_131 = 34) || own_bad v6_131 || own_bad v7_132) then (0 : Int32) else 1) = v12_152
          refine own_go (XS.iload X151.here hx rfl (hb hby at_170) rfl (Steps.refl _)) ?_
          show own_Fin _ _ _ _ (T151.setTop (mkF m 172 #[.val (.int p1), .val (.int p2), .val (.int p3), .val (.int p4), .val (.int p5), .val (.int (2 : Int32)), .val (.int v6_131), .val (.int v7_132), .val (.int v8_133), .val (.int v9_134), .val (.ref b135), .val (.int xe148), .val (.int v12_152)] [(.int v12_152)]))
          refine own_go (XS.iload X151.here hx rfl (hb hby at_172) rfl (Steps.refl _)) ?_
          show own_Fin _ _ _ _ (T151.setTop (mkF m 174 #[.val (.int p1), .val (.int p2), .val (.int p3), .val (.int p4), .val (.int p5), .val (.int (2 : Int32)), .val (.int v6_131), .val (.int v7_132), .val (.int v8_133), .val (.int v9_134), .val (.ref b135), .val (.int xe148), .val (.int v12_152)] [(.int xe148), (.int v12_152)]))
          refine own_go (XS.icmpNo X151.here hx rfl (hb hby at_174) rfl (teq (show v12_152 = xe148 from by rw [← hz_v12_152, hj150, hj146, hj142]; cases own_bad v6_131 <;> cases own_bad v7_132 <;>  by_cases q : v6_131 = (34 : Int32) <;> simp [q])).2 (Steps.refl _)) ?_
          show own_Fin _ _ _ _ (T151.setTop (mkF m 177 #[.val (.int p1), .val (.int p2), .val (.int p3), .val (.int p4), .val (.int p5), .val (.int (2 : Int32)), .val (.int v6_131), .val (.int v7_132), .val (.int v8_133), .val (.int v9_134), .val (.ref b135), .val (.int xe148), .val (.int v12_152)] []))
          refine own_go (XS.iconst X151.here hx rfl (hb hby at_177) (Steps.refl _)) ?_
          show own_Fin _ _ _ _ (T151.setTop (mkF m 178 #[.val (.int p1), .val (.int p2), .val (.int p3), .val (.int p4), .val (.int p5), .val (.int (2 : Int32)), .val (.int v6_131), .val (.int v7_132), .val (.int v8_133), .val (.int v9_134), .val (.ref b135), .val (.int xe148), .val (.int v12_152)] [(.int (1 : Int32))]))
          refine own_go (XS.goto X151.here hx rfl (pc0 := 178) (pc' := 182) rfl (hb hby at_178) (by decide) (by decide) (Steps.refl _)) ?_
          show own_Fin _ _ _ _ (T151.setTop (mkF m 182 #[.val (.int p1), .val (.int p2), .val (.int p3), .val (.int p4), .val (.int p5), .val (.int (2 : Int32)), .val (.int v6_131), .val (.int v7_132), .val (.int v8_133), .val (.int v9_134), .val (.ref b135), .val (.int xe148), .val (.int v12_152)] [(.int (1 : Int32))]))
          obtain ⟨fs153, hr153, hrun153, hended153, hW153, hsame153⟩ := X151.leave (v := some (.int (1 : Int32))) (fun h => by rw [Bd.returns] at h; cases h)
          refine own_done (retN X151 hx (t := .boolean) Bd.returns (by simp) (hb hby at_182) hr153) hrun153 hended153 ⟨_, _, rfl, ?_, ⟨_, rfl⟩, hW153, hsame153.mono (by decide) (by decide)⟩
          show Q0 Z p1 p2 p3 p4 p5 h0 n0 _ T151.heap _
          rw [e151]
          exact ⟨rfl, N151⟩
        by_cases c149 : own_bad v7_132 = true
        · refine own_go (XS.ifNo X147.here hx rfl (hb hby at_123) rfl ((if0 _ _).trans (feq (show ¬ ((if own_bad v7_132 then (1 : Int32) else 0) = (0 : Int32)) from by simp [c149])).1) (Steps.refl _)) ?_
          show own_Fin _ _ _ _ (T147.setTop (mkF m 126 #[.val (.int p1), .val (.int p2), .val (.int p3), .val (.int p4), .val (.int p5), .val (.int (2 : Int32)), .val (.int v6_131), .val (.int v7_132), .val (.int v8_133), .val (.int v9_134), .val (.ref b135), .val (.int xe144), .unset] []))
          refine own_go (XS.iconst X147.here hx rfl (hb hby at_126) (Steps.refl _)) ?_
          show own_Fin _ _ _ _ (T147.setTop (mkF m 127 #[.val (.int p1), .val (.int p2), .val (.int p3), .val (.int p4), .val (.int p5), .val (.int (2 : Int32)), .val (.int v6_131), .val (.int v7_132), .val (.int v8_133), .val (.int v9_134), .val (.ref b135), .val (.int xe144), .unset] [(.int (0 : Int32))]))
          refine own_go (XS.istore X147.here hx rfl (hb hby at_127) rfl (l' := #[.val (.int p1), .val (.int p2), .val (.int p3), .val (.int p4), .val (.int p5), .val (.int (2 : Int32)), .val (.int v6_131), .val (.int v7_132), .val (.int v8_133), .val (.int v9_134), .val (.ref b135), .val (.int (0 : Int32)), .unset]) rfl (Steps.refl _)) ?_
          show own_Fin _ _ _ _ (T147.setTop (mkF m 129 #[.val (.int p1), .val (.int p2), .val (.int p3), .val (.int p4), .val (.int p5), .val (.int (2 : Int32)), .val (.int v6_131), .val (.int v7_132), .val (.int v8_133), .val (.int v9_134), .val (.ref b135), .val (.int (0 : Int32)), .unset] []))
          exact jn150 T147 _ (0 : Int32) X147 e147 N147 (by simp [c149])
        · refine own_go (XS.ifYes X147.here hx rfl (pc0 := 123) (pc' := 129) rfl (hb hby at_123) rfl ((if0 _ _).trans (teq (show (if own_bad v7_132 then (1 : Int32) else 0) = (0 : Int32) from by simp [c149])).1) (by decide) (by decide) (Steps.refl _)) ?_
          show own_Fin _ _ _ _ (T147.setTop (mkF m 129 #[.val (.int p1), .val (.int p2), .val (.int p3), .val (.int p4), .val (.int p5), .val (.int (2 : Int32)), .val (.int v6_131), .val (.int v7_132), .val (.int v8_133), .val (.int v9_134), .val (.ref b135), .val (.int xe144), .unset] []))
          exact jn150 T147 _ xe144 X147 e147 N147 (by simp [c149])
      by_cases c145 : own_bad v6_131 = true
      · refine own_go (XS.ifNo X143.here hx rfl (hb hby at_106) rfl ((if0 _ _).trans (feq (show ¬ ((if own_bad v6_131 then (1 : Int32) else 0) = (0 : Int32)) from by simp [c145])).1) (Steps.refl _)) ?_
        show own_Fin _ _ _ _ (T143.setTop (mkF m 109 #[.val (.int p1), .val (.int p2), .val (.int p3), .val (.int p4), .val (.int p5), .val (.int (2 : Int32)), .val (.int v6_131), .val (.int v7_132), .val (.int v8_133), .val (.int v9_134), .val (.ref b135), .val (.int xe140), .unset] []))
        refine own_go (XS.iconst X143.here hx rfl (hb hby at_109) (Steps.refl _)) ?_
        show own_Fin _ _ _ _ (T143.setTop (mkF m 110 #[.val (.int p1), .val (.int p2), .val (.int p3), .val (.int p4), .val (.int p5), .val (.int (2 : Int32)), .val (.int v6_131), .val (.int v7_132), .val (.int v8_133), .val (.int v9_134), .val (.ref b135), .val (.int xe140), .unset] [(.int (0 : Int32))]))
        refine own_go (XS.istore X143.here hx rfl (hb hby at_110) rfl (l' := #[.val (.int p1), .val (.int p2), .val (.int p3), .val (.int p4), .val (.int p5), .val (.int (2 : Int32)), .val (.int v6_131), .val (.int v7_132), .val (.int v8_133), .val (.int v9_134), .val (.ref b135), .val (.int (0 : Int32)), .unset]) rfl (Steps.refl _)) ?_
        show own_Fin _ _ _ _ (T143.setTop (mkF m 112 #[.val (.int p1), .val (.int p2), .val (.int p3), .val (.int p4), .val (.int p5), .val (.int (2 : Int32)), .val (.int v6_131), .val (.int v7_132), .val (.int v8_133), .val (.int v9_134), .val (.ref b135), .val (.int (0 : Int32)), .unset] []))
        exact jn146 T143 _ (0 : Int32) X143 e143 N143 (by simp [c145])
      · refine own_go (XS.ifYes X143.here hx rfl (pc0 := 106) (pc' := 112) rfl (hb hby at_106) rfl ((if0 _ _).trans (teq (show (if own_bad v6_131 then (1 : Int32) else 0) = (0 : Int32) from by simp [c145])).1) (by decide) (by decide) (Steps.refl _)) ?_
        show own_Fin _ _ _ _ (T143.setTop (mkF m 112 #[.val (.int p1), .val (.int p2), .val (.int p3), .val (.int p4), .val (.int p5), .val (.int (2 : Int32)), .val (.int v6_131), .val (.int v7_132), .val (.int v8_133), .val (.int v9_134), .val (.ref b135), .val (.int xe140), .unset] []))
        exact jn146 T143 _ xe140 X143 e143 N143 (by simp [c145])
    by_cases c141 : v6_131 = (34 : Int32)
    · refine own_go (XS.icmpNo X139.here hx rfl (hb hby at_90) rfl (teq c141).2 (Steps.refl _)) ?_
      show own_Fin _ _ _ _ (T139.setTop (mkF m 93 #[.val (.int p1), .val (.int p2), .val (.int p3), .val (.int p4), .val (.int p5), .val (.int (2 : Int32)), .val (.int v6_131), .val (.int v7_132), .val (.int v8_133), .val (.int v9_134), .val (.ref b135), .val (.int (1 : Int32)), .unset] []))
      refine own_go (XS.iconst X139.here hx rfl (hb hby at_93) (Steps.refl _)) ?_
      show own_Fin _ _ _ _ (T139.setTop (mkF m 94 #[.val (.int p1), .val (.int p2), .val (.int p3), .val (.int p4), .val (.int p5), .val (.int (2 : Int32)), .val (.int v6_131), .val (.int v7_132), .val (.int v8_133), .val (.int v9_134), .val (.ref b135), .val (.int (1 : Int32)), .unset] [(.int (0 : Int32))]))
      refine own_go (XS.istore X139.here hx rfl (hb hby at_94) rfl (l' := #[.val (.int p1), .val (.int p2), .val (.int p3), .val (.int p4), .val (.int p5), .val (.int (2 : Int32)), .val (.int v6_131), .val (.int v7_132), .val (.int v8_133), .val (.int v9_134), .val (.ref b135), .val (.int (0 : Int32)), .unset]) rfl (Steps.refl _)) ?_
      show own_Fin _ _ _ _ (T139.setTop (mkF m 96 #[.val (.int p1), .val (.int p2), .val (.int p3), .val (.int p4), .val (.int p5), .val (.int (2 : Int32)), .val (.int v6_131), .val (.int v7_132), .val (.int v8_133), .val (.int v9_134), .val (.ref b135), .val (.int (0 : Int32)), .unset] []))
      exact jn142 T139 _ (0 : Int32) X139 e139 N139 (by simp [c141])
    · refine own_go (XS.icmpYes X139.here hx rfl (pc0 := 90) (pc' := 96) rfl (hb hby at_90) rfl (feq c141).2 (by decide) (by decide) (Steps.refl _)) ?_
      show own_Fin _ _ _ _ (T139.setTop (mkF m 96 #[.val (.int p1), .val (.int p2), .val (.int p3), .val (.int p4), .val (.int p5), .val (.int (2 : Int32)), .val (.int v6_131), .val (.int v7_132), .val (.int v8_133), .val (.int v9_134), .val (.ref b135), .val (.int (1 : Int32)), .unset] []))
      exact jn142 T139 _ (1 : Int32) X139 e139 N139 (by simp [c141])
  · show own_Fin _ _ _ _ (s₁.setTop (mkF m 8 #[.val (.int p1), .val (.int p2), .val (.int p3), .val (.int p4), .val (.int p5), .val (.int (3 : Int32)), .unset, .unset, .unset, .unset, .unset, .unset, .unset] []))
    refine own_go (XS.iloadN X0.here hx rfl (hb hby at_8) rfl (Steps.refl _)) ?_
    show own_Fin _ _ _ _ (s₁.setTop (mkF m 9 #[.val (.int p1), .val (.int p2), .val (.int p3), .val (.int p4), .val (.int p5), .val (.int (3 : Int32)), .unset, .unset, .unset, .unset, .unset, .unset, .unset] [(.int p2)]))
    refine own_go (XS.i2b X0.here hx rfl (hb hby at_9) rfl (Steps.refl _)) ?_
    show own_Fin _ _ _ _ (s₁.setTop (mkF m 10 #[.val (.int p1), .val (.int p2), .val (.int p3), .val (.int p4), .val (.int p5), .val (.int (3 : Int32)), .unset, .unset, .unset, .unset, .unset, .unset, .unset] [(.int (p2.toInt8.toInt32))]))
    refine own_go (XS.istore X0.here hx rfl (hb hby at_10) rfl (l' := #[.val (.int p1), .val (.int p2), .val (.int p3), .val (.int p4), .val (.int p5), .val (.int (3 : Int32)), .val (.int (p2.toInt8.toInt32)), .unset, .unset, .unset, .unset, .unset, .unset]) rfl (Steps.refl _)) ?_
    show own_Fin _ _ _ _ (s₁.setTop (mkF m 12 #[.val (.int p1), .val (.int p2), .val (.int p3), .val (.int p4), .val (.int p5), .val (.int (3 : Int32)), .val (.int (p2.toInt8.toInt32)), .unset, .unset, .unset, .unset, .unset, .unset] []))
    generalize hz_v6_154 : (p2.toInt8.toInt32) = v6_154
    refine own_go (XS.iloadN X0.here hx rfl (hb hby at_12) rfl (Steps.refl _)) ?_
    show own_Fin _ _ _ _ (s₁.setTop (mkF m 13 #[.val (.int p1), .val (.int p2), .val (.int p3), .val (.int p4), .val (.int p5), .val (.int (3 : Int32)), .val (.int v6_154), .unset, .unset, .unset, .unset, .unset, .unset] [(.int p3)]))
    refine own_go (XS.i2b X0.here hx rfl (hb hby at_13) rfl (Steps.refl _)) ?_
    show own_Fin _ _ _ _ (s₁.setTop (mkF m 14 #[.val (.int p1), .val (.int p2), .val (.int p3), .val (.int p4), .val (.int p5), .val (.int (3 : Int32)), .val (.int v6_154), .unset, .unset, .unset, .unset, .unset, .unset] [(.int (p3.toInt8.toInt32))]))
    refine own_go (XS.istore X0.here hx rfl (hb hby at_14) rfl (l' := #[.val (.int p1), .val (.int p2), .val (.int p3), .val (.int p4), .val (.int p5), .val (.int (3 : Int32)), .val (.int v6_154), .val (.int (p3.toInt8.toInt32)), .unset, .unset, .unset, .unset, .unset]) rfl (Steps.refl _)) ?_
    show own_Fin _ _ _ _ (s₁.setTop (mkF m 16 #[.val (.int p1), .val (.int p2), .val (.int p3), .val (.int p4), .val (.int p5), .val (.int (3 : Int32)), .val (.int v6_154), .val (.int (p3.toInt8.toInt32)), .unset, .unset, .unset, .unset, .unset] []))
    generalize hz_v7_155 : (p3.toInt8.toInt32) = v7_155
    refine own_go (XS.iloadN X0.here hx rfl (hb hby at_16) rfl (Steps.refl _)) ?_
    show own_Fin _ _ _ _ (s₁.setTop (mkF m 17 #[.val (.int p1), .val (.int p2), .val (.int p3), .val (.int p4), .val (.int p5), .val (.int (3 : Int32)), .val (.int v6_154), .val (.int v7_155), .unset, .unset, .unset, .unset, .unset] [(.int p4)]))
    refine own_go (XS.i2b X0.here hx rfl (hb hby at_17) rfl (Steps.refl _)) ?_
    show own_Fin _ _ _ _ (s₁.setTop (mkF m 18 #[.val (.int p1), .val (.int p2), .val (.int p3), .val (.int p4), .val (.int p5), .val (.int (3 : Int32)), .val (.int v6_154), .val (.int v7_155), .unset, .unset, .unset, .unset, .unset] [(.int (p4.toInt8.toInt32))]))
    refine own_go (XS.istore X0.here hx rfl (hb hby at_18) rfl (l' := #[.val (.int p1), .val (.int p2), .val (.int p3), .val (.int p4), .val (.int p5), .val (.int (3 : Int32)), .val (.int v6_154), .val (.int v7_155), .val (.int (p4.toInt8.toInt32)), .unset, .unset, .unset, .unset]) rfl (Steps.refl _)) ?_
    show own_Fin _ _ _ _ (s₁.setTop (mkF m 20 #[.val (.int p1), .val (.int p2), .val (.int p3), .val (.int p4), .val (.int p5), .val (.int (3 : Int32)), .val (.int v6_154), .val (.int v7_155), .val (.int (p4.toInt8.toInt32)), .unset, .unset, .unset, .unset] []))
    generalize hz_v8_156 : (p4.toInt8.toInt32) = v8_156
    refine own_go (XS.iload X0.here hx rfl (hb hby at_20) rfl (Steps.refl _)) ?_
    show own_Fin _ _ _ _ (s₁.setTop (mkF m 22 #[.val (.int p1), .val (.int p2), .val (.int p3), .val (.int p4), .val (.int p5), .val (.int (3 : Int32)), .val (.int v6_154), .val (.int v7_155), .val (.int v8_156), .unset, .unset, .unset, .unset] [(.int p5)]))
    refine own_go (XS.i2b X0.here hx rfl (hb hby at_22) rfl (Steps.refl _)) ?_
    show own_Fin _ _ _ _ (s₁.setTop (mkF m 23 #[.val (.int p1), .val (.int p2), .val (.int p3), .val (.int p4), .val (.int p5), .val (.int (3 : Int32)), .val (.int v6_154), .val (.int v7_155), .val (.int v8_156), .unset, .unset, .unset, .unset] [(.int (p5.toInt8.toInt32))]))
    refine own_go (XS.istore X0.here hx rfl (hb hby at_23) rfl (l' := #[.val (.int p1), .val (.int p2), .val (.int p3), .val (.int p4), .val (.int p5), .val (.int (3 : Int32)), .val (.int v6_154), .val (.int v7_155), .val (.int v8_156), .val (.int (p5.toInt8.toInt32)), .unset, .unset, .unset]) rfl (Steps.refl _)) ?_
    show own_Fin _ _ _ _ (s₁.setTop (mkF m 25 #[.val (.int p1), .val (.int p2), .val (.int p3), .val (.int p4), .val (.int p5), .val (.int (3 : Int32)), .val (.int v6_154), .val (.int v7_155), .val (.int v8_156), .val (.int (p5.toInt8.toInt32)), .unset, .unset, .unset] []))
    generalize hz_v9_157 : (p5.toInt8.toInt32) = v9_157
    refine own_go (XS.iload X0.here hx rfl (hb hby at_25) rfl (Steps.refl _)) ?_
    show own_Fin _ _ _ _ (s₁.setTop (mkF m 27 #[.val (.int p1), .val (.int p2), .val (.int p3), .val (.int p4), .val (.int p5), .val (.int (3 : Int32)), .val (.int v6_154), .val (.int v7_155), .val (.int v8_156), .val (.int v9_157), .unset, .unset, .unset] [(.int (3 : Int32))]))
    obtain ⟨T158, h158, k158, X158, e158, E158, A158, st158⟩ := newP X0 hx hZ (hw _ (List.mem_of_getElem? (i := 0) rfl)) e0 (g := (mkF m 27 #[.val (.int p1), .val (.int p2), .val (.int p3), .val (.int p4), .val (.int p5), .val (.int (3 : Int32)), .val (.int v6_154), .val (.int v7_155), .val (.int v8_156), .val (.int v9_157), .unset, .unset, .unset] [(.int (3 : Int32))])) rfl (hb hby at_27) rfl (by decide) (cap := 3) (by decide) (by decide) (by decide) (by decide)
    obtain ⟨b158, g158⟩ : ∃ z, z = h0.size := ⟨_, rfl⟩
    rw [← g158] at A158 st158
    refine own_by st158 ?_
    have g_b158 : n0 ≤ b158 := Nat.le_trans Z0 (Nat.le_of_eq g158.symm)
    have Z158 : n0 ≤ h158.size := Nat.le_trans Z0 E158.1
    have V_b158 : Arv Z h158 b158 k158 .byte (3 : Int32) [(.int (0 : Int32)), (.int (0 : Int32)), (.int (0 : Int32))] (.int (0 : Int32)) := (Arv.new A158 (by decide)).pad (pad_rep [] (.int (0 : Int32)) 3)
    show own_Fin _ _ _ _ (T158.setTop (mkF m 29 #[.val (.int p1), .val (.int p2), .val (.int p3), .val (.int p4), .val (.int p5), .val (.int (3 : Int32)), .val (.int v6_154), .val (.int v7_155), .val (.int v8_156), .val (.int v9_157), .unset, .unset, .unset] [(.ref b158)]))
    refine own_go (XS.astore X158.here hx rfl (hb hby at_29) rfl rfl (l' := #[.val (.int p1), .val (.int p2), .val (.int p3), .val (.int p4), .val (.int p5), .val (.int (3 : Int32)), .val (.int v6_154), .val (.int v7_155), .val (.int v8_156), .val (.int v9_157), .val (.ref b158), .unset, .unset]) rfl (Steps.refl _)) ?_
    show own_Fin _ _ _ _ (T158.setTop (mkF m 31 #[.val (.int p1), .val (.int p2), .val (.int p3), .val (.int p4), .val (.int p5), .val (.int (3 : Int32)), .val (.int v6_154), .val (.int v7_155), .val (.int v8_156), .val (.int v9_157), .val (.ref b158), .unset, .unset] []))
    refine own_go (XS.iload X158.here hx rfl (hb hby at_31) rfl (Steps.refl _)) ?_
    show own_Fin _ _ _ _ (T158.setTop (mkF m 33 #[.val (.int p1), .val (.int p2), .val (.int p3), .val (.int p4), .val (.int p5), .val (.int (3 : Int32)), .val (.int v6_154), .val (.int v7_155), .val (.int v8_156), .val (.int v9_157), .val (.ref b158), .unset, .unset] [(.int (3 : Int32))]))
    refine own_go (XS.ifNo X158.here hx rfl (hb hby at_33) rfl ((if0 _ _).trans (tlt (by decide : (0 : Int32) < (3 : Int32))).2.2.2) (Steps.refl _)) ?_
    show own_Fin _ _ _ _ (T158.setTop (mkF m 36 #[.val (.int p1), .val (.int p2), .val (.int p3), .val (.int p4), .val (.int p5), .val (.int (3 : Int32)), .val (.int v6_154), .val (.int v7_155), .val (.int v8_156), .val (.int v9_157), .val (.ref b158), .unset, .unset] []))
    refine own_go (XS.aload X158.here hx rfl (hb hby at_36) rfl rfl (Steps.refl _)) ?_
    show own_Fin _ _ _ _ (T158.setTop (mkF m 38 #[.val (.int p1), .val (.int p2), .val (.int p3), .val (.int p4), .val (.int p5), .val (.int (3 : Int32)), .val (.int v6_154), .val (.int v7_155), .val (.int v8_156), .val (.int v9_157), .val (.ref b158), .unset, .unset] [(.ref b158)]))
    refine own_go (XS.iconst X158.here hx rfl (hb hby at_38) (Steps.refl _)) ?_
    show own_Fin _ _ _ _ (T158.setTop (mkF m 39 #[.val (.int p1), .val (.int p2), .val (.int p3), .val (.int p4), .val (.int p5), .val (.int (3 : Int32)), .val (.int v6_154), .val (.int v7_155), .val (.int v8_156), .val (.int v9_157), .val (.ref b158), .unset, .unset] [(.int (0 : Int32)), (.ref b158)]))
    refine own_go (XS.iload X158.here hx rfl (hb hby at_39) rfl (Steps.refl _)) ?_
    show own_Fin _ _ _ _ (T158.setTop (mkF m 41 #[.val (.int p1), .val (.int p2), .val (.int p3), .val (.int p4), .val (.int p5), .val (.int (3 : Int32)), .val (.int v6_154), .val (.int v7_155), .val (.int v8_156), .val (.int v9_157), .val (.ref b158), .unset, .unset] [(.int v6_154), (.int (0 : Int32)), (.ref b158)]))
    obtain ⟨cl159, Ar159, qa159, Sa159, Na159, Ha159, Ga159⟩ := id V_b158
    have hin159 : ¬ ((0 : Int32) < 0 ∨ cl159.slots.size ≤ ((0 : Int32)).toNatClampNeg) := inb_of Sa159 ⟨by decide, by decide⟩
    obtain ⟨T160, h160, X160, e160, W160, st160⟩ := stB X158 hx hZ e158 Ar159 (j := (0 : Int32)) hin159 (g := (mkF m 41 #[.val (.int p1), .val (.int p2), .val (.int p3), .val (.int p4), .val (.int p5), .val (.int (3 : Int32)), .val (.int v6_154), .val (.int v7_155), .val (.int v8_156), .val (.int v9_157), .val (.ref b158), .unset, .unset] [(.int v6_154), (.int (0 : Int32)), (.ref b158)])) rfl rfl (hb hby at_41)
    refine own_by st160 ?_
    have hnr160 : nar .byte v6_154 = v6_154 := by rw [← hz_v6_154]; exact own_nb _
    rw [hnr160] at W160
    have V_b158_160 : Arv Z h160 b158 k158 .byte (3 : Int32) [(.int v6_154), (.int (0 : Int32)), (.int (0 : Int32))] (.int (0 : Int32)) := Arv.set Ar159 qa159 Sa159 Na159 Ha159 Ga159 (hnr160 ▸ fits_nar_byte v6_154) W160 0 rfl (Nat.le_of_ble_eq_true rfl)
    have N160 := Fr.snoc X160 N0 g_b158
    have Z160 : n0 ≤ h160.size := Nat.le_trans Z158 (Keep.of_wr W160).1
    show own_Fin _ _ _ _ (T160.setTop (mkF m 42 #[.val (.int p1), .val (.int p2), .val (.int p3), .val (.int p4), .val (.int p5), .val (.int (3 : Int32)), .val (.int v6_154), .val (.int v7_155), .val (.int v8_156), .val (.int v9_157), .val (.ref b158), .unset, .unset] []))
    refine own_go (XS.iload X160.here hx rfl (hb hby at_42) rfl (Steps.refl _)) ?_
    show own_Fin _ _ _ _ (T160.setTop (mkF m 44 #[.val (.int p1), .val (.int p2), .val (.int p3), .val (.int p4), .val (.int p5), .val (.int (3 : Int32)), .val (.int v6_154), .val (.int v7_155), .val (.int v8_156), .val (.int v9_157), .val (.ref b158), .unset, .unset] [(.int (3 : Int32))]))
    refine own_go (XS.iconst X160.here hx rfl (hb hby at_44) (Steps.refl _)) ?_
    show own_Fin _ _ _ _ (T160.setTop (mkF m 45 #[.val (.int p1), .val (.int p2), .val (.int p3), .val (.int p4), .val (.int p5), .val (.int (3 : Int32)), .val (.int v6_154), .val (.int v7_155), .val (.int v8_156), .val (.int v9_157), .val (.ref b158), .unset, .unset] [(.int (1 : Int32)), (.int (3 : Int32))]))
    refine own_go (XS.icmpNo X160.here hx rfl (hb hby at_45) rfl (tlt (by decide : (1 : Int32) < (3 : Int32))).2.2.2 (Steps.refl _)) ?_
    show own_Fin _ _ _ _ (T160.setTop (mkF m 48 #[.val (.int p1), .val (.int p2), .val (.int p3), .val (.int p4), .val (.int p5), .val (.int (3 : Int32)), .val (.int v6_154), .val (.int v7_155), .val (.int v8_156), .val (.int v9_157), .val (.ref b158), .unset, .unset] []))
    refine own_go (XS.aload X160.here hx rfl (hb hby at_48) rfl rfl (Steps.refl _)) ?_
    show own_Fin _ _ _ _ (T160.setTop (mkF m 50 #[.val (.int p1), .val (.int p2), .val (.int p3), .val (.int p4), .val (.int p5), .val (.int (3 : Int32)), .val (.int v6_154), .val (.int v7_155), .val (.int v8_156), .val (.int v9_157), .val (.ref b158), .unset, .unset] [(.ref b158)]))
    refine own_go (XS.iconst X160.here hx rfl (hb hby at_50) (Steps.refl _)) ?_
    show own_Fin _ _ _ _ (T160.setTop (mkF m 51 #[.val (.int p1), .val (.int p2), .val (.int p3), .val (.int p4), .val (.int p5), .val (.int (3 : Int32)), .val (.int v6_154), .val (.int v7_155), .val (.int v8_156), .val (.int v9_157), .val (.ref b158), .unset, .unset] [(.int (1 : Int32)), (.ref b158)]))
    refine own_go (XS.iload X160.here hx rfl (hb hby at_51) rfl (Steps.refl _)) ?_
    show own_Fin _ _ _ _ (T160.setTop (mkF m 53 #[.val (.int p1), .val (.int p2), .val (.int p3), .val (.int p4), .val (.int p5), .val (.int (3 : Int32)), .val (.int v6_154), .val (.int v7_155), .val (.int v8_156), .val (.int v9_157), .val (.ref b158), .unset, .unset] [(.int v7_155), (.int (1 : Int32)), (.ref b158)]))
    obtain ⟨cl161, Ar161, qa161, Sa161, Na161, Ha161, Ga161⟩ := id V_b158_160
    have hin161 : ¬ ((1 : Int32) < 0 ∨ cl161.slots.size ≤ ((1 : Int32)).toNatClampNeg) := inb_of Sa161 ⟨by decide, by decide⟩
    obtain ⟨T162, h162, X162, e162, W162, st162⟩ := stB X160 hx hZ e160 Ar161 (j := (1 : Int32)) hin161 (g := (mkF m 53 #[.val (.int p1), .val (.int p2), .val (.int p3), .val (.int p4), .val (.int p5), .val (.int (3 : Int32)), .val (.int v6_154), .val (.int v7_155), .val (.int v8_156), .val (.int v9_157), .val (.ref b158), .unset, .unset] [(.int v7_155), (.int (1 : Int32)), (.ref b158)])) rfl rfl (hb hby at_53)
    refine own_by st162 ?_
    have hnr162 : nar .byte v7_155 = v7_155 := by rw [← hz_v7_155]; exact own_nb _
    rw [hnr162] at W162
    have V_b158_162 : Arv Z h162 b158 k158 .byte (3 : Int32) [(.int v6_154), (.int v7_155), (.int (0 : Int32))] (.int (0 : Int32)) := Arv.set Ar161 qa161 Sa161 Na161 Ha161 Ga161 (hnr162 ▸ fits_nar_byte v7_155) W162 1 rfl (Nat.le_of_ble_eq_true rfl)
    have N162 := Fr.snoc X162 N160 g_b158
    have Z162 : n0 ≤ h162.size := Nat.le_trans Z160 (Keep.of_wr W162).1
    show own_Fin _ _ _ _ (T162.setTop (mkF m 54 #[.val (.int p1), .val (.int p2), .val (.int p3), .val (.int p4), .val (.int p5), .val (.int (3 : Int32)), .val (.int v6_154), .val (.int v7_155), .val (.int v8_156), .val (.int v9_157), .val (.ref b158), .unset, .unset] []))
    refine own_go (XS.iload X162.here hx rfl (hb hby at_54) rfl (Steps.refl _)) ?_
    show own_Fin _ _ _ _ (T162.setTop (mkF m 56 #[.val (.int p1), .val (.int p2), .val (.int p3), .val (.int p4), .val (.int p5), .val (.int (3 : Int32)), .val (.int v6_154), .val (.int v7_155), .val (.int v8_156), .val (.int v9_157), .val (.ref b158), .unset, .unset] [(.int (3 : Int32))]))
    refine own_go (XS.iconst X162.here hx rfl (hb hby at_56) (Steps.refl _)) ?_
    show own_Fin _ _ _ _ (T162.setTop (mkF m 57 #[.val (.int p1), .val (.int p2), .val (.int p3), .val (.int p4), .val (.int p5), .val (.int (3 : Int32)), .val (.int v6_154), .val (.int v7_155), .val (.int v8_156), .val (.int v9_157), .val (.ref b158), .unset, .unset] [(.int (2 : Int32)), (.int (3 : Int32))]))
    refine own_go (XS.icmpNo X162.here hx rfl (hb hby at_57) rfl (tlt (by decide : (2 : Int32) < (3 : Int32))).2.2.2 (Steps.refl _)) ?_
    show own_Fin _ _ _ _ (T162.setTop (mkF m 60 #[.val (.int p1), .val (.int p2), .val (.int p3), .val (.int p4), .val (.int p5), .val (.int (3 : Int32)), .val (.int v6_154), .val (.int v7_155), .val (.int v8_156), .val (.int v9_157), .val (.ref b158), .unset, .unset] []))
    refine own_go (XS.aload X162.here hx rfl (hb hby at_60) rfl rfl (Steps.refl _)) ?_
    show own_Fin _ _ _ _ (T162.setTop (mkF m 62 #[.val (.int p1), .val (.int p2), .val (.int p3), .val (.int p4), .val (.int p5), .val (.int (3 : Int32)), .val (.int v6_154), .val (.int v7_155), .val (.int v8_156), .val (.int v9_157), .val (.ref b158), .unset, .unset] [(.ref b158)]))
    refine own_go (XS.iconst X162.here hx rfl (hb hby at_62) (Steps.refl _)) ?_
    show own_Fin _ _ _ _ (T162.setTop (mkF m 63 #[.val (.int p1), .val (.int p2), .val (.int p3), .val (.int p4), .val (.int p5), .val (.int (3 : Int32)), .val (.int v6_154), .val (.int v7_155), .val (.int v8_156), .val (.int v9_157), .val (.ref b158), .unset, .unset] [(.int (2 : Int32)), (.ref b158)]))
    refine own_go (XS.iload X162.here hx rfl (hb hby at_63) rfl (Steps.refl _)) ?_
    show own_Fin _ _ _ _ (T162.setTop (mkF m 65 #[.val (.int p1), .val (.int p2), .val (.int p3), .val (.int p4), .val (.int p5), .val (.int (3 : Int32)), .val (.int v6_154), .val (.int v7_155), .val (.int v8_156), .val (.int v9_157), .val (.ref b158), .unset, .unset] [(.int v8_156), (.int (2 : Int32)), (.ref b158)]))
    obtain ⟨cl163, Ar163, qa163, Sa163, Na163, Ha163, Ga163⟩ := id V_b158_162
    have hin163 : ¬ ((2 : Int32) < 0 ∨ cl163.slots.size ≤ ((2 : Int32)).toNatClampNeg) := inb_of Sa163 ⟨by decide, by decide⟩
    obtain ⟨T164, h164, X164, e164, W164, st164⟩ := stB X162 hx hZ e162 Ar163 (j := (2 : Int32)) hin163 (g := (mkF m 65 #[.val (.int p1), .val (.int p2), .val (.int p3), .val (.int p4), .val (.int p5), .val (.int (3 : Int32)), .val (.int v6_154), .val (.int v7_155), .val (.int v8_156), .val (.int v9_157), .val (.ref b158), .unset, .unset] [(.int v8_156), (.int (2 : Int32)), (.ref b158)])) rfl rfl (hb hby at_65)
    refine own_by st164 ?_
    have hnr164 : nar .byte v8_156 = v8_156 := by rw [← hz_v8_156]; exact own_nb _
    rw [hnr164] at W164
    have V_b158_164 : Arv Z h164 b158 k158 .byte (3 : Int32) [(.int v6_154), (.int v7_155), (.int v8_156)] (.int (0 : Int32)) := Arv.set Ar163 qa163 Sa163 Na163 Ha163 Ga163 (hnr164 ▸ fits_nar_byte v8_156) W164 2 rfl (Nat.le_of_ble_eq_true rfl)
    have N164 := Fr.snoc X164 N162 g_b158
    have Z164 : n0 ≤ h164.size := Nat.le_trans Z162 (Keep.of_wr W164).1
    show own_Fin _ _ _ _ (T164.setTop (mkF m 66 #[.val (.int p1), .val (.int p2), .val (.int p3), .val (.int p4), .val (.int p5), .val (.int (3 : Int32)), .val (.int v6_154), .val (.int v7_155), .val (.int v8_156), .val (.int v9_157), .val (.ref b158), .unset, .unset] []))
    refine own_go (XS.iload X164.here hx rfl (hb hby at_66) rfl (Steps.refl _)) ?_
    show own_Fin _ _ _ _ (T164.setTop (mkF m 68 #[.val (.int p1), .val (.int p2), .val (.int p3), .val (.int p4), .val (.int p5), .val (.int (3 : Int32)), .val (.int v6_154), .val (.int v7_155), .val (.int v8_156), .val (.int v9_157), .val (.ref b158), .unset, .unset] [(.int (3 : Int32))]))
    refine own_go (XS.iconst X164.here hx rfl (hb hby at_68) (Steps.refl _)) ?_
    show own_Fin _ _ _ _ (T164.setTop (mkF m 69 #[.val (.int p1), .val (.int p2), .val (.int p3), .val (.int p4), .val (.int p5), .val (.int (3 : Int32)), .val (.int v6_154), .val (.int v7_155), .val (.int v8_156), .val (.int v9_157), .val (.ref b158), .unset, .unset] [(.int (3 : Int32)), (.int (3 : Int32))]))
    refine own_go (XS.icmpYes X164.here hx rfl (pc0 := 69) (pc' := 78) rfl (hb hby at_69) rfl (flt (by decide : ¬ ((3 : Int32) < (3 : Int32)))).2.2.2 (by decide) (by decide) (Steps.refl _)) ?_
    show own_Fin _ _ _ _ (T164.setTop (mkF m 78 #[.val (.int p1), .val (.int p2), .val (.int p3), .val (.int p4), .val (.int p5), .val (.int (3 : Int32)), .val (.int v6_154), .val (.int v7_155), .val (.int v8_156), .val (.int v9_157), .val (.ref b158), .unset, .unset] []))
    refine own_go (XS.iconst X164.here hx rfl (hb hby at_78) (Steps.refl _)) ?_
    show own_Fin _ _ _ _ (T164.setTop (mkF m 79 #[.val (.int p1), .val (.int p2), .val (.int p3), .val (.int p4), .val (.int p5), .val (.int (3 : Int32)), .val (.int v6_154), .val (.int v7_155), .val (.int v8_156), .val (.int v9_157), .val (.ref b158), .unset, .unset] [(.int (1 : Int32))]))
    refine own_go (XS.istore X164.here hx rfl (hb hby at_79) rfl (l' := #[.val (.int p1), .val (.int p2), .val (.int p3), .val (.int p4), .val (.int p5), .val (.int (3 : Int32)), .val (.int v6_154), .val (.int v7_155), .val (.int v8_156), .val (.int v9_157), .val (.ref b158), .val (.int (1 : Int32)), .unset]) rfl (Steps.refl _)) ?_
    show own_Fin _ _ _ _ (T164.setTop (mkF m 81 #[.val (.int p1), .val (.int p2), .val (.int p3), .val (.int p4), .val (.int p5), .val (.int (3 : Int32)), .val (.int v6_154), .val (.int v7_155), .val (.int v8_156), .val (.int v9_157), .val (.ref b158), .val (.int (1 : Int32)), .unset] []))
    refine own_go (XS.iload X164.here hx rfl (hb hby at_81) rfl (Steps.refl _)) ?_
    show own_Fin _ _ _ _ (T164.setTop (mkF m 83 #[.val (.int p1), .val (.int p2), .val (.int p3), .val (.int p4), .val (.int p5), .val (.int (3 : Int32)), .val (.int v6_154), .val (.int v7_155), .val (.int v8_156), .val (.int v9_157), .val (.ref b158), .val (.int (1 : Int32)), .unset] [(.int (3 : Int32))]))
    refine own_go (XS.ifNo X164.here hx rfl (hb hby at_83) rfl ((if0 _ _).trans (tlt (by decide : (0 : Int32) < (3 : Int32))).2.2.2) (Steps.refl _)) ?_
    show own_Fin _ _ _ _ (T164.setTop (mkF m 86 #[.val (.int p1), .val (.int p2), .val (.int p3), .val (.int p4), .val (.int p5), .val (.int (3 : Int32)), .val (.int v6_154), .val (.int v7_155), .val (.int v8_156), .val (.int v9_157), .val (.ref b158), .val (.int (1 : Int32)), .unset] []))
    refine own_go (XS.iload X164.here hx rfl (hb hby at_86) rfl (Steps.refl _)) ?_
    show own_Fin _ _ _ _ (T164.setTop (mkF m 88 #[.val (.int p1), .val (.int p2), .val (.int p3), .val (.int p4), .val (.int p5), .val (.int (3 : Int32)), .val (.int v6_154), .val (.int v7_155), .val (.int v8_156), .val (.int v9_157), .val (.ref b158), .val (.int (1 : Int32)), .unset] [(.int v6_154)]))
    refine own_go (XS.bipush X164.here hx rfl (hb hby at_88) (Steps.refl _)) ?_
    show own_Fin _ _ _ _ (T164.setTop (mkF m 90 #[.val (.int p1), .val (.int p2), .val (.int p3), .val (.int p4), .val (.int p5), .val (.int (3 : Int32)), .val (.int v6_154), .val (.int v7_155), .val (.int v8_156), .val (.int v9_157), .val (.ref b158), .val (.int (1 : Int32)), .unset] [(.int (34 : Int32)), (.int v6_154)]))
    have jn167 : ∀ (Tj167 : State) (Lj167 : List Loc) (xe165 : Int32), Stand p l e room_1 s m #[(.int p1), (.int p2), (.int p3), (.int p4), (.int p5)] below meth c Tj167 Lj167 1 3 → Tj167.heap = h164 → Fr n0 Lj167 → (xe165 = (if v6_154 = (34 : Int32) then (0 : Int32) else (1 : Int32))) → own_Fin p e below (G0 Z p1 p2 p3 p4 p5 h0 n0 s) (Tj167.setTop (mkF m 96 #[.val (.int p1), .val (.int p2), .val (.int p3), .val (.int p4), .val (.int p5), .val (.int (3 : Int32)), .val (.int v6_154), .val (.int v7_155), .val (.int v8_156), .val (.int v9_157), .val (.ref b158), .val (.int xe165), .unset] [])) := by
      intro Tj167 Lj167 xe165 Xj167 ej167 Nj167 hj167
      refine own_go (XS.iload Xj167.here hx rfl (hb hby at_96) rfl (Steps.refl _)) ?_
      show own_Fin _ _ _ _ (Tj167.setTop (mkF m 98 #[.val (.int p1), .val (.int p2), .val (.int p3), .val (.int p4), .val (.int p5), .val (.int (3 : Int32)), .val (.int v6_154), .val (.int v7_155), .val (.int v8_156), .val (.int v9_157), .val (.ref b158), .val (.int xe165), .unset] [(.int (3 : Int32))]))
      refine own_go (XS.ifNo Xj167.here hx rfl (hb hby at_98) rfl ((if0 _ _).trans (tlt (by decide : (0 : Int32) < (3 : Int32))).2.2.2) (Steps.refl _)) ?_
      show own_Fin _ _ _ _ (Tj167.setTop (mkF m 101 #[.val (.int p1), .val (.int p2), .val (.int p3), .val (.int p4), .val (.int p5), .val (.int (3 : Int32)), .val (.int v6_154), .val (.int v7_155), .val (.int v8_156), .val (.int v9_157), .val (.ref b158), .val (.int xe165), .unset] []))
      refine own_go (XS.iload Xj167.here hx rfl (hb hby at_101) rfl (Steps.refl _)) ?_
      show own_Fin _ _ _ _ (Tj167.setTop (mkF m 103 #[.val (.int p1), .val (.int p2), .val (.int p3), .val (.int p4), .val (.int p5), .val (.int (3 : Int32)), .val (.int v6_154), .val (.int v7_155), .val (.int v8_156), .val (.int v9_157), .val (.ref b158), .val (.int xe165), .unset] [(.int v6_154)]))
      obtain ⟨_, _, ⟨T168, L168, k168, n168⟩, -, X168, ⟨Lc168, hQ168, l168, y168, z168⟩, st168⟩ := Jvm.LawKit.callS Xj167 hx (y := (⟨"com/example/gridtally/gridtally/casefile/FieldTextIsWholePinLaw", "bad", "(B)Z"⟩ : MethodName)) hown (mvT hZ (hw _ (List.mem_of_getElem? (i := 5) rfl))) (mvT hZ (hw _ (List.mem_of_getElem? (i := 6) rfl))) (mvT hZ (hw _ (List.mem_of_getElem? (i := 7) rfl))) (mvT hZ (hw _ (List.mem_of_getElem? (i := 8) rfl))) (by decide) (backOf (W := 0) (rm2 l Z a0 hw [] v6_154 h164 n0 Z164) hZ (hw _ (List.mem_of_getElem? (i := 8) rfl)) (hw _ (List.mem_of_getElem? (i := 7) rfl)) (by decide) (by decide)) (g := (mkF m 103 #[.val (.int p1), .val (.int p2), .val (.int p3), .val (.int p4), .val (.int p5), .val (.int (3 : Int32)), .val (.int v6_154), .val (.int v7_155), .val (.int v8_156), .val (.int v9_157), .val (.ref b158), .val (.int xe165), .unset] [(.int v6_154)])) rfl (by rw [hml]; rfl) (argsL := [(.int v6_154)]) (rest := []) (lenOf pd__28_B_29_Z rfl) rfl (by show 2 * 0 + _ ≤ _; exact Nat.le_of_eq rfl) (hb hby at_103) (fun _ _ => ⟨rfl, ej167, (by decide : 1 + 0 ≤ _), (by decide : 3 + 0 ≤ _)⟩)
      dsimp only [Pt.U, Pt.locs, Pt.cells, Pt.slots] at X168 l168 y168 z168 st168 hQ168
      subst l168 y168 z168
      obtain ⟨rfl, Nq168, e168⟩ := hQ168
      refine own_by st168 ?_
      have N168 := Fr.app Nj167 Nq168
      show own_Fin _ _ _ _ (T168.setTop (mkF m 106 #[.val (.int p1), .val (.int p2), .val (.int p3), .val (.int p4), .val (.int p5), .val (.int (3 : Int32)), .val (.int v6_154), .val (.int v7_155), .val (.int v8_156), .val (.int v9_157), .val (.ref b158), .val (.int xe165), .unset] [(.int (if own_bad v6_154 then (1 : Int32) else 0))]))
      have jn171 : ∀ (Tj171 : State) (Lj171 : List Loc) (xe169 : Int32), Stand p l e room_1 s m #[(.int p1), (.int p2), (.int p3), (.int p4), (.int p5)] below meth c Tj171 Lj171 1 3 → Tj171.heap = h164 → Fr n0 Lj171 → (xe169 = (if own_bad v6_154 = true then (0 : Int32) else xe165)) → own_Fin p e below (G0 Z p1 p2 p3 p4 p5 h0 n0 s) (Tj171.setTop (mkF m 112 #[.val (.int p1), .val (.int p2), .val (.int p3), .val (.int p4), .val (.int p5), .val (.int (3 : Int32)), .val (.int v6_154), .val (.int v7_155), .val (.int v8_156), .val (.int v9_157), .val (.ref b158), .val (.int xe169), .unset] [])) := by
        intro Tj171 Lj171 xe169 Xj171 ej171 Nj171 hj171
        refine own_go (XS.iload Xj171.here hx rfl (hb hby at_112) rfl (Steps.refl _)) ?_
        show own_Fin _ _ _ _ (Tj171.setTop (mkF m 114 #[.val (.int p1), .val (.int p2), .val (.int p3), .val (.int p4), .val (.int p5), .val (.int (3 : Int32)), .val (.int v6_154), .val (.int v7_155), .val (.int v8_156), .val (.int v9_157), .val (.ref b158), .val (.int xe169), .unset] [(.int (3 : Int32))]))
        refine own_go (XS.iconst Xj171.here hx rfl (hb hby at_114) (Steps.refl _)) ?_
        show own_Fin _ _ _ _ (Tj171.setTop (mkF m 115 #[.val (.int p1), .val (.int p2), .val (.int p3), .val (.int p4), .val (.int p5), .val (.int (3 : Int32)), .val (.int v6_154), .val (.int v7_155), .val (.int v8_156), .val (.int v9_157), .val (.ref b158), .val (.int xe169), .unset] [(.int (1 : Int32)), (.int (3 : Int32))]))
        refine own_go (XS.icmpNo Xj171.here hx rfl (hb hby at_115) rfl (tlt (by decide : (1 : Int32) < (3 : Int32))).2.2.2 (Steps.refl _)) ?_
        show own_Fin _ _ _ _ (Tj171.setTop (mkF m 118 #[.val (.int p1), .val (.int p2), .val (.int p3), .val (.int p4), .val (.int p5), .val (.int (3 : Int32)), .val (.int v6_154), .val (.int v7_155), .val (.int v8_156), .val (.int v9_157), .val (.ref b158), .val (.int xe169), .unset] []))
        refine own_go (XS.iload Xj171.here hx rfl (hb hby at_118) rfl (Steps.refl _)) ?_
        show own_Fin _ _ _ _ (Tj171.setTop (mkF m 120 #[.val (.int p1), .val (.int p2), .val (.int p3), .val (.int p4), .val (.int p5), .val (.int (3 : Int32)), .val (.int v6_154), .val (.int v7_155), .val (.int v8_156), .val (.int v9_157), .val (.ref b158), .val (.int xe169), .unset] [(.int v7_155)]))
        obtain ⟨_, _, ⟨T172, L172, k172, n172⟩, -, X172, ⟨Lc172, hQ172, l172, y172, z172⟩, st172⟩ := Jvm.LawKit.callS Xj171 hx (y := (⟨"com/example/gridtally/gridtally/casefile/FieldTextIsWholePinLaw", "bad", "(B)Z"⟩ : MethodName)) hown (mvT hZ (hw _ (List.mem_of_getElem? (i := 5) rfl))) (mvT hZ (hw _ (List.mem_of_getElem? (i := 6) rfl))) (mvT hZ (hw _ (List.mem_of_getElem? (i := 7) rfl))) (mvT hZ (hw _ (List.mem_of_getElem? (i := 8) rfl))) (by decide) (backOf (W := 0) (rm2 l Z a0 hw [] v7_155 h164 n0 Z164) hZ (hw _ (List.mem_of_getElem? (i := 8) rfl)) (hw _ (List.mem_of_getElem? (i := 7) rfl)) (by decide) (by decide)) (g := (mkF m 120 #[.val (.int p1), .val (.int p2), .val (.int p3), .val (.int p4), .val (.int p5), .val (.int (3 : Int32)), .val (.int v6_154), .val (.int v7_155), .val (.int v8_156), .val (.int v9_157), .val (.ref b158), .val (.int xe169), .unset] [(.int v7_155)])) rfl (by rw [hml]; rfl) (argsL := [(.int v7_155)]) (rest := []) (lenOf pd__28_B_29_Z rfl) rfl (by show 2 * 0 + _ ≤ _; exact Nat.le_of_eq rfl) (hb hby at_120) (fun _ _ => ⟨rfl, ej171, (by decide : 1 + 0 ≤ _), (by decide : 3 + 0 ≤ _)⟩)
        dsimp only [Pt.U, Pt.locs, Pt.cells, Pt.slots] at X172 l172 y172 z172 st172 hQ172
        subst l172 y172 z172
        obtain ⟨rfl, Nq172, e172⟩ := hQ172
        refine own_by st172 ?_
        have N172 := Fr.app Nj171 Nq172
        show own_Fin _ _ _ _ (T172.setTop (mkF m 123 #[.val (.int p1), .val (.int p2), .val (.int p3), .val (.int p4), .val (.int p5), .val (.int (3 : Int32)), .val (.int v6_154), .val (.int v7_155), .val (.int v8_156), .val (.int v9_157), .val (.ref b158), .val (.int xe169), .unset] [(.int (if own_bad v7_155 then (1 : Int32) else 0))]))
        have jn175 : ∀ (Tj175 : State) (Lj175 : List Loc) (xe173 : Int32), Stand p l e room_1 s m #[(.int p1), (.int p2), (.int p3), (.int p4), (.int p5)] below meth c Tj175 Lj175 1 3 → Tj175.heap = h164 → Fr n0 Lj175 → (xe173 = (if own_bad v7_155 = true then (0 : Int32) else xe169)) → own_Fin p e below (G0 Z p1 p2 p3 p4 p5 h0 n0 s) (Tj175.setTop (mkF m 129 #[.val (.int p1), .val (.int p2), .val (.int p3), .val (.int p4), .val (.int p5), .val (.int (3 : Int32)), .val (.int v6_154), .val (.int v7_155), .val (.int v8_156), .val (.int v9_157), .val (.ref b158), .val (.int xe173), .unset] [])) := by
          intro Tj175 Lj175 xe173 Xj175 ej175 Nj175 hj175
          refine own_go (XS.iload Xj175.here hx rfl (hb hby at_129) rfl (Steps.refl _)) ?_
          show own_Fin _ _ _ _ (Tj175.setTop (mkF m 131 #[.val (.int p1), .val (.int p2), .val (.int p3), .val (.int p4), .val (.int p5), .val (.int (3 : Int32)), .val (.int v6_154), .val (.int v7_155), .val (.int v8_156), .val (.int v9_157), .val (.ref b158), .val (.int xe173), .unset] [(.int (3 : Int32))]))
          refine own_go (XS.iconst Xj175.here hx rfl (hb hby at_131) (Steps.refl _)) ?_
          show own_Fin _ _ _ _ (Tj175.setTop (mkF m 132 #[.val (.int p1), .val (.int p2), .val (.int p3), .val (.int p4), .val (.int p5), .val (.int (3 : Int32)), .val (.int v6_154), .val (.int v7_155), .val (.int v8_156), .val (.int v9_157), .val (.ref b158), .val (.int xe173), .unset] [(.int (2 : Int32)), (.int (3 : Int32))]))
          refine own_go (XS.icmpNo Xj175.here hx rfl (hb hby at_132) rfl (tlt (by decide : (2 : Int32) < (3 : Int32))).2.2.2 (Steps.refl _)) ?_
          show own_Fin _ _ _ _ (Tj175.setTop (mkF m 135 #[.val (.int p1), .val (.int p2), .val (.int p3), .val (.int p4), .val (.int p5), .val (.int (3 : Int32)), .val (.int v6_154), .val (.int v7_155), .val (.int v8_156), .val (.int v9_157), .val (.ref b158), .val (.int xe173), .unset] []))
          refine own_go (XS.iload Xj175.here hx rfl (hb hby at_135) rfl (Steps.refl _)) ?_
          show own_Fin _ _ _ _ (Tj175.setTop (mkF m 137 #[.val (.int p1), .val (.int p2), .val (.int p3), .val (.int p4), .val (.int p5), .val (.int (3 : Int32)), .val (.int v6_154), .val (.int v7_155), .val (.int v8_156), .val (.int v9_157), .val (.ref b158), .val (.int xe173), .unset] [(.int v8_156)]))
          obtain ⟨_, _, ⟨T176, L176, k176, n176⟩, -, X176, ⟨Lc176, hQ176, l176, y176, z176⟩, st176⟩ := Jvm.LawKit.callS Xj175 hx (y := (⟨"com/example/gridtally/gridtally/casefile/FieldTextIsWholePinLaw", "bad", "(B)Z"⟩ : MethodName)) hown (mvT hZ (hw _ (List.mem_of_getElem? (i := 5) rfl))) (mvT hZ (hw _ (List.mem_of_getElem? (i := 6) rfl))) (mvT hZ (hw _ (List.mem_of_getElem? (i := 7) rfl))) (mvT hZ (hw _ (List.mem_of_getElem? (i := 8) rfl))) (by decide) (backOf (W := 0) (rm2 l Z a0 hw [] v8_156 h164 n0 Z164) hZ (hw _ (List.mem_of_getElem? (i := 8) rfl)) (hw _ (List.mem_of_getElem? (i := 7) rfl)) (by decide) (by decide)) (g := (mkF m 137 #[.val (.int p1), .val (.int p2), .val (.int p3), .val (.int p4), .val (.int p5), .val (.int (3 : Int32)), .val (.int v6_154), .val (.int v7_155), .val (.int v8_156), .val (.int v9_157), .val (.ref b158), .val (.int xe173), .unset] [(.int v8_156)])) rfl (by rw [hml]; rfl) (argsL := [(.int v8_156)]) (rest := []) (lenOf pd__28_B_29_Z rfl) rfl (by show 2 * 0 + _ ≤ _; exact Nat.le_of_eq rfl) (hb hby at_137) (fun _ _ => ⟨rfl, ej175, (by decide : 1 + 0 ≤ _), (by decide : 3 + 0 ≤ _)⟩)
          dsimp only [Pt.U, Pt.locs, Pt.cells, Pt.slots] at X176 l176 y176 z176 st176 hQ176
          subst l176 y176 z176
          obtain ⟨rfl, Nq176, e176⟩ := hQ176
          refine own_by st176 ?_
          have N176 := Fr.app Nj175 Nq176
          show own_Fin _ _ _ _ (T176.setTop (mkF m 140 #[.val (.int p1), .val (.int p2), .val (.int p3), .val (.int p4), .val (.int p5), .val (.int (3 : Int32)), .val (.int v6_154), .val (.int v7_155), .val (.int v8_156), .val (.int v9_157), .val (.ref b158), .val (.int xe173), .unset] [(.int (if own_bad v8_156 then (1 : Int32) else 0))]))
          have jn179 : ∀ (Tj179 : State) (Lj179 : List Loc) (xe177 : Int32), Stand p l e room_1 s m #[(.int p1), (.int p2), (.int p3), (.int p4), (.int p5)] below meth c Tj179 Lj179 1 3 → Tj179.heap = h164 → Fr n0 Lj179 → (xe177 = (if own_bad v8_156 = true then (0 : Int32) else xe173)) → own_Fin p e below (G0 Z p1 p2 p3 p4 p5 h0 n0 s) (Tj179.setTop (mkF m 146 #[.val (.int p1), .val (.int p2), .val (.int p3), .val (.int p4), .val (.int p5), .val (.int (3 : Int32)), .val (.int v6_154), .val (.int v7_155), .val (.int v8_156), .val (.int v9_157), .val (.ref b158), .val (.int xe177), .unset] [])) := by
            intro Tj179 Lj179 xe177 Xj179 ej179 Nj179 hj179
            refine own_go (XS.iload Xj179.here hx rfl (hb hby at_146) rfl (Steps.refl _)) ?_
            show own_Fin _ _ _ _ (Tj179.setTop (mkF m 148 #[.val (.int p1), .val (.int p2), .val (.int p3), .val (.int p4), .val (.int p5), .val (.int (3 : Int32)), .val (.int v6_154), .val (.int v7_155), .val (.int v8_156), .val (.int v9_157), .val (.ref b158), .val (.int xe177), .unset] [(.int (3 : Int32))]))
            refine own_go (XS.iconst Xj179.here hx rfl (hb hby at_148) (Steps.refl _)) ?_
            show own_Fin _ _ _ _ (Tj179.setTop (mkF m 149 #[.val (.int p1), .val (.int p2), .val (.int p3), .val (.int p4), .val (.int p5), .val (.int (3 : Int32)), .val (.int v6_154), .val (.int v7_155), .val (.int v8_156), .val (.int v9_157), .val (.ref b158), .val (.int xe177), .unset] [(.int (3 : Int32)), (.int (3 : Int32))]))
            refine own_go (XS.icmpYes Xj179.here hx rfl (pc0 := 149) (pc' := 163) rfl (hb hby at_149) rfl (flt (by decide : ¬ ((3 : Int32) < (3 : Int32)))).2.2.2 (by decide) (by decide) (Steps.refl _)) ?_
            show own_Fin _ _ _ _ (Tj179.setTop (mkF m 163 #[.val (.int p1), .val (.int p2), .val (.int p3), .val (.int p4), .val (.int p5), .val (.int (3 : Int32)), .val (.int v6_154), .val (.int v7_155), .val (.int v8_156), .val (.int v9_157), .val (.ref b158), .val (.int xe177), .unset] []))
            refine own_go (XS.aload Xj179.here hx rfl (hb hby at_163) rfl rfl (Steps.refl _)) ?_
            show own_Fin _ _ _ _ (Tj179.setTop (mkF m 165 #[.val (.int p1), .val (.int p2), .val (.int p3), .val (.int p4), .val (.int p5), .val (.int (3 : Int32)), .val (.int v6_154), .val (.int v7_155), .val (.int v8_156), .val (.int v9_157), .val (.ref b158), .val (.int xe177), .unset] [(.ref b158)]))
            obtain ⟨_, _, ⟨T180, L180, k180, n180⟩, -, X180, ⟨Lc180, hQ180, l180, y180, z180⟩, st180⟩ := Jvm.LawKit.callS Xj179 hx (y := (⟨"com/example/gridtally/gridtally/casefile/FieldText", "isWhole", "([B)Z"⟩ : MethodName)) hown (mvT hZ (hw _ (List.mem_of_getElem? (i := 1) rfl))) (mvT hZ (hw _ (List.mem_of_getElem? (i := 2) rfl))) (mvT hZ (hw _ (List.mem_of_getElem? (i := 3) rfl))) (mvT hZ (hw _ (List.mem_of_getElem? (i := 4) rfl))) (by decide) (backOf (W := 0) (rm1_3 l Z a0 hw [] b158 k158 v6_154 v7_155 v8_156 h164 n0 Z164 V_b158_164) hZ (hw _ (List.mem_of_getElem? (i := 4) rfl)) (hw _ (List.mem_of_getElem? (i := 3) rfl)) (by decide) (by decide)) (g := (mkF m 165 #[.val (.int p1), .val (.int p2), .val (.int p3), .val (.int p4), .val (.int p5), .val (.int (3 : Int32)), .val (.int v6_154), .val (.int v7_155), .val (.int v8_156), .val (.int v9_157), .val (.ref b158), .val (.int xe177), .unset] [(.ref b158)])) rfl (by rw [hml]; rfl) (argsL := [(.ref b158)]) (rest := []) (lenOf pd__28__5b_B_29_Z rfl) rfl (by show 2 * 0 + _ ≤ _; exact Nat.le_of_eq rfl) (hb hby at_165) (fun _ _ => ⟨rfl, ej179, (by decide : 1 + 0 ≤ _), (by decide : 3 + 0 ≤ _)⟩)
            dsimp only [Pt.U, Pt.locs, Pt.cells, Pt.slots] at X180 l180 y180 z180 st180 hQ180
            subst l180 y180 z180
            obtain ⟨rfl, Nq180, e180⟩ := hQ180
            refine own_by st180 ?_
            have N180 := Fr.app Nj179 Nq180
            show own_Fin _ _ _ _ (T180.setTop (mkF m 168 #[.val (.int p1), .val (.int p2), .val (.int p3), .val (.int p4), .val (.int p5), .val (.int (3 : Int32)), .val (.int v6_154), .val (.int v7_155), .val (.int v8_156), .val (.int v9_157), .val (.ref b158), .val (.int xe177), .unset] [(.int (if (decide (v6_154 = 34) || own_bad v6_154 || own_bad v7_155 || own_bad v8_156) then (0 : Int32) else 1))]))
            refine own_go (XS.istore X180.here hx rfl (hb hby at_168) rfl (l' := #[.val (.int p1), .val (.int p2), .val (.int p3), .val (.int p4), .val (.int p5), .val (.int (3 : Int32)), .val (.int v6_154), .val (.int v7_155), .val (.int v8_156), .val (.int v9_157), .val (.ref b158), .val (.int xe177), .val (.int (if (decide (v6_154 = 34) || own_bad v6_154 || own_bad v7_155 || own_bad v8_156) then (0 : Int32) else 1))]) rfl (Steps.refl _)) ?_
            show own_Fin _ _ _ _ (T180.setTop (mkF m 170 #[.val (.int p1), .val (.int p2), .val (.int p3), .val (.int p4), .val (.int p5), .val (.int (3 : Int32)), .val (.int v6_154), .val (.int v7_155), .val (.int v8_156), .val (.int v9_157), .val (.ref b158), .val (.int xe177), .val (.int (if (decide (v6_154 = 34) || own_bad v6_154 || own_bad v7_155 || own_bad v8_156) then (0 : Int32) else 1))] []))
            generalize hz_v12_181 : (if (decide (v6_154 = 34) || own_bad v6_154 || own_bad v7_155 || own_bad v8_156) then (0 : Int32) else 1) = v12_181
            refine own_go (XS.iload X180.here hx rfl (hb hby at_170) rfl (Steps.refl _)) ?_
            show own_Fin _ _ _ _ (T180.setTop (mkF m 172 #[.val (.int p1), .val (.int p2), .val (.int p3), .val (.int p4), .val (.int p5), .val (.int (3 : Int32)), .val (.int v6_154), .val (.int v7_155), .val (.int v8_156), .val (.int v9_157), .val (.ref b158), .val (.int xe177), .val (.int v12_181)] [(.int v12_181)]))
            refine own_go (XS.iload X180.here hx rfl (hb hby at_172) rfl (Steps.refl _)) ?_
            show own_Fin _ _ _ _ (T180.setTop (mkF m 174 #[.val (.int p1), .val (.int p2), .val (.int p3), .val (.int p4), .val (.int p5), .val (.int (3 : Int32)), .val (.int v6_154), .val (.int v7_155), .val (.int v8_156), .val (.int v9_157), .val (.ref b158), .val (.int xe177), .val (.int v12_181)] [(.int xe177), (.int v12_181)]))
            refine own_go (XS.icmpNo X180.here hx rfl (hb hby at_174) rfl (teq (show v12_181 = xe177 from by rw [← hz_v12_181, hj179, hj175, hj171, hj167]; cases own_bad v6_154 <;> cases own_bad v7_155 <;> cases own_bad v8_156 <;>  by_cases q : v6_154 = (34 : Int32) <;> simp [q])).2 (Steps.refl _)) ?_
            show own_Fin _ _ _ _ (T180.setTop (mkF m 177 #[.val (.int p1), .val (.int p2), .val (.int p3), .val (.int p4), .val (.int p5), .val (.int (3 : Int32)), .val (.int v6_154), .val (.int v7_155), .val (.int v8_156), .val (.int v9_157), .val (.ref b158), .val (.int xe177), .val (.int v12_181)] []))
            refine own_go (XS.iconst X180.here hx rfl (hb hby at_177) (Steps.refl _)) ?_
            show own_Fin _ _ _ _ (T180.setTop (mkF m 178 #[.val (.int p1), .val (.int p2), .val (.int p3), .val (.int p4), .val (.int p5), .val (.int (3 : Int32)), .val (.int v6_154), .val (.int v7_155), .val (.int v8_156), .val (.int v9_157), .val (.ref b158), .val (.int xe177), .val (.int v12_181)] [(.int (1 : Int32))]))
            refine own_go (XS.goto X180.here hx rfl (pc0 := 178) (pc' := 182) rfl (hb hby at_178) (by decide) (by decide) (Steps.refl _)) ?_
            show own_Fin _ _ _ _ (T180.setTop (mkF m 182 #[.val (.int p1), .val (.int p2), .val (.int p3), .val (.int p4), .val (.int p5), .val (.int (3 : Int32)), .val (.int v6_154), .val (.int v7_155), .val (.int v8_156), .val (.int v9_157), .val (.ref b158), .val (.int xe177), .val (.int v12_181)] [(.int (1 : Int32))]))
            obtain ⟨fs182, hr182, hrun182, hended182, hW182, hsame182⟩ := X180.leave (v := some (.int (1 : Int32))) (fun h => by rw [Bd.returns] at h; cases h)
            refine own_done (retN X180 hx (t := .boolean) Bd.returns (by simp) (hb hby at_182) hr182) hrun182 hended182 ⟨_, _, rfl, ?_, ⟨_, rfl⟩, hW182, hsame182.mono (by decide) (by decide)⟩
            show Q0 Z p1 p2 p3 p4 p5 h0 n0 _ T180.heap _
            rw [e180]
            exact ⟨rfl, N180⟩
          by_cases c178 : own_bad v8_156 = true
          · refine own_go (XS.ifNo X176.here hx rfl (hb hby at_140) rfl ((if0 _ _).trans (feq (show ¬ ((if own_bad v8_156 then (1 : Int32) else 0) = (0 : Int32)) from by simp [c178])).1) (Steps.refl _)) ?_
            show own_Fin _ _ _ _ (T176.setTop (mkF m 143 #[.val (.int p1), .val (.int p2), .val (.int p3), .val (.int p4), .val (.int p5), .val (.int (3 : Int32)), .val (.int v6_154), .val (.int v7_155), .val (.int v8_156), .val (.int v9_157), .val (.ref b158), .val (.int xe173), .unset] []))
            refine own_go (XS.iconst X176.here hx rfl (hb hby at_143) (Steps.refl _)) ?_
            show own_Fin _ _ _ _ (T176.setTop (mkF m 144 #[.val (.int p1), .val (.int p2), .val (.int p3), .val (.int p4), .val (.int p5), .val (.int (3 : Int32)), .val (.int v6_154), .val (.int v7_155), .val (.int v8_156), .val (.int v9_157), .val (.ref b158), .val (.int xe173), .unset] [(.int (0 : Int32))]))
            refine own_go (XS.istore X176.here hx rfl (hb hby at_144) rfl (l' := #[.val (.int p1), .val (.int p2), .val (.int p3), .val (.int p4), .val (.int p5), .val (.int (3 : Int32)), .val (.int v6_154), .val (.int v7_155), .val (.int v8_156), .val (.int v9_157), .val (.ref b158), .val (.int (0 : Int32)), .unset]) rfl (Steps.refl _)) ?_
            show own_Fin _ _ _ _ (T176.setTop (mkF m 146 #[.val (.int p1), .val (.int p2), .val (.int p3), .val (.int p4), .val (.int p5), .val (.int (3 : Int32)), .val (.int v6_154), .val (.int v7_155), .val (.int v8_156), .val (.int v9_157), .val (.ref b158), .val (.int (0 : Int32)), .unset] []))
            exact jn179 T176 _ (0 : Int32) X176 e176 N176 (by simp [c178])
          · refine own_go (XS.ifYes X176.here hx rfl (pc0 := 140) (pc' := 146) rfl (hb hby at_140) rfl ((if0 _ _).trans (teq (show (if own_bad v8_156 then (1 : Int32) else 0) = (0 : Int32) from by simp [c178])).1) (by decide) (by decide) (Steps.refl _)) ?_
            show own_Fin _ _ _ _ (T176.setTop (mkF m 146 #[.val (.int p1), .val (.int p2), .val (.int p3), .val (.int p4), .val (.int p5), .val (.int (3 : Int32)), .val (.int v6_154), .val (.int v7_155), .val (.int v8_156), .val (.int v9_157), .val (.ref b158), .val (.int xe173), .unset] []))
            exact jn179 T176 _ xe173 X176 e176 N176 (by simp [c178])
        by_cases c174 : own_bad v7_155 = true
        · refine own_go (XS.ifNo X172.here hx rfl (hb hby at_123) rfl ((if0 _ _).trans (feq (show ¬ ((if own_bad v7_155 then (1 : Int32) else 0) = (0 : Int32)) from by simp [c174])).1) (Steps.refl _)) ?_
          show own_Fin _ _ _ _ (T172.setTop (mkF m 126 #[.val (.int p1), .val (.int p2), .val (.int p3), .val (.int p4), .val (.int p5), .val (.int (3 : Int32)), .val (.int v6_154), .val (.int v7_155), .val (.int v8_156), .val (.int v9_157), .val (.ref b158), .val (.int xe169), .unset] []))
          refine own_go (XS.iconst X172.here hx rfl (hb hby at_126) (Steps.refl _)) ?_
          show own_Fin _ _ _ _ (T172.setTop (mkF m 127 #[.val (.int p1), .val (.int p2), .val (.int p3), .val (.int p4), .val (.int p5), .val (.int (3 : Int32)), .val (.int v6_154), .val (.int v7_155), .val (.int v8_156), .val (.int v9_157), .val (.ref b158), .val (.int xe169), .unset] [(.int (0 : Int32))]))
          refine own_go (XS.istore X172.here hx rfl (hb hby at_127) rfl (l' := #[.val (.int p1), .val (.int p2), .val (.int p3), .val (.int p4), .val (.int p5), .val (.int (3 : Int32)), .val (.int v6_154), .val (.int v7_155), .val (.int v8_156), .val (.int v9_157), .val (.ref b158), .val (.int (0 : Int32)), .unset]) rfl (Steps.refl _)) ?_
          show own_Fin _ _ _ _ (T172.setTop (mkF m 129 #[.val (.int p1), .val (.int p2), .val (.int p3), .val (.int p4), .val (.int p5), .val (.int (3 : Int32)), .val (.int v6_154), .val (.int v7_155), .val (.int v8_156), .val (.int v9_157), .val (.ref b158), .val (.int (0 : Int32)), .unset] []))
          exact jn175 T172 _ (0 : Int32) X172 e172 N172 (by simp [c174])
        · refine own_go (XS.ifYes X172.here hx rfl (pc0 := 123) (pc' := 129) rfl (hb hby at_123) rfl ((if0 _ _).trans (teq (show (if own_bad v7_155 then (1 : Int32) else 0) = (0 : Int32) from by simp [c174])).1) (by decide) (by decide) (Steps.refl _)) ?_
          show own_Fin _ _ _ _ (T172.setTop (mkF m 129 #[.val (.int p1), .val (.int p2), .val (.int p3), .val (.int p4), .val (.int p5), .val (.int (3 : Int32)), .val (.int v6_154), .val (.int v7_155), .val (.int v8_156), .val (.int v9_157), .val (.ref b158), .val (.int xe169), .unset] []))
          exact jn175 T172 _ xe169 X172 e172 N172 (by simp [c174])
      by_cases c170 : own_bad v6_154 = true
      · refine own_go (XS.ifNo X168.here hx rfl (hb hby at_106) rfl ((if0 _ _).trans (feq (show ¬ ((if own_bad v6_154 then (1 : Int32) else 0) = (0 : Int32)) from by simp [c170])).1) (Steps.refl _)) ?_
        show own_Fin _ _ _ _ (T168.setTop (mkF m 109 #[.val (.int p1), .val (.int p2), .val (.int p3), .val (.int p4), .val (.int p5), .val (.int (3 : Int32)), .val (.int v6_154), .val (.int v7_155), .val (.int v8_156), .val (.int v9_157), .val (.ref b158), .val (.int xe165), .unset] []))
        refine own_go (XS.iconst X168.here hx rfl (hb hby at_109) (Steps.refl _)) ?_
        show own_Fin _ _ _ _ (T168.setTop (mkF m 110 #[.val (.int p1), .val (.int p2), .val (.int p3), .val (.int p4), .val (.int p5), .val (.int (3 : Int32)), .val (.int v6_154), .val (.int v7_155), .val (.int v8_156), .val (.int v9_157), .val (.ref b158), .val (.int xe165), .unset] [(.int (0 : Int32))]))
        refine own_go (XS.istore X168.here hx rfl (hb hby at_110) rfl (l' := #[.val (.int p1), .val (.int p2), .val (.int p3), .val (.int p4), .val (.int p5), .val (.int (3 : Int32)), .val (.int v6_154), .val (.int v7_155), .val (.int v8_156), .val (.int v9_157), .val (.ref b158), .val (.int (0 : Int32)), .unset]) rfl (Steps.refl _)) ?_
        show own_Fin _ _ _ _ (T168.setTop (mkF m 112 #[.val (.int p1), .val (.int p2), .val (.int p3), .val (.int p4), .val (.int p5), .val (.int (3 : Int32)), .val (.int v6_154), .val (.int v7_155), .val (.int v8_156), .val (.int v9_157), .val (.ref b158), .val (.int (0 : Int32)), .unset] []))
        exact jn171 T168 _ (0 : Int32) X168 e168 N168 (by simp [c170])
      · refine own_go (XS.ifYes X168.here hx rfl (pc0 := 106) (pc' := 112) rfl (hb hby at_106) rfl ((if0 _ _).trans (teq (show (if own_bad v6_154 then (1 : Int32) else 0) = (0 : Int32) from by simp [c170])).1) (by decide) (by decide) (Steps.refl _)) ?_
        show own_Fin _ _ _ _ (T168.setTop (mkF m 112 #[.val (.int p1), .val (.int p2), .val (.int p3), .val (.int p4), .val (.int p5), .val (.int (3 : Int32)), .val (.int v6_154), .val (.int v7_155), .val (.int v8_156), .val (.int v9_157), .val (.ref b158), .val (.int xe165), .unset] []))
        exact jn171 T168 _ xe165 X168 e168 N168 (by simp [c170])
    by_cases c166 : v6_154 = (34 : Int32)
    · refine own_go (XS.icmpNo X164.here hx rfl (hb hby at_90) rfl (teq c166).2 (Steps.refl _)) ?_
      show own_Fin _ _ _ _ (T164.setTop (mkF m 93 #[.val (.int p1), .val (.int p2), .val (.int p3), .val (.int p4), .val (.int p5), .val (.int (3 : Int32)), .val (.int v6_154), .val (.int v7_155), .val (.int v8_156), .val (.int v9_157), .val (.ref b158), .val (.int (1 : Int32)), .unset] []))
      refine own_go (XS.iconst X164.here hx rfl (hb hby at_93) (Steps.refl _)) ?_
      show own_Fin _ _ _ _ (T164.setTop (mkF m 94 #[.val (.int p1), .val (.int p2), .val (.int p3), .val (.int p4), .val (.int p5), .val (.int (3 : Int32)), .val (.int v6_154), .val (.int v7_155), .val (.int v8_156), .val (.int v9_157), .val (.ref b158), .val (.int (1 : Int32)), .unset] [(.int (0 : Int32))]))
      refine own_go (XS.istore X164.here hx rfl (hb hby at_94) rfl (l' := #[.val (.int p1), .val (.int p2), .val (.int p3), .val (.int p4), .val (.int p5), .val (.int (3 : Int32)), .val (.int v6_154), .val (.int v7_155), .val (.int v8_156), .val (.int v9_157), .val (.ref b158), .val (.int (0 : Int32)), .unset]) rfl (Steps.refl _)) ?_
      show own_Fin _ _ _ _ (T164.setTop (mkF m 96 #[.val (.int p1), .val (.int p2), .val (.int p3), .val (.int p4), .val (.int p5), .val (.int (3 : Int32)), .val (.int v6_154), .val (.int v7_155), .val (.int v8_156), .val (.int v9_157), .val (.ref b158), .val (.int (0 : Int32)), .unset] []))
      exact jn167 T164 _ (0 : Int32) X164 e164 N164 (by simp [c166])
    · refine own_go (XS.icmpYes X164.here hx rfl (pc0 := 90) (pc' := 96) rfl (hb hby at_90) rfl (feq c166).2 (by decide) (by decide) (Steps.refl _)) ?_
      show own_Fin _ _ _ _ (T164.setTop (mkF m 96 #[.val (.int p1), .val (.int p2), .val (.int p3), .val (.int p4), .val (.int p5), .val (.int (3 : Int32)), .val (.int v6_154), .val (.int v7_155), .val (.int v8_156), .val (.int v9_157), .val (.ref b158), .val (.int (1 : Int32)), .unset] []))
      exact jn167 T164 _ (1 : Int32) X164 e164 N164 (by simp [c166])
  · show own_Fin _ _ _ _ (s₁.setTop (mkF m 8 #[.val (.int p1), .val (.int p2), .val (.int p3), .val (.int p4), .val (.int p5), .val (.int (4 : Int32)), .unset, .unset, .unset, .unset, .unset, .unset, .unset] []))
    refine own_go (XS.iloadN X0.here hx rfl (hb hby at_8) rfl (Steps.refl _)) ?_
    show own_Fin _ _ _ _ (s₁.setTop (mkF m 9 #[.val (.int p1), .val (.int p2), .val (.int p3), .val (.int p4), .val (.int p5), .val (.int (4 : Int32)), .unset, .unset, .unset, .unset, .unset, .unset, .unset] [(.int p2)]))
    refine own_go (XS.i2b X0.here hx rfl (hb hby at_9) rfl (Steps.refl _)) ?_
    show own_Fin _ _ _ _ (s₁.setTop (mkF m 10 #[.val (.int p1), .val (.int p2), .val (.int p3), .val (.int p4), .val (.int p5), .val (.int (4 : Int32)), .unset, .unset, .unset, .unset, .unset, .unset, .unset] [(.int (p2.toInt8.toInt32))]))
    refine own_go (XS.istore X0.here hx rfl (hb hby at_10) rfl (l' := #[.val (.int p1), .val (.int p2), .val (.int p3), .val (.int p4), .val (.int p5), .val (.int (4 : Int32)), .val (.int (p2.toInt8.toInt32)), .unset, .unset, .unset, .unset, .unset, .unset]) rfl (Steps.refl _)) ?_
    show own_Fin _ _ _ _ (s₁.setTop (mkF m 12 #[.val (.int p1), .val (.int p2), .val (.int p3), .val (.int p4), .val (.int p5), .val (.int (4 : Int32)), .val (.int (p2.toInt8.toInt32)), .unset, .unset, .unset, .unset, .unset, .unset] []))
    generalize hz_v6_183 : (p2.toInt8.toInt32) = v6_183
    refine own_go (XS.iloadN X0.here hx rfl (hb hby at_12) rfl (Steps.refl _)) ?_
    show own_Fin _ _ _ _ (s₁.setTop (mkF m 13 #[.val (.int p1), .val (.int p2), .val (.int p3), .val (.int p4), .val (.int p5), .val (.int (4 : Int32)), .val (.int v6_183), .unset, .unset, .unset, .unset, .unset, .unset] [(.int p3)]))
    refine own_go (XS.i2b X0.here hx rfl (hb hby at_13) rfl (Steps.refl _)) ?_
    show own_Fin _ _ _ _ (s₁.setTop (mkF m 14 #[.val (.int p1), .val (.int p2), .val (.int p3), .val (.int p4), .val (.int p5), .val (.int (4 : Int32)), .val (.int v6_183), .unset, .unset, .unset, .unset, .unset, .unset] [(.int (p3.toInt8.toInt32))]))
    refine own_go (XS.istore X0.here hx rfl (hb hby at_14) rfl (l' := #[.val (.int p1), .val (.int p2), .val (.int p3), .val (.int p4), .val (.int p5), .val (.int (4 : Int32)), .val (.int v6_183), .val (.int (p3.toInt8.toInt32)), .unset, .unset, .unset, .unset, .unset]) rfl (Steps.refl _)) ?_
    show own_Fin _ _ _ _ (s₁.setTop (mkF m 16 #[.val (.int p1), .val (.int p2), .val (.int p3), .val (.int p4), .val (.int p5), .val (.int (4 : Int32)), .val (.int v6_183), .val (.int (p3.toInt8.toInt32)), .unset, .unset, .unset, .unset, .unset] []))
    generalize hz_v7_184 : (p3.toInt8.toInt32) = v7_184
    refine own_go (XS.iloadN X0.here hx rfl (hb hby at_16) rfl (Steps.refl _)) ?_
    show own_Fin _ _ _ _ (s₁.setTop (mkF m 17 #[.val (.int p1), .val (.int p2), .val (.int p3), .val (.int p4), .val (.int p5), .val (.int (4 : Int32)), .val (.int v6_183), .val (.int v7_184), .unset, .unset, .unset, .unset, .unset] [(.int p4)]))
    refine own_go (XS.i2b X0.here hx rfl (hb hby at_17) rfl (Steps.refl _)) ?_
    show own_Fin _ _ _ _ (s₁.setTop (mkF m 18 #[.val (.int p1), .val (.int p2), .val (.int p3), .val (.int p4), .val (.int p5), .val (.int (4 : Int32)), .val (.int v6_183), .val (.int v7_184), .unset, .unset, .unset, .unset, .unset] [(.int (p4.toInt8.toInt32))]))
    refine own_go (XS.istore X0.here hx rfl (hb hby at_18) rfl (l' := #[.val (.int p1), .val (.int p2), .val (.int p3), .val (.int p4), .val (.int p5), .val (.int (4 : Int32)), .val (.int v6_183), .val (.int v7_184), .val (.int (p4.toInt8.toInt32)), .unset, .unset, .unset, .unset]) rfl (Steps.refl _)) ?_
    show own_Fin _ _ _ _ (s₁.setTop (mkF m 20 #[.val (.int p1), .val (.int p2), .val (.int p3), .val (.int p4), .val (.int p5), .val (.int (4 : Int32)), .val (.int v6_183), .val (.int v7_184), .val (.int (p4.toInt8.toInt32)), .unset, .unset, .unset, .unset] []))
    generalize hz_v8_185 : (p4.toInt8.toInt32) = v8_185
    refine own_go (XS.iload X0.here hx rfl (hb hby at_20) rfl (Steps.refl _)) ?_
    show own_Fin _ _ _ _ (s₁.setTop (mkF m 22 #[.val (.int p1), .val (.int p2), .val (.int p3), .val (.int p4), .val (.int p5), .val (.int (4 : Int32)), .val (.int v6_183), .val (.int v7_184), .val (.int v8_185), .unset, .unset, .unset, .unset] [(.int p5)]))
    refine own_go (XS.i2b X0.here hx rfl (hb hby at_22) rfl (Steps.refl _)) ?_
    show own_Fin _ _ _ _ (s₁.setTop (mkF m 23 #[.val (.int p1), .val (.int p2), .val (.int p3), .val (.int p4), .val (.int p5), .val (.int (4 : Int32)), .val (.int v6_183), .val (.int v7_184), .val (.int v8_185), .unset, .unset, .unset, .unset] [(.int (p5.toInt8.toInt32))]))
    refine own_go (XS.istore X0.here hx rfl (hb hby at_23) rfl (l' := #[.val (.int p1), .val (.int p2), .val (.int p3), .val (.int p4), .val (.int p5), .val (.int (4 : Int32)), .val (.int v6_183), .val (.int v7_184), .val (.int v8_185), .val (.int (p5.toInt8.toInt32)), .unset, .unset, .unset]) rfl (Steps.refl _)) ?_
    show own_Fin _ _ _ _ (s₁.setTop (mkF m 25 #[.val (.int p1), .val (.int p2), .val (.int p3), .val (.int p4), .val (.int p5), .val (.int (4 : Int32)), .val (.int v6_183), .val (.int v7_184), .val (.int v8_185), .val (.int (p5.toInt8.toInt32)), .unset, .unset, .unset] []))
    generalize hz_v9_186 : (p5.toInt8.toInt32) = v9_186
    refine own_go (XS.iload X0.here hx rfl (hb hby at_25) rfl (Steps.refl _)) ?_
    show own_Fin _ _ _ _ (s₁.setTop (mkF m 27 #[.val (.int p1), .val (.int p2), .val (.int p3), .val (.int p4), .val (.int p5), .val (.int (4 : Int32)), .val (.int v6_183), .val (.int v7_184), .val (.int v8_185), .val (.int v9_186), .unset, .unset, .unset] [(.int (4 : Int32))]))
    obtain ⟨T187, h187, k187, X187, e187, E187, A187, st187⟩ := newP X0 hx hZ (hw _ (List.mem_of_getElem? (i := 0) rfl)) e0 (g := (mkF m 27 #[.val (.int p1), .val (.int p2), .val (.int p3), .val (.int p4), .val (.int p5), .val (.int (4 : Int32)), .val (.int v6_183), .val (.int v7_184), .val (.int v8_185), .val (.int v9_186), .unset, .unset, .unset] [(.int (4 : Int32))])) rfl (hb hby at_27) rfl (by decide) (cap := 4) (by decide) (by decide) (by decide) (by decide)
    obtain ⟨b187, g187⟩ : ∃ z, z = h0.size := ⟨_, rfl⟩
    rw [← g187] at A187 st187
    refine own_by st187 ?_
    have g_b187 : n0 ≤ b187 := Nat.le_trans Z0 (Nat.le_of_eq g187.symm)
    have Z187 : n0 ≤ h187.size := Nat.le_trans Z0 E187.1
    have V_b187 : Arv Z h187 b187 k187 .byte (4 : Int32) [(.int (0 : Int32)), (.int (0 : Int32)), (.int (0 : Int32)), (.int (0 : Int32))] (.int (0 : Int32)) := (Arv.new A187 (by decide)).pad (pad_rep [] (.int (0 : Int32)) 4)
    show own_Fin _ _ _ _ (T187.setTop (mkF m 29 #[.val (.int p1), .val (.int p2), .val (.int p3), .val (.int p4), .val (.int p5), .val (.int (4 : Int32)), .val (.int v6_183), .val (.int v7_184), .val (.int v8_185), .val (.int v9_186), .unset, .unset, .unset] [(.ref b187)]))
    refine own_go (XS.astore X187.here hx rfl (hb hby at_29) rfl rfl (l' := #[.val (.int p1), .val (.int p2), .val (.int p3), .val (.int p4), .val (.int p5), .val (.int (4 : Int32)), .val (.int v6_183), .val (.int v7_184), .val (.int v8_185), .val (.int v9_186), .val (.ref b187), .unset, .unset]) rfl (Steps.refl _)) ?_
    show own_Fin _ _ _ _ (T187.setTop (mkF m 31 #[.val (.int p1), .val (.int p2), .val (.int p3), .val (.int p4), .val (.int p5), .val (.int (4 : Int32)), .val (.int v6_183), .val (.int v7_184), .val (.int v8_185), .val (.int v9_186), .val (.ref b187), .unset, .unset] []))
    refine own_go (XS.iload X187.here hx rfl (hb hby at_31) rfl (Steps.refl _)) ?_
    show own_Fin _ _ _ _ (T187.setTop (mkF m 33 #[.val (.int p1), .val (.int p2), .val (.int p3), .val (.int p4), .val (.int p5), .val (.int (4 : Int32)), .val (.int v6_183), .val (.int v7_184), .val (.int v8_185), .val (.int v9_186), .val (.ref b187), .unset, .unset] [(.int (4 : Int32))]))
    refine own_go (XS.ifNo X187.here hx rfl (hb hby at_33) rfl ((if0 _ _).trans (tlt (by decide : (0 : Int32) < (4 : Int32))).2.2.2) (Steps.refl _)) ?_
    show own_Fin _ _ _ _ (T187.setTop (mkF m 36 #[.val (.int p1), .val (.int p2), .val (.int p3), .val (.int p4), .val (.int p5), .val (.int (4 : Int32)), .val (.int v6_183), .val (.int v7_184), .val (.int v8_185), .val (.int v9_186), .val (.ref b187), .unset, .unset] []))
    refine own_go (XS.aload X187.here hx rfl (hb hby at_36) rfl rfl (Steps.refl _)) ?_
    show own_Fin _ _ _ _ (T187.setTop (mkF m 38 #[.val (.int p1), .val (.int p2), .val (.int p3), .val (.int p4), .val (.int p5), .val (.int (4 : Int32)), .val (.int v6_183), .val (.int v7_184), .val (.int v8_185), .val (.int v9_186), .val (.ref b187), .unset, .unset] [(.ref b187)]))
    refine own_go (XS.iconst X187.here hx rfl (hb hby at_38) (Steps.refl _)) ?_
    show own_Fin _ _ _ _ (T187.setTop (mkF m 39 #[.val (.int p1), .val (.int p2), .val (.int p3), .val (.int p4), .val (.int p5), .val (.int (4 : Int32)), .val (.int v6_183), .val (.int v7_184), .val (.int v8_185), .val (.int v9_186), .val (.ref b187), .unset, .unset] [(.int (0 : Int32)), (.ref b187)]))
    refine own_go (XS.iload X187.here hx rfl (hb hby at_39) rfl (Steps.refl _)) ?_
    show own_Fin _ _ _ _ (T187.setTop (mkF m 41 #[.val (.int p1), .val (.int p2), .val (.int p3), .val (.int p4), .val (.int p5), .val (.int (4 : Int32)), .val (.int v6_183), .val (.int v7_184), .val (.int v8_185), .val (.int v9_186), .val (.ref b187), .unset, .unset] [(.int v6_183), (.int (0 : Int32)), (.ref b187)]))
    obtain ⟨cl188, Ar188, qa188, Sa188, Na188, Ha188, Ga188⟩ := id V_b187
    have hin188 : ¬ ((0 : Int32) < 0 ∨ cl188.slots.size ≤ ((0 : Int32)).toNatClampNeg) := inb_of Sa188 ⟨by decide, by decide⟩
    obtain ⟨T189, h189, X189, e189, W189, st189⟩ := stB X187 hx hZ e187 Ar188 (j := (0 : Int32)) hin188 (g := (mkF m 41 #[.val (.int p1), .val (.int p2), .val (.int p3), .val (.int p4), .val (.int p5), .val (.int (4 : Int32)), .val (.int v6_183), .val (.int v7_184), .val (.int v8_185), .val (.int v9_186), .val (.ref b187), .unset, .unset] [(.int v6_183), (.int (0 : Int32)), (.ref b187)])) rfl rfl (hb hby at_41)
    refine own_by st189 ?_
    have hnr189 : nar .byte v6_183 = v6_183 := by rw [← hz_v6_183]; exact own_nb _
    rw [hnr189] at W189
    have V_b187_189 : Arv Z h189 b187 k187 .byte (4 : Int32) [(.int v6_183), (.int (0 : Int32)), (.int (0 : Int32)), (.int (0 : Int32))] (.int (0 : Int32)) := Arv.set Ar188 qa188 Sa188 Na188 Ha188 Ga188 (hnr189 ▸ fits_nar_byte v6_183) W189 0 rfl (Nat.le_of_ble_eq_true rfl)
    have N189 := Fr.snoc X189 N0 g_b187
    have Z189 : n0 ≤ h189.size := Nat.le_trans Z187 (Keep.of_wr W189).1
    show own_Fin _ _ _ _ (T189.setTop (mkF m 42 #[.val (.int p1), .val (.int p2), .val (.int p3), .val (.int p4), .val (.int p5), .val (.int (4 : Int32)), .val (.int v6_183), .val (.int v7_184), .val (.int v8_185), .val (.int v9_186), .val (.ref b187), .unset, .unset] []))
    refine own_go (XS.iload X189.here hx rfl (hb hby at_42) rfl (Steps.refl _)) ?_
    show own_Fin _ _ _ _ (T189.setTop (mkF m 44 #[.val (.int p1), .val (.int p2), .val (.int p3), .val (.int p4), .val (.int p5), .val (.int (4 : Int32)), .val (.int v6_183), .val (.int v7_184), .val (.int v8_185), .val (.int v9_186), .val (.ref b187), .unset, .unset] [(.int (4 : Int32))]))
    refine own_go (XS.iconst X189.here hx rfl (hb hby at_44) (Steps.refl _)) ?_
    show own_Fin _ _ _ _ (T189.setTop (mkF m 45 #[.val (.int p1), .val (.int p2), .val (.int p3), .val (.int p4), .val (.int p5), .val (.int (4 : Int32)), .val (.int v6_183), .val (.int v7_184), .val (.int v8_185), .val (.int v9_186), .val (.ref b187), .unset, .unset] [(.int (1 : Int32)), (.int (4 : Int32))]))
    refine own_go (XS.icmpNo X189.here hx rfl (hb hby at_45) rfl (tlt (by decide : (1 : Int32) < (4 : Int32))).2.2.2 (Steps.refl _)) ?_
    show own_Fin _ _ _ _ (T189.setTop (mkF m 48 #[.val (.int p1), .val (.int p2), .val (.int p3), .val (.int p4), .val (.int p5), .val (.int (4 : Int32)), .val (.int v6_183), .val (.int v7_184), .val (.int v8_185), .val (.int v9_186), .val (.ref b187), .unset, .unset] []))
    refine own_go (XS.aload X189.here hx rfl (hb hby at_48) rfl rfl (Steps.refl _)) ?_
    show own_Fin _ _ _ _ (T189.setTop (mkF m 50 #[.val (.int p1), .val (.int p2), .val (.int p3), .val (.int p4), .val (.int p5), .val (.int (4 : Int32)), .val (.int v6_183), .val (.int v7_184), .val (.int v8_185), .val (.int v9_186), .val (.ref b187), .unset, .unset] [(.ref b187)]))
    refine own_go (XS.iconst X189.here hx rfl (hb hby at_50) (Steps.refl _)) ?_
    show own_Fin _ _ _ _ (T189.setTop (mkF m 51 #[.val (.int p1), .val (.int p2), .val (.int p3), .val (.int p4), .val (.int p5), .val (.int (4 : Int32)), .val (.int v6_183), .val (.int v7_184), .val (.int v8_185), .val (.int v9_186), .val (.ref b187), .unset, .unset] [(.int (1 : Int32)), (.ref b187)]))
    refine own_go (XS.iload X189.here hx rfl (hb hby at_51) rfl (Steps.refl _)) ?_
    show own_Fin _ _ _ _ (T189.setTop (mkF m 53 #[.val (.int p1), .val (.int p2), .val (.int p3), .val (.int p4), .val (.int p5), .val (.int (4 : Int32)), .val (.int v6_183), .val (.int v7_184), .val (.int v8_185), .val (.int v9_186), .val (.ref b187), .unset, .unset] [(.int v7_184), (.int (1 : Int32)), (.ref b187)]))
    obtain ⟨cl190, Ar190, qa190, Sa190, Na190, Ha190, Ga190⟩ := id V_b187_189
    have hin190 : ¬ ((1 : Int32) < 0 ∨ cl190.slots.size ≤ ((1 : Int32)).toNatClampNeg) := inb_of Sa190 ⟨by decide, by decide⟩
    obtain ⟨T191, h191, X191, e191, W191, st191⟩ := stB X189 hx hZ e189 Ar190 (j := (1 : Int32)) hin190 (g := (mkF m 53 #[.val (.int p1), .val (.int p2), .val (.int p3), .val (.int p4), .val (.int p5), .val (.int (4 : Int32)), .val (.int v6_183), .val (.int v7_184), .val (.int v8_185), .val (.int v9_186), .val (.ref b187), .unset, .unset] [(.int v7_184), (.int (1 : Int32)), (.ref b187)])) rfl rfl (hb hby at_53)
    refine own_by st191 ?_
    have hnr191 : nar .byte v7_184 = v7_184 := by rw [← hz_v7_184]; exact own_nb _
    rw [hnr191] at W191
    have V_b187_191 : Arv Z h191 b187 k187 .byte (4 : Int32) [(.int v6_183), (.int v7_184), (.int (0 : Int32)), (.int (0 : Int32))] (.int (0 : Int32)) := Arv.set Ar190 qa190 Sa190 Na190 Ha190 Ga190 (hnr191 ▸ fits_nar_byte v7_184) W191 1 rfl (Nat.le_of_ble_eq_true rfl)
    have N191 := Fr.snoc X191 N189 g_b187
    have Z191 : n0 ≤ h191.size := Nat.le_trans Z189 (Keep.of_wr W191).1
    show own_Fin _ _ _ _ (T191.setTop (mkF m 54 #[.val (.int p1), .val (.int p2), .val (.int p3), .val (.int p4), .val (.int p5), .val (.int (4 : Int32)), .val (.int v6_183), .val (.int v7_184), .val (.int v8_185), .val (.int v9_186), .val (.ref b187), .unset, .unset] []))
    refine own_go (XS.iload X191.here hx rfl (hb hby at_54) rfl (Steps.refl _)) ?_
    show own_Fin _ _ _ _ (T191.setTop (mkF m 56 #[.val (.int p1), .val (.int p2), .val (.int p3), .val (.int p4), .val (.int p5), .val (.int (4 : Int32)), .val (.int v6_183), .val (.int v7_184), .val (.int v8_185), .val (.int v9_186), .val (.ref b187), .unset, .unset] [(.int (4 : Int32))]))
    refine own_go (XS.iconst X191.here hx rfl (hb hby at_56) (Steps.refl _)) ?_
    show own_Fin _ _ _ _ (T191.setTop (mkF m 57 #[.val (.int p1), .val (.int p2), .val (.int p3), .val (.int p4), .val (.int p5), .val (.int (4 : Int32)), .val (.int v6_183), .val (.int v7_184), .val (.int v8_185), .val (.int v9_186), .val (.ref b187), .unset, .unset] [(.int (2 : Int32)), (.int (4 : Int32))]))
    refine own_go (XS.icmpNo X191.here hx rfl (hb hby at_57) rfl (tlt (by decide : (2 : Int32) < (4 : Int32))).2.2.2 (Steps.refl _)) ?_
    show own_Fin _ _ _ _ (T191.setTop (mkF m 60 #[.val (.int p1), .val (.int p2), .val (.int p3), .val (.int p4), .val (.int p5), .val (.int (4 : Int32)), .val (.int v6_183), .val (.int v7_184), .val (.int v8_185), .val (.int v9_186), .val (.ref b187), .unset, .unset] []))
    refine own_go (XS.aload X191.here hx rfl (hb hby at_60) rfl rfl (Steps.refl _)) ?_
    show own_Fin _ _ _ _ (T191.setTop (mkF m 62 #[.val (.int p1), .val (.int p2), .val (.int p3), .val (.int p4), .val (.int p5), .val (.int (4 : Int32)), .val (.int v6_183), .val (.int v7_184), .val (.int v8_185), .val (.int v9_186), .val (.ref b187), .unset, .unset] [(.ref b187)]))
    refine own_go (XS.iconst X191.here hx rfl (hb hby at_62) (Steps.refl _)) ?_
    show own_Fin _ _ _ _ (T191.setTop (mkF m 63 #[.val (.int p1), .val (.int p2), .val (.int p3), .val (.int p4), .val (.int p5), .val (.int (4 : Int32)), .val (.int v6_183), .val (.int v7_184), .val (.int v8_185), .val (.int v9_186), .val (.ref b187), .unset, .unset] [(.int (2 : Int32)), (.ref b187)]))
    refine own_go (XS.iload X191.here hx rfl (hb hby at_63) rfl (Steps.refl _)) ?_
    show own_Fin _ _ _ _ (T191.setTop (mkF m 65 #[.val (.int p1), .val (.int p2), .val (.int p3), .val (.int p4), .val (.int p5), .val (.int (4 : Int32)), .val (.int v6_183), .val (.int v7_184), .val (.int v8_185), .val (.int v9_186), .val (.ref b187), .unset, .unset] [(.int v8_185), (.int (2 : Int32)), (.ref b187)]))
    obtain ⟨cl192, Ar192, qa192, Sa192, Na192, Ha192, Ga192⟩ := id V_b187_191
    have hin192 : ¬ ((2 : Int32) < 0 ∨ cl192.slots.size ≤ ((2 : Int32)).toNatClampNeg) := inb_of Sa192 ⟨by decide, by decide⟩
    obtain ⟨T193, h193, X193, e193, W193, st193⟩ := stB X191 hx hZ e191 Ar192 (j := (2 : Int32)) hin192 (g := (mkF m 65 #[.val (.int p1), .val (.int p2), .val (.int p3), .val (.int p4), .val (.int p5), .val (.int (4 : Int32)), .val (.int v6_183), .val (.int v7_184), .val (.int v8_185), .val (.int v9_186), .val (.ref b187), .unset, .unset] [(.int v8_185), (.int (2 : Int32)), (.ref b187)])) rfl rfl (hb hby at_65)
    refine own_by st193 ?_
    have hnr193 : nar .byte v8_185 = v8_185 := by rw [← hz_v8_185]; exact own_nb _
    rw [hnr193] at W193
    have V_b187_193 : Arv Z h193 b187 k187 .byte (4 : Int32) [(.int v6_183), (.int v7_184), (.int v8_185), (.int (0 : Int32))] (.int (0 : Int32)) := Arv.set Ar192 qa192 Sa192 Na192 Ha192 Ga192 (hnr193 ▸ fits_nar_byte v8_185) W193 2 rfl (Nat.le_of_ble_eq_true rfl)
    have N193 := Fr.snoc X193 N191 g_b187
    have Z193 : n0 ≤ h193.size := Nat.le_trans Z191 (Keep.of_wr W193).1
    show own_Fin _ _ _ _ (T193.setTop (mkF m 66 #[.val (.int p1), .val (.int p2), .val (.int p3), .val (.int p4), .val (.int p5), .val (.int (4 : Int32)), .val (.int v6_183), .val (.int v7_184), .val (.int v8_185), .val (.int v9_186), .val (.ref b187), .unset, .unset] []))
    refine own_go (XS.iload X193.here hx rfl (hb hby at_66) rfl (Steps.refl _)) ?_
    show own_Fin _ _ _ _ (T193.setTop (mkF m 68 #[.val (.int p1), .val (.int p2), .val (.int p3), .val (.int p4), .val (.int p5), .val (.int (4 : Int32)), .val (.int v6_183), .val (.int v7_184), .val (.int v8_185), .val (.int v9_186), .val (.ref b187), .unset, .unset] [(.int (4 : Int32))]))
    refine own_go (XS.iconst X193.here hx rfl (hb hby at_68) (Steps.refl _)) ?_
    show own_Fin _ _ _ _ (T193.setTop (mkF m 69 #[.val (.int p1), .val (.int p2), .val (.int p3), .val (.int p4), .val (.int p5), .val (.int (4 : Int32)), .val (.int v6_183), .val (.int v7_184), .val (.int v8_185), .val (.int v9_186), .val (.ref b187), .unset, .unset] [(.int (3 : Int32)), (.int (4 : Int32))]))
    refine own_go (XS.icmpNo X193.here hx rfl (hb hby at_69) rfl (tlt (by decide : (3 : Int32) < (4 : Int32))).2.2.2 (Steps.refl _)) ?_
    show own_Fin _ _ _ _ (T193.setTop (mkF m 72 #[.val (.int p1), .val (.int p2), .val (.int p3), .val (.int p4), .val (.int p5), .val (.int (4 : Int32)), .val (.int v6_183), .val (.int v7_184), .val (.int v8_185), .val (.int v9_186), .val (.ref b187), .unset, .unset] []))
    refine own_go (XS.aload X193.here hx rfl (hb hby at_72) rfl rfl (Steps.refl _)) ?_
    show own_Fin _ _ _ _ (T193.setTop (mkF m 74 #[.val (.int p1), .val (.int p2), .val (.int p3), .val (.int p4), .val (.int p5), .val (.int (4 : Int32)), .val (.int v6_183), .val (.int v7_184), .val (.int v8_185), .val (.int v9_186), .val (.ref b187), .unset, .unset] [(.ref b187)]))
    refine own_go (XS.iconst X193.here hx rfl (hb hby at_74) (Steps.refl _)) ?_
    show own_Fin _ _ _ _ (T193.setTop (mkF m 75 #[.val (.int p1), .val (.int p2), .val (.int p3), .val (.int p4), .val (.int p5), .val (.int (4 : Int32)), .val (.int v6_183), .val (.int v7_184), .val (.int v8_185), .val (.int v9_186), .val (.ref b187), .unset, .unset] [(.int (3 : Int32)), (.ref b187)]))
    refine own_go (XS.iload X193.here hx rfl (hb hby at_75) rfl (Steps.refl _)) ?_
    show own_Fin _ _ _ _ (T193.setTop (mkF m 77 #[.val (.int p1), .val (.int p2), .val (.int p3), .val (.int p4), .val (.int p5), .val (.int (4 : Int32)), .val (.int v6_183), .val (.int v7_184), .val (.int v8_185), .val (.int v9_186), .val (.ref b187), .unset, .unset] [(.int v9_186), (.int (3 : Int32)), (.ref b187)]))
    obtain ⟨cl194, Ar194, qa194, Sa194, Na194, Ha194, Ga194⟩ := id V_b187_193
    have hin194 : ¬ ((3 : Int32) < 0 ∨ cl194.slots.size ≤ ((3 : Int32)).toNatClampNeg) := inb_of Sa194 ⟨by decide, by decide⟩
    obtain ⟨T195, h195, X195, e195, W195, st195⟩ := stB X193 hx hZ e193 Ar194 (j := (3 : Int32)) hin194 (g := (mkF m 77 #[.val (.int p1), .val (.int p2), .val (.int p3), .val (.int p4), .val (.int p5), .val (.int (4 : Int32)), .val (.int v6_183), .val (.int v7_184), .val (.int v8_185), .val (.int v9_186), .val (.ref b187), .unset, .unset] [(.int v9_186), (.int (3 : Int32)), (.ref b187)])) rfl rfl (hb hby at_77)
    refine own_by st195 ?_
    have hnr195 : nar .byte v9_186 = v9_186 := by rw [← hz_v9_186]; exact own_nb _
    rw [hnr195] at W195
    have V_b187_195 : Arv Z h195 b187 k187 .byte (4 : Int32) [(.int v6_183), (.int v7_184), (.int v8_185), (.int v9_186)] (.int (0 : Int32)) := Arv.set Ar194 qa194 Sa194 Na194 Ha194 Ga194 (hnr195 ▸ fits_nar_byte v9_186) W195 3 rfl (Nat.le_of_ble_eq_true rfl)
    have N195 := Fr.snoc X195 N193 g_b187
    have Z195 : n0 ≤ h195.size := Nat.le_trans Z193 (Keep.of_wr W195).1
    show own_Fin _ _ _ _ (T195.setTop (mkF m 78 #[.val (.int p1), .val (.int p2), .val (.int p3), .val (.int p4), .val (.int p5), .val (.int (4 : Int32)), .val (.int v6_183), .val (.int v7_184), .val (.int v8_185), .val (.int v9_186), .val (.ref b187), .unset, .unset] []))
    refine own_go (XS.iconst X195.here hx rfl (hb hby at_78) (Steps.refl _)) ?_
    show own_Fin _ _ _ _ (T195.setTop (mkF m 79 #[.val (.int p1), .val (.int p2), .val (.int p3), .val (.int p4), .val (.int p5), .val (.int (4 : Int32)), .val (.int v6_183), .val (.int v7_184), .val (.int v8_185), .val (.int v9_186), .val (.ref b187), .unset, .unset] [(.int (1 : Int32))]))
    refine own_go (XS.istore X195.here hx rfl (hb hby at_79) rfl (l' := #[.val (.int p1), .val (.int p2), .val (.int p3), .val (.int p4), .val (.int p5), .val (.int (4 : Int32)), .val (.int v6_183), .val (.int v7_184), .val (.int v8_185), .val (.int v9_186), .val (.ref b187), .val (.int (1 : Int32)), .unset]) rfl (Steps.refl _)) ?_
    show own_Fin _ _ _ _ (T195.setTop (mkF m 81 #[.val (.int p1), .val (.int p2), .val (.int p3), .val (.int p4), .val (.int p5), .val (.int (4 : Int32)), .val (.int v6_183), .val (.int v7_184), .val (.int v8_185), .val (.int v9_186), .val (.ref b187), .val (.int (1 : Int32)), .unset] []))
    refine own_go (XS.iload X195.here hx rfl (hb hby at_81) rfl (Steps.refl _)) ?_
    show own_Fin _ _ _ _ (T195.setTop (mkF m 83 #[.val (.int p1), .val (.int p2), .val (.int p3), .val (.int p4), .val (.int p5), .val (.int (4 : Int32)), .val (.int v6_183), .val (.int v7_184), .val (.int v8_185), .val (.int v9_186), .val (.ref b187), .val (.int (1 : Int32)), .unset] [(.int (4 : Int32))]))
    refine own_go (XS.ifNo X195.here hx rfl (hb hby at_83) rfl ((if0 _ _).trans (tlt (by decide : (0 : Int32) < (4 : Int32))).2.2.2) (Steps.refl _)) ?_
    show own_Fin _ _ _ _ (T195.setTop (mkF m 86 #[.val (.int p1), .val (.int p2), .val (.int p3), .val (.int p4), .val (.int p5), .val (.int (4 : Int32)), .val (.int v6_183), .val (.int v7_184), .val (.int v8_185), .val (.int v9_186), .val (.ref b187), .val (.int (1 : Int32)), .unset] []))
    refine own_go (XS.iload X195.here hx rfl (hb hby at_86) rfl (Steps.refl _)) ?_
    show own_Fin _ _ _ _ (T195.setTop (mkF m 88 #[.val (.int p1), .val (.int p2), .val (.int p3), .val (.int p4), .val (.int p5), .val (.int (4 : Int32)), .val (.int v6_183), .val (.int v7_184), .val (.int v8_185), .val (.int v9_186), .val (.ref b187), .val (.int (1 : Int32)), .unset] [(.int v6_183)]))
    refine own_go (XS.bipush X195.here hx rfl (hb hby at_88) (Steps.refl _)) ?_
    show own_Fin _ _ _ _ (T195.setTop (mkF m 90 #[.val (.int p1), .val (.int p2), .val (.int p3), .val (.int p4), .val (.int p5), .val (.int (4 : Int32)), .val (.int v6_183), .val (.int v7_184), .val (.int v8_185), .val (.int v9_186), .val (.ref b187), .val (.int (1 : Int32)), .unset] [(.int (34 : Int32)), (.int v6_183)]))
    have jn198 : ∀ (Tj198 : State) (Lj198 : List Loc) (xe196 : Int32), Stand p l e room_1 s m #[(.int p1), (.int p2), (.int p3), (.int p4), (.int p5)] below meth c Tj198 Lj198 1 4 → Tj198.heap = h195 → Fr n0 Lj198 → (xe196 = (if v6_183 = (34 : Int32) then (0 : Int32) else (1 : Int32))) → own_Fin p e below (G0 Z p1 p2 p3 p4 p5 h0 n0 s) (Tj198.setTop (mkF m 96 #[.val (.int p1), .val (.int p2), .val (.int p3), .val (.int p4), .val (.int p5), .val (.int (4 : Int32)), .val (.int v6_183), .val (.int v7_184), .val (.int v8_185), .val (.int v9_186), .val (.ref b187), .val (.int xe196), .unset] [])) := by
      intro Tj198 Lj198 xe196 Xj198 ej198 Nj198 hj198
      refine own_go (XS.iload Xj198.here hx rfl (hb hby at_96) rfl (Steps.refl _)) ?_
      show own_Fin _ _ _ _ (Tj198.setTop (mkF m 98 #[.val (.int p1), .val (.int p2), .val (.int p3), .val (.int p4), .val (.int p5), .val (.int (4 : Int32)), .val (.int v6_183), .val (.int v7_184), .val (.int v8_185), .val (.int v9_186), .val (.ref b187), .val (.int xe196), .unset] [(.int (4 : Int32))]))
      refine own_go (XS.ifNo Xj198.here hx rfl (hb hby at_98) rfl ((if0 _ _).trans (tlt (by decide : (0 : Int32) < (4 : Int32))).2.2.2) (Steps.refl _)) ?_
      show own_Fin _ _ _ _ (Tj198.setTop (mkF m 101 #[.val (.int p1), .val (.int p2), .val (.int p3), .val (.int p4), .val (.int p5), .val (.int (4 : Int32)), .val (.int v6_183), .val (.int v7_184), .val (.int v8_185), .val (.int v9_186), .val (.ref b187), .val (.int xe196), .unset] []))
      refine own_go (XS.iload Xj198.here hx rfl (hb hby at_101) rfl (Steps.refl _)) ?_
      show own_Fin _ _ _ _ (Tj198.setTop (mkF m 103 #[.val (.int p1), .val (.int p2), .val (.int p3), .val (.int p4), .val (.int p5), .val (.int (4 : Int32)), .val (.int v6_183), .val (.int v7_184), .val (.int v8_185), .val (.int v9_186), .val (.ref b187), .val (.int xe196), .unset] [(.int v6_183)]))
      obtain ⟨_, _, ⟨T199, L199, k199, n199⟩, -, X199, ⟨Lc199, hQ199, l199, y199, z199⟩, st199⟩ := Jvm.LawKit.callS Xj198 hx (y := (⟨"com/example/gridtally/gridtally/casefile/FieldTextIsWholePinLaw", "bad", "(B)Z"⟩ : MethodName)) hown (mvT hZ (hw _ (List.mem_of_getElem? (i := 5) rfl))) (mvT hZ (hw _ (List.mem_of_getElem? (i := 6) rfl))) (mvT hZ (hw _ (List.mem_of_getElem? (i := 7) rfl))) (mvT hZ (hw _ (List.mem_of_getElem? (i := 8) rfl))) (by decide) (backOf (W := 0) (rm2 l Z a0 hw [] v6_183 h195 n0 Z195) hZ (hw _ (List.mem_of_getElem? (i := 8) rfl)) (hw _ (List.mem_of_getElem? (i := 7) rfl)) (by decide) (by decide)) (g := (mkF m 103 #[.val (.int p1), .val (.int p2), .val (.int p3), .val (.int p4), .val (.int p5), .val (.int (4 : Int32)), .val (.int v6_183), .val (.int v7_184), .val (.int v8_185), .val (.int v9_186), .val (.ref b187), .val (.int xe196), .unset] [(.int v6_183)])) rfl (by rw [hml]; rfl) (argsL := [(.int v6_183)]) (rest := []) (lenOf pd__28_B_29_Z rfl) rfl (by show 2 * 0 + _ ≤ _; exact Nat.le_of_eq rfl) (hb hby at_103) (fun _ _ => ⟨rfl, ej198, (by decide : 1 + 0 ≤ _), (by decide : 4 + 0 ≤ _)⟩)
      dsimp only [Pt.U, Pt.locs, Pt.cells, Pt.slots] at X199 l199 y199 z199 st199 hQ199
      subst l199 y199 z199
      obtain ⟨rfl, Nq199, e199⟩ := hQ199
      refine own_by st199 ?_
      have N199 := Fr.app Nj198 Nq199
      show own_Fin _ _ _ _ (T199.setTop (mkF m 106 #[.val (.int p1), .val (.int p2), .val (.int p3), .val (.int p4), .val (.int p5), .val (.int (4 : Int32)), .val (.int v6_183), .val (.int v7_184), .val (.int v8_185), .val (.int v9_186), .val (.ref b187), .val (.int xe196), .unset] [(.int (if own_bad v6_183 then (1 : Int32) else 0))]))
      have jn202 : ∀ (Tj202 : State) (Lj202 : List Loc) (xe200 : Int32), Stand p l e room_1 s m #[(.int p1), (.int p2), (.int p3), (.int p4), (.int p5)] below meth c Tj202 Lj202 1 4 → Tj202.heap = h195 → Fr n0 Lj202 → (xe200 = (if own_bad v6_183 = true then (0 : Int32) else xe196)) → own_Fin p e below (G0 Z p1 p2 p3 p4 p5 h0 n0 s) (Tj202.setTop (mkF m 112 #[.val (.int p1), .val (.int p2), .val (.int p3), .val (.int p4), .val (.int p5), .val (.int (4 : Int32)), .val (.int v6_183), .val (.int v7_184), .val (.int v8_185), .val (.int v9_186), .val (.ref b187), .val (.int xe200), .unset] [])) := by
        intro Tj202 Lj202 xe200 Xj202 ej202 Nj202 hj202
        refine own_go (XS.iload Xj202.here hx rfl (hb hby at_112) rfl (Steps.refl _)) ?_
        show own_Fin _ _ _ _ (Tj202.setTop (mkF m 114 #[.val (.int p1), .val (.int p2), .val (.int p3), .val (.int p4), .val (.int p5), .val (.int (4 : Int32)), .val (.int v6_183), .val (.int v7_184), .val (.int v8_185), .val (.int v9_186), .val (.ref b187), .val (.int xe200), .unset] [(.int (4 : Int32))]))
        refine own_go (XS.iconst Xj202.here hx rfl (hb hby at_114) (Steps.refl _)) ?_
        show own_Fin _ _ _ _ (Tj202.setTop (mkF m 115 #[.val (.int p1), .val (.int p2), .val (.int p3), .val (.int p4), .val (.int p5), .val (.int (4 : Int32)), .val (.int v6_183), .val (.int v7_184), .val (.int v8_185), .val (.int v9_186), .val (.ref b187), .val (.int xe200), .unset] [(.int (1 : Int32)), (.int (4 : Int32))]))
        refine own_go (XS.icmpNo Xj202.here hx rfl (hb hby at_115) rfl (tlt (by decide : (1 : Int32) < (4 : Int32))).2.2.2 (Steps.refl _)) ?_
        show own_Fin _ _ _ _ (Tj202.setTop (mkF m 118 #[.val (.int p1), .val (.int p2), .val (.int p3), .val (.int p4), .val (.int p5), .val (.int (4 : Int32)), .val (.int v6_183), .val (.int v7_184), .val (.int v8_185), .val (.int v9_186), .val (.ref b187), .val (.int xe200), .unset] []))
        refine own_go (XS.iload Xj202.here hx rfl (hb hby at_118) rfl (Steps.refl _)) ?_
        show own_Fin _ _ _ _ (Tj202.setTop (mkF m 120 #[.val (.int p1), .val (.int p2), .val (.int p3), .val (.int p4), .val (.int p5), .val (.int (4 : Int32)), .val (.int v6_183), .val (.int v7_184), .val (.int v8_185), .val (.int v9_186), .val (.ref b187), .val (.int xe200), .unset] [(.int v7_184)]))
        obtain ⟨_, _, ⟨T203, L203, k203, n203⟩, -, X203, ⟨Lc203, hQ203, l203, y203, z203⟩, st203⟩ := Jvm.LawKit.callS Xj202 hx (y := (⟨"com/example/gridtally/gridtally/casefile/FieldTextIsWholePinLaw", "bad", "(B)Z"⟩ : MethodName)) hown (mvT hZ (hw _ (List.mem_of_getElem? (i := 5) rfl))) (mvT hZ (hw _ (List.mem_of_getElem? (i := 6) rfl))) (mvT hZ (hw _ (List.mem_of_getElem? (i := 7) rfl))) (mvT hZ (hw _ (List.mem_of_getElem? (i := 8) rfl))) (by decide) (backOf (W := 0) (rm2 l Z a0 hw [] v7_184 h195 n0 Z195) hZ (hw _ (List.mem_of_getElem? (i := 8) rfl)) (hw _ (List.mem_of_getElem? (i := 7) rfl)) (by decide) (by decide)) (g := (mkF m 120 #[.val (.int p1), .val (.int p2), .val (.int p3), .val (.int p4), .val (.int p5), .val (.int (4 : Int32)), .val (.int v6_183), .val (.int v7_184), .val (.int v8_185), .val (.int v9_186), .val (.ref b187), .val (.int xe200), .unset] [(.int v7_184)])) rfl (by rw [hml]; rfl) (argsL := [(.int v7_184)]) (rest := []) (lenOf pd__28_B_29_Z rfl) rfl (by show 2 * 0 + _ ≤ _; exact Nat.le_of_eq rfl) (hb hby at_120) (fun _ _ => ⟨rfl, ej202, (by decide : 1 + 0 ≤ _), (by decide : 4 + 0 ≤ _)⟩)
        dsimp only [Pt.U, Pt.locs, Pt.cells, Pt.slots] at X203 l203 y203 z203 st203 hQ203
        subst l203 y203 z203
        obtain ⟨rfl, Nq203, e203⟩ := hQ203
        refine own_by st203 ?_
        have N203 := Fr.app Nj202 Nq203
        show own_Fin _ _ _ _ (T203.setTop (mkF m 123 #[.val (.int p1), .val (.int p2), .val (.int p3), .val (.int p4), .val (.int p5), .val (.int (4 : Int32)), .val (.int v6_183), .val (.int v7_184), .val (.int v8_185), .val (.int v9_186), .val (.ref b187), .val (.int xe200), .unset] [(.int (if own_bad v7_184 then (1 : Int32) else 0))]))
        have jn206 : ∀ (Tj206 : State) (Lj206 : List Loc) (xe204 : Int32), Stand p l e room_1 s m #[(.int p1), (.int p2), (.int p3), (.int p4), (.int p5)] below meth c Tj206 Lj206 1 4 → Tj206.heap = h195 → Fr n0 Lj206 → (xe204 = (if own_bad v7_184 = true then (0 : Int32) else xe200)) → own_Fin p e below (G0 Z p1 p2 p3 p4 p5 h0 n0 s) (Tj206.setTop (mkF m 129 #[.val (.int p1), .val (.int p2), .val (.int p3), .val (.int p4), .val (.int p5), .val (.int (4 : Int32)), .val (.int v6_183), .val (.int v7_184), .val (.int v8_185), .val (.int v9_186), .val (.ref b187), .val (.int xe204), .unset] [])) := by
          intro Tj206 Lj206 xe204 Xj206 ej206 Nj206 hj206
          refine own_go (XS.iload Xj206.here hx rfl (hb hby at_129) rfl (Steps.refl _)) ?_
          show own_Fin _ _ _ _ (Tj206.setTop (mkF m 131 #[.val (.int p1), .val (.int p2), .val (.int p3), .val (.int p4), .val (.int p5), .val (.int (4 : Int32)), .val (.int v6_183), .val (.int v7_184), .val (.int v8_185), .val (.int v9_186), .val (.ref b187), .val (.int xe204), .unset] [(.int (4 : Int32))]))
          refine own_go (XS.iconst Xj206.here hx rfl (hb hby at_131) (Steps.refl _)) ?_
          show own_Fin _ _ _ _ (Tj206.setTop (mkF m 132 #[.val (.int p1), .val (.int p2), .val (.int p3), .val (.int p4), .val (.int p5), .val (.int (4 : Int32)), .val (.int v6_183), .val (.int v7_184), .val (.int v8_185), .val (.int v9_186), .val (.ref b187), .val (.int xe204), .unset] [(.int (2 : Int32)), (.int (4 : Int32))]))
          refine own_go (XS.icmpNo Xj206.here hx rfl (hb hby at_132) rfl (tlt (by decide : (2 : Int32) < (4 : Int32))).2.2.2 (Steps.refl _)) ?_
          show own_Fin _ _ _ _ (Tj206.setTop (mkF m 135 #[.val (.int p1), .val (.int p2), .val (.int p3), .val (.int p4), .val (.int p5), .val (.int (4 : Int32)), .val (.int v6_183), .val (.int v7_184), .val (.int v8_185), .val (.int v9_186), .val (.ref b187), .val (.int xe204), .unset] []))
          refine own_go (XS.iload Xj206.here hx rfl (hb hby at_135) rfl (Steps.refl _)) ?_
          show own_Fin _ _ _ _ (Tj206.setTop (mkF m 137 #[.val (.int p1), .val (.int p2), .val (.int p3), .val (.int p4), .val (.int p5), .val (.int (4 : Int32)), .val (.int v6_183), .val (.int v7_184), .val (.int v8_185), .val (.int v9_186), .val (.ref b187), .val (.int xe204), .unset] [(.int v8_185)]))
          obtain ⟨_, _, ⟨T207, L207, k207, n207⟩, -, X207, ⟨Lc207, hQ207, l207, y207, z207⟩, st207⟩ := Jvm.LawKit.callS Xj206 hx (y := (⟨"com/example/gridtally/gridtally/casefile/FieldTextIsWholePinLaw", "bad", "(B)Z"⟩ : MethodName)) hown (mvT hZ (hw _ (List.mem_of_getElem? (i := 5) rfl))) (mvT hZ (hw _ (List.mem_of_getElem? (i := 6) rfl))) (mvT hZ (hw _ (List.mem_of_getElem? (i := 7) rfl))) (mvT hZ (hw _ (List.mem_of_getElem? (i := 8) rfl))) (by decide) (backOf (W := 0) (rm2 l Z a0 hw [] v8_185 h195 n0 Z195) hZ (hw _ (List.mem_of_getElem? (i := 8) rfl)) (hw _ (List.mem_of_getElem? (i := 7) rfl)) (by decide) (by decide)) (g := (mkF m 137 #[.val (.int p1), .val (.int p2), .val (.int p3), .val (.int p4), .val (.int p5), .val (.int (4 : Int32)), .val (.int v6_183), .val (.int v7_184), .val (.int v8_185), .val (.int v9_186), .val (.ref b187), .val (.int xe204), .unset] [(.int v8_185)])) rfl (by rw [hml]; rfl) (argsL := [(.int v8_185)]) (rest := []) (lenOf pd__28_B_29_Z rfl) rfl (by show 2 * 0 + _ ≤ _; exact Nat.le_of_eq rfl) (hb hby at_137) (fun _ _ => ⟨rfl, ej206, (by decide : 1 + 0 ≤ _), (by decide : 4 + 0 ≤ _)⟩)
          dsimp only [Pt.U, Pt.locs, Pt.cells, Pt.slots] at X207 l207 y207 z207 st207 hQ207
          subst l207 y207 z207
          obtain ⟨rfl, Nq207, e207⟩ := hQ207
          refine own_by st207 ?_
          have N207 := Fr.app Nj206 Nq207
          show own_Fin _ _ _ _ (T207.setTop (mkF m 140 #[.val (.int p1), .val (.int p2), .val (.int p3), .val (.int p4), .val (.int p5), .val (.int (4 : Int32)), .val (.int v6_183), .val (.int v7_184), .val (.int v8_185), .val (.int v9_186), .val (.ref b187), .val (.int xe204), .unset] [(.int (if own_bad v8_185 then (1 : Int32) else 0))]))
          have jn210 : ∀ (Tj210 : State) (Lj210 : List Loc) (xe208 : Int32), Stand p l e room_1 s m #[(.int p1), (.int p2), (.int p3), (.int p4), (.int p5)] below meth c Tj210 Lj210 1 4 → Tj210.heap = h195 → Fr n0 Lj210 → (xe208 = (if own_bad v8_185 = true then (0 : Int32) else xe204)) → own_Fin p e below (G0 Z p1 p2 p3 p4 p5 h0 n0 s) (Tj210.setTop (mkF m 146 #[.val (.int p1), .val (.int p2), .val (.int p3), .val (.int p4), .val (.int p5), .val (.int (4 : Int32)), .val (.int v6_183), .val (.int v7_184), .val (.int v8_185), .val (.int v9_186), .val (.ref b187), .val (.int xe208), .unset] [])) := by
            intro Tj210 Lj210 xe208 Xj210 ej210 Nj210 hj210
            refine own_go (XS.iload Xj210.here hx rfl (hb hby at_146) rfl (Steps.refl _)) ?_
            show own_Fin _ _ _ _ (Tj210.setTop (mkF m 148 #[.val (.int p1), .val (.int p2), .val (.int p3), .val (.int p4), .val (.int p5), .val (.int (4 : Int32)), .val (.int v6_183), .val (.int v7_184), .val (.int v8_185), .val (.int v9_186), .val (.ref b187), .val (.int xe208), .unset] [(.int (4 : Int32))]))
            refine own_go (XS.iconst Xj210.here hx rfl (hb hby at_148) (Steps.refl _)) ?_
            show own_Fin _ _ _ _ (Tj210.setTop (mkF m 149 #[.val (.int p1), .val (.int p2), .val (.int p3), .val (.int p4), .val (.int p5), .val (.int (4 : Int32)), .val (.int v6_183), .val (.int v7_184), .val (.int v8_185), .val (.int v9_186), .val (.ref b187), .val (.int xe208), .unset] [(.int (3 : Int32)), (.int (4 : Int32))]))
            refine own_go (XS.icmpNo Xj210.here hx rfl (hb hby at_149) rfl (tlt (by decide : (3 : Int32) < (4 : Int32))).2.2.2 (Steps.refl _)) ?_
            show own_Fin _ _ _ _ (Tj210.setTop (mkF m 152 #[.val (.int p1), .val (.int p2), .val (.int p3), .val (.int p4), .val (.int p5), .val (.int (4 : Int32)), .val (.int v6_183), .val (.int v7_184), .val (.int v8_185), .val (.int v9_186), .val (.ref b187), .val (.int xe208), .unset] []))
            refine own_go (XS.iload Xj210.here hx rfl (hb hby at_152) rfl (Steps.refl _)) ?_
            show own_Fin _ _ _ _ (Tj210.setTop (mkF m 154 #[.val (.int p1), .val (.int p2), .val (.int p3), .val (.int p4), .val (.int p5), .val (.int (4 : Int32)), .val (.int v6_183), .val (.int v7_184), .val (.int v8_185), .val (.int v9_186), .val (.ref b187), .val (.int xe208), .unset] [(.int v9_186)]))
            obtain ⟨_, _, ⟨T211, L211, k211, n211⟩, -, X211, ⟨Lc211, hQ211, l211, y211, z211⟩, st211⟩ := Jvm.LawKit.callS Xj210 hx (y := (⟨"com/example/gridtally/gridtally/casefile/FieldTextIsWholePinLaw", "bad", "(B)Z"⟩ : MethodName)) hown (mvT hZ (hw _ (List.mem_of_getElem? (i := 5) rfl))) (mvT hZ (hw _ (List.mem_of_getElem? (i := 6) rfl))) (mvT hZ (hw _ (List.mem_of_getElem? (i := 7) rfl))) (mvT hZ (hw _ (List.mem_of_getElem? (i := 8) rfl))) (by decide) (backOf (W := 0) (rm2 l Z a0 hw [] v9_186 h195 n0 Z195) hZ (hw _ (List.mem_of_getElem? (i := 8) rfl)) (hw _ (List.mem_of_getElem? (i := 7) rfl)) (by decide) (by decide)) (g := (mkF m 154 #[.val (.int p1), .val (.int p2), .val (.int p3), .val (.int p4), .val (.int p5), .val (.int (4 : Int32)), .val (.int v6_183), .val (.int v7_184), .val (.int v8_185), .val (.int v9_186), .val (.ref b187), .val (.int xe208), .unset] [(.int v9_186)])) rfl (by rw [hml]; rfl) (argsL := [(.int v9_186)]) (rest := []) (lenOf pd__28_B_29_Z rfl) rfl (by show 2 * 0 + _ ≤ _; exact Nat.le_of_eq rfl) (hb hby at_154) (fun _ _ => ⟨rfl, ej210, (by decide : 1 + 0 ≤ _), (by decide : 4 + 0 ≤ _)⟩)
            dsimp only [Pt.U, Pt.locs, Pt.cells, Pt.slots] at X211 l211 y211 z211 st211 hQ211
            subst l211 y211 z211
            obtain ⟨rfl, Nq211, e211⟩ := hQ211
            refine own_by st211 ?_
            have N211 := Fr.app Nj210 Nq211
            show own_Fin _ _ _ _ (T211.setTop (mkF m 157 #[.val (.int p1), .val (.int p2), .val (.int p3), .val (.int p4), .val (.int p5), .val (.int (4 : Int32)), .val (.int v6_183), .val (.int v7_184), .val (.int v8_185), .val (.int v9_186), .val (.ref b187), .val (.int xe208), .unset] [(.int (if own_bad v9_186 then (1 : Int32) else 0))]))
            have jn214 : ∀ (Tj214 : State) (Lj214 : List Loc) (xe212 : Int32), Stand p l e room_1 s m #[(.int p1), (.int p2), (.int p3), (.int p4), (.int p5)] below meth c Tj214 Lj214 1 4 → Tj214.heap = h195 → Fr n0 Lj214 → (xe212 = (if own_bad v9_186 = true then (0 : Int32) else xe208)) → own_Fin p e below (G0 Z p1 p2 p3 p4 p5 h0 n0 s) (Tj214.setTop (mkF m 163 #[.val (.int p1), .val (.int p2), .val (.int p3), .val (.int p4), .val (.int p5), .val (.int (4 : Int32)), .val (.int v6_183), .val (.int v7_184), .val (.int v8_185), .val (.int v9_186), .val (.ref b187), .val (.int xe212), .unset] [])) := by
              intro Tj214 Lj214 xe212 Xj214 ej214 Nj214 hj214
              refine own_go (XS.aload Xj214.here hx rfl (hb hby at_163) rfl rfl (Steps.refl _)) ?_
              show own_Fin _ _ _ _ (Tj214.setTop (mkF m 165 #[.val (.int p1), .val (.int p2), .val (.int p3), .val (.int p4), .val (.int p5), .val (.int (4 : Int32)), .val (.int v6_183), .val (.int v7_184), .val (.int v8_185), .val (.int v9_186), .val (.ref b187), .val (.int xe212), .unset] [(.ref b187)]))
              obtain ⟨_, _, ⟨T215, L215, k215, n215⟩, -, X215, ⟨Lc215, hQ215, l215, y215, z215⟩, st215⟩ := Jvm.LawKit.callS Xj214 hx (y := (⟨"com/example/gridtally/gridtally/casefile/FieldText", "isWhole", "([B)Z"⟩ : MethodName)) hown (mvT hZ (hw _ (List.mem_of_getElem? (i := 1) rfl))) (mvT hZ (hw _ (List.mem_of_getElem? (i := 2) rfl))) (mvT hZ (hw _ (List.mem_of_getElem? (i := 3) rfl))) (mvT hZ (hw _ (List.mem_of_getElem? (i := 4) rfl))) (by decide) (backOf (W := 0) (rm1_4 l Z a0 hw [] b187 k187 v6_183 v7_184 v8_185 v9_186 h195 n0 Z195 V_b187_195) hZ (hw _ (List.mem_of_getElem? (i := 4) rfl)) (hw _ (List.mem_of_getElem? (i := 3) rfl)) (by decide) (by decide)) (g := (mkF m 165 #[.val (.int p1), .val (.int p2), .val (.int p3), .val (.int p4), .val (.int p5), .val (.int (4 : Int32)), .val (.int v6_183), .val (.int v7_184), .val (.int v8_185), .val (.int v9_186), .val (.ref b187), .val (.int xe212), .unset] [(.ref b187)])) rfl (by rw [hml]; rfl) (argsL := [(.ref b187)]) (rest := []) (lenOf pd__28__5b_B_29_Z rfl) rfl (by show 2 * 0 + _ ≤ _; exact Nat.le_of_eq rfl) (hb hby at_165) (fun _ _ => ⟨rfl, ej214, (by decide : 1 + 0 ≤ _), (by decide : 4 + 0 ≤ _)⟩)
              dsimp only [Pt.U, Pt.locs, Pt.cells, Pt.slots] at X215 l215 y215 z215 st215 hQ215
              subst l215 y215 z215
              obtain ⟨rfl, Nq215, e215⟩ := hQ215
              refine own_by st215 ?_
              have N215 := Fr.app Nj214 Nq215
              show own_Fin _ _ _ _ (T215.setTop (mkF m 168 #[.val (.int p1), .val (.int p2), .val (.int p3), .val (.int p4), .val (.int p5), .val (.int (4 : Int32)), .val (.int v6_183), .val (.int v7_184), .val (.int v8_185), .val (.int v9_186), .val (.ref b187), .val (.int xe212), .unset] [(.int (if (decide (v6_183 = 34) || own_bad v6_183 || own_bad v7_184 || own_bad v8_185 || own_bad v9_186) then (0 : Int32) else 1))]))
              refine own_go (XS.istore X215.here hx rfl (hb hby at_168) rfl (l' := #[.val (.int p1), .val (.int p2), .val (.int p3), .val (.int p4), .val (.int p5), .val (.int (4 : Int32)), .val (.int v6_183), .val (.int v7_184), .val (.int v8_185), .val (.int v9_186), .val (.ref b187), .val (.int xe212), .val (.int (if (decide (v6_183 = 34) || own_bad v6_183 || own_bad v7_184 || own_bad v8_185 || own_bad v9_186) then (0 : Int32) else 1))]) rfl (Steps.refl _)) ?_
              show own_Fin _ _ _ _ (T215.setTop (mkF m 170 #[.val (.int p1), .val (.int p2), .val (.int p3), .val (.int p4), .val (.int p5), .val (.int (4 : Int32)), .val (.int v6_183), .val (.int v7_184), .val (.int v8_185), .val (.int v9_186), .val (.ref b187), .val (.int xe212), .val (.int (if (decide (v6_183 = 34) || own_bad v6_183 || own_bad v7_184 || own_bad v8_185 || own_bad v9_186) then (0 : Int32) else 1))] []))
              generalize hz_v12_216 : (if (decide (v6_183 = 34) || own_bad v6_183 || own_bad v7_184 || own_bad v8_185 || own_bad v9_186) then (0 : Int32) else 1) = v12_216
              refine own_go (XS.iload X215.here hx rfl (hb hby at_170) rfl (Steps.refl _)) ?_
              show own_Fin _ _ _ _ (T215.setTop (mkF m 172 #[.val (.int p1), .val (.int p2), .val (.int p3), .val (.int p4), .val (.int p5), .val (.int (4 : Int32)), .val (.int v6_183), .val (.int v7_184), .val (.int v8_185), .val (.int v9_186), .val (.ref b187), .val (.int xe212), .val (.int v12_216)] [(.int v12_216)]))
              refine own_go (XS.iload X215.here hx rfl (hb hby at_172) rfl (Steps.refl _)) ?_
              show own_Fin _ _ _ _ (T215.setTop (mkF m 174 #[.val (.int p1), .val (.int p2), .val (.int p3), .val (.int p4), .val (.int p5), .val (.int (4 : Int32)), .val (.int v6_183), .val (.int v7_184), .val (.int v8_185), .val (.int v9_186), .val (.ref b187), .val (.int xe212), .val (.int v12_216)] [(.int xe212), (.int v12_216)]))
              refine own_go (XS.icmpNo X215.here hx rfl (hb hby at_174) rfl (teq (show v12_216 = xe212 from by rw [← hz_v12_216, hj214, hj210, hj206, hj202, hj198]; cases own_bad v6_183 <;> cases own_bad v7_184 <;> cases own_bad v8_185 <;> cases own_bad v9_186 <;>  by_cases q : v6_183 = (34 : Int32) <;> simp [q])).2 (Steps.refl _)) ?_
              show own_Fin _ _ _ _ (T215.setTop (mkF m 177 #[.val (.int p1), .val (.int p2), .val (.int p3), .val (.int p4), .val (.int p5), .val (.int (4 : Int32)), .val (.int v6_183), .val (.int v7_184), .val (.int v8_185), .val (.int v9_186), .val (.ref b187), .val (.int xe212), .val (.int v12_216)] []))
              refine own_go (XS.iconst X215.here hx rfl (hb hby at_177) (Steps.refl _)) ?_
              show own_Fin _ _ _ _ (T215.setTop (mkF m 178 #[.val (.int p1), .val (.int p2), .val (.int p3), .val (.int p4), .val (.int p5), .val (.int (4 : Int32)), .val (.int v6_183), .val (.int v7_184), .val (.int v8_185), .val (.int v9_186), .val (.ref b187), .val (.int xe212), .val (.int v12_216)] [(.int (1 : Int32))]))
              refine own_go (XS.goto X215.here hx rfl (pc0 := 178) (pc' := 182) rfl (hb hby at_178) (by decide) (by decide) (Steps.refl _)) ?_
              show own_Fin _ _ _ _ (T215.setTop (mkF m 182 #[.val (.int p1), .val (.int p2), .val (.int p3), .val (.int p4), .val (.int p5), .val (.int (4 : Int32)), .val (.int v6_183), .val (.int v7_184), .val (.int v8_185), .val (.int v9_186), .val (.ref b187), .val (.int xe212), .val (.int v12_216)] [(.int (1 : Int32))]))
              obtain ⟨fs217, hr217, hrun217, hended217, hW217, hsame217⟩ := X215.leave (v := some (.int (1 : Int32))) (fun h => by rw [Bd.returns] at h; cases h)
              refine own_done (retN X215 hx (t := .boolean) Bd.returns (by simp) (hb hby at_182) hr217) hrun217 hended217 ⟨_, _, rfl, ?_, ⟨_, rfl⟩, hW217, hsame217.mono (by decide) (by decide)⟩
              show Q0 Z p1 p2 p3 p4 p5 h0 n0 _ T215.heap _
              rw [e215]
              exact ⟨rfl, N215⟩
            by_cases c213 : own_bad v9_186 = true
            · refine own_go (XS.ifNo X211.here hx rfl (hb hby at_157) rfl ((if0 _ _).trans (feq (show ¬ ((if own_bad v9_186 then (1 : Int32) else 0) = (0 : Int32)) from by simp [c213])).1) (Steps.refl _)) ?_
              show own_Fin _ _ _ _ (T211.setTop (mkF m 160 #[.val (.int p1), .val (.int p2), .val (.int p3), .val (.int p4), .val (.int p5), .val (.int (4 : Int32)), .val (.int v6_183), .val (.int v7_184), .val (.int v8_185), .val (.int v9_186), .val (.ref b187), .val (.int xe208), .unset] []))
              refine own_go (XS.iconst X211.here hx rfl (hb hby at_160) (Steps.refl _)) ?_
              show own_Fin _ _ _ _ (T211.setTop (mkF m 161 #[.val (.int p1), .val (.int p2), .val (.int p3), .val (.int p4), .val (.int p5), .val (.int (4 : Int32)), .val (.int v6_183), .val (.int v7_184), .val (.int v8_185), .val (.int v9_186), .val (.ref b187), .val (.int xe208), .unset] [(.int (0 : Int32))]))
              refine own_go (XS.istore X211.here hx rfl (hb hby at_161) rfl (l' := #[.val (.int p1), .val (.int p2), .val (.int p3), .val (.int p4), .val (.int p5), .val (.int (4 : Int32)), .val (.int v6_183), .val (.int v7_184), .val (.int v8_185), .val (.int v9_186), .val (.ref b187), .val (.int (0 : Int32)), .unset]) rfl (Steps.refl _)) ?_
              show own_Fin _ _ _ _ (T211.setTop (mkF m 163 #[.val (.int p1), .val (.int p2), .val (.int p3), .val (.int p4), .val (.int p5), .val (.int (4 : Int32)), .val (.int v6_183), .val (.int v7_184), .val (.int v8_185), .val (.int v9_186), .val (.ref b187), .val (.int (0 : Int32)), .unset] []))
              exact jn214 T211 _ (0 : Int32) X211 e211 N211 (by simp [c213])
            · refine own_go (XS.ifYes X211.here hx rfl (pc0 := 157) (pc' := 163) rfl (hb hby at_157) rfl ((if0 _ _).trans (teq (show (if own_bad v9_186 then (1 : Int32) else 0) = (0 : Int32) from by simp [c213])).1) (by decide) (by decide) (Steps.refl _)) ?_
              show own_Fin _ _ _ _ (T211.setTop (mkF m 163 #[.val (.int p1), .val (.int p2), .val (.int p3), .val (.int p4), .val (.int p5), .val (.int (4 : Int32)), .val (.int v6_183), .val (.int v7_184), .val (.int v8_185), .val (.int v9_186), .val (.ref b187), .val (.int xe208), .unset] []))
              exact jn214 T211 _ xe208 X211 e211 N211 (by simp [c213])
          by_cases c209 : own_bad v8_185 = true
          · refine own_go (XS.ifNo X207.here hx rfl (hb hby at_140) rfl ((if0 _ _).trans (feq (show ¬ ((if own_bad v8_185 then (1 : Int32) else 0) = (0 : Int32)) from by simp [c209])).1) (Steps.refl _)) ?_
            show own_Fin _ _ _ _ (T207.setTop (mkF m 143 #[.val (.int p1), .val (.int p2), .val (.int p3), .val (.int p4), .val (.int p5), .val (.int (4 : Int32)), .val (.int v6_183), .val (.int v7_184), .val (.int v8_185), .val (.int v9_186), .val (.ref b187), .val (.int xe204), .unset] []))
            refine own_go (XS.iconst X207.here hx rfl (hb hby at_143) (Steps.refl _)) ?_
            show own_Fin _ _ _ _ (T207.setTop (mkF m 144 #[.val (.int p1), .val (.int p2), .val (.int p3), .val (.int p4), .val (.int p5), .val (.int (4 : Int32)), .val (.int v6_183), .val (.int v7_184), .val (.int v8_185), .val (.int v9_186), .val (.ref b187), .val (.int xe204), .unset] [(.int (0 : Int32))]))
            refine own_go (XS.istore X207.here hx rfl (hb hby at_144) rfl (l' := #[.val (.int p1), .val (.int p2), .val (.int p3), .val (.int p4), .val (.int p5), .val (.int (4 : Int32)), .val (.int v6_183), .val (.int v7_184), .val (.int v8_185), .val (.int v9_186), .val (.ref b187), .val (.int (0 : Int32)), .unset]) rfl (Steps.refl _)) ?_
            show own_Fin _ _ _ _ (T207.setTop (mkF m 146 #[.val (.int p1), .val (.int p2), .val (.int p3), .val (.int p4), .val (.int p5), .val (.int (4 : Int32)), .val (.int v6_183), .val (.int v7_184), .val (.int v8_185), .val (.int v9_186), .val (.ref b187), .val (.int (0 : Int32)), .unset] []))
            exact jn210 T207 _ (0 : Int32) X207 e207 N207 (by simp [c209])
          · refine own_go (XS.ifYes X207.here hx rfl (pc0 := 140) (pc' := 146) rfl (hb hby at_140) rfl ((if0 _ _).trans (teq (show (if own_bad v8_185 then (1 : Int32) else 0) = (0 : Int32) from by simp [c209])).1) (by decide) (by decide) (Steps.refl _)) ?_
            show own_Fin _ _ _ _ (T207.setTop (mkF m 146 #[.val (.int p1), .val (.int p2), .val (.int p3), .val (.int p4), .val (.int p5), .val (.int (4 : Int32)), .val (.int v6_183), .val (.int v7_184), .val (.int v8_185), .val (.int v9_186), .val (.ref b187), .val (.int xe204), .unset] []))
            exact jn210 T207 _ xe204 X207 e207 N207 (by simp [c209])
        by_cases c205 : own_bad v7_184 = true
        · refine own_go (XS.ifNo X203.here hx rfl (hb hby at_123) rfl ((if0 _ _).trans (feq (show ¬ ((if own_bad v7_184 then (1 : Int32) else 0) = (0 : Int32)) from by simp [c205])).1) (Steps.refl _)) ?_
          show own_Fin _ _ _ _ (T203.setTop (mkF m 126 #[.val (.int p1), .val (.int p2), .val (.int p3), .val (.int p4), .val (.int p5), .val (.int (4 : Int32)), .val (.int v6_183), .val (.int v7_184), .val (.int v8_185), .val (.int v9_186), .val (.ref b187), .val (.int xe200), .unset] []))
          refine own_go (XS.iconst X203.here hx rfl (hb hby at_126) (Steps.refl _)) ?_
          show own_Fin _ _ _ _ (T203.setTop (mkF m 127 #[.val (.int p1), .val (.int p2), .val (.int p3), .val (.int p4), .val (.int p5), .val (.int (4 : Int32)), .val (.int v6_183), .val (.int v7_184), .val (.int v8_185), .val (.int v9_186), .val (.ref b187), .val (.int xe200), .unset] [(.int (0 : Int32))]))
          refine own_go (XS.istore X203.here hx rfl (hb hby at_127) rfl (l' := #[.val (.int p1), .val (.int p2), .val (.int p3), .val (.int p4), .val (.int p5), .val (.int (4 : Int32)), .val (.int v6_183), .val (.int v7_184), .val (.int v8_185), .val (.int v9_186), .val (.ref b187), .val (.int (0 : Int32)), .unset]) rfl (Steps.refl _)) ?_
          show own_Fin _ _ _ _ (T203.setTop (mkF m 129 #[.val (.int p1), .val (.int p2), .val (.int p3), .val (.int p4), .val (.int p5), .val (.int (4 : Int32)), .val (.int v6_183), .val (.int v7_184), .val (.int v8_185), .val (.int v9_186), .val (.ref b187), .val (.int (0 : Int32)), .unset] []))
          exact jn206 T203 _ (0 : Int32) X203 e203 N203 (by simp [c205])
        · refine own_go (XS.ifYes X203.here hx rfl (pc0 := 123) (pc' := 129) rfl (hb hby at_123) rfl ((if0 _ _).trans (teq (show (if own_bad v7_184 then (1 : Int32) else 0) = (0 : Int32) from by simp [c205])).1) (by decide) (by decide) (Steps.refl _)) ?_
          show own_Fin _ _ _ _ (T203.setTop (mkF m 129 #[.val (.int p1), .val (.int p2), .val (.int p3), .val (.int p4), .val (.int p5), .val (.int (4 : Int32)), .val (.int v6_183), .val (.int v7_184), .val (.int v8_185), .val (.int v9_186), .val (.ref b187), .val (.int xe200), .unset] []))
          exact jn206 T203 _ xe200 X203 e203 N203 (by simp [c205])
      by_cases c201 : own_bad v6_183 = true
      · refine own_go (XS.ifNo X199.here hx rfl (hb hby at_106) rfl ((if0 _ _).trans (feq (show ¬ ((if own_bad v6_183 then (1 : Int32) else 0) = (0 : Int32)) from by simp [c201])).1) (Steps.refl _)) ?_
        show own_Fin _ _ _ _ (T199.setTop (mkF m 109 #[.val (.int p1), .val (.int p2), .val (.int p3), .val (.int p4), .val (.int p5), .val (.int (4 : Int32)), .val (.int v6_183), .val (.int v7_184), .val (.int v8_185), .val (.int v9_186), .val (.ref b187), .val (.int xe196), .unset] []))
        refine own_go (XS.iconst X199.here hx rfl (hb hby at_109) (Steps.refl _)) ?_
        show own_Fin _ _ _ _ (T199.setTop (mkF m 110 #[.val (.int p1), .val (.int p2), .val (.int p3), .val (.int p4), .val (.int p5), .val (.int (4 : Int32)), .val (.int v6_183), .val (.int v7_184), .val (.int v8_185), .val (.int v9_186), .val (.ref b187), .val (.int xe196), .unset] [(.int (0 : Int32))]))
        refine own_go (XS.istore X199.here hx rfl (hb hby at_110) rfl (l' := #[.val (.int p1), .val (.int p2), .val (.int p3), .val (.int p4), .val (.int p5), .val (.int (4 : Int32)), .val (.int v6_183), .val (.int v7_184), .val (.int v8_185), .val (.int v9_186), .val (.ref b187), .val (.int (0 : Int32)), .unset]) rfl (Steps.refl _)) ?_
        show own_Fin _ _ _ _ (T199.setTop (mkF m 112 #[.val (.int p1), .val (.int p2), .val (.int p3), .val (.int p4), .val (.int p5), .val (.int (4 : Int32)), .val (.int v6_183), .val (.int v7_184), .val (.int v8_185), .val (.int v9_186), .val (.ref b187), .val (.int (0 : Int32)), .unset] []))
        exact jn202 T199 _ (0 : Int32) X199 e199 N199 (by simp [c201])
      · refine own_go (XS.ifYes X199.here hx rfl (pc0 := 106) (pc' := 112) rfl (hb hby at_106) rfl ((if0 _ _).trans (teq (show (if own_bad v6_183 then (1 : Int32) else 0) = (0 : Int32) from by simp [c201])).1) (by decide) (by decide) (Steps.refl _)) ?_
        show own_Fin _ _ _ _ (T199.setTop (mkF m 112 #[.val (.int p1), .val (.int p2), .val (.int p3), .val (.int p4), .val (.int p5), .val (.int (4 : Int32)), .val (.int v6_183), .val (.int v7_184), .val (.int v8_185), .val (.int v9_186), .val (.ref b187), .val (.int xe196), .unset] []))
        exact jn202 T199 _ xe196 X199 e199 N199 (by simp [c201])
    by_cases c197 : v6_183 = (34 : Int32)
    · refine own_go (XS.icmpNo X195.here hx rfl (hb hby at_90) rfl (teq c197).2 (Steps.refl _)) ?_
      show own_Fin _ _ _ _ (T195.setTop (mkF m 93 #[.val (.int p1), .val (.int p2), .val (.int p3), .val (.int p4), .val (.int p5), .val (.int (4 : Int32)), .val (.int v6_183), .val (.int v7_184), .val (.int v8_185), .val (.int v9_186), .val (.ref b187), .val (.int (1 : Int32)), .unset] []))
      refine own_go (XS.iconst X195.here hx rfl (hb hby at_93) (Steps.refl _)) ?_
      show own_Fin _ _ _ _ (T195.setTop (mkF m 94 #[.val (.int p1), .val (.int p2), .val (.int p3), .val (.int p4), .val (.int p5), .val (.int (4 : Int32)), .val (.int v6_183), .val (.int v7_184), .val (.int v8_185), .val (.int v9_186), .val (.ref b187), .val (.int (1 : Int32)), .unset] [(.int (0 : Int32))]))
      refine own_go (XS.istore X195.here hx rfl (hb hby at_94) rfl (l' := #[.val (.int p1), .val (.int p2), .val (.int p3), .val (.int p4), .val (.int p5), .val (.int (4 : Int32)), .val (.int v6_183), .val (.int v7_184), .val (.int v8_185), .val (.int v9_186), .val (.ref b187), .val (.int (0 : Int32)), .unset]) rfl (Steps.refl _)) ?_
      show own_Fin _ _ _ _ (T195.setTop (mkF m 96 #[.val (.int p1), .val (.int p2), .val (.int p3), .val (.int p4), .val (.int p5), .val (.int (4 : Int32)), .val (.int v6_183), .val (.int v7_184), .val (.int v8_185), .val (.int v9_186), .val (.ref b187), .val (.int (0 : Int32)), .unset] []))
      exact jn198 T195 _ (0 : Int32) X195 e195 N195 (by simp [c197])
    · refine own_go (XS.icmpYes X195.here hx rfl (pc0 := 90) (pc' := 96) rfl (hb hby at_90) rfl (feq c197).2 (by decide) (by decide) (Steps.refl _)) ?_
      show own_Fin _ _ _ _ (T195.setTop (mkF m 96 #[.val (.int p1), .val (.int p2), .val (.int p3), .val (.int p4), .val (.int p5), .val (.int (4 : Int32)), .val (.int v6_183), .val (.int v7_184), .val (.int v8_185), .val (.int v9_186), .val (.ref b187), .val (.int (1 : Int32)), .unset] []))
      exact jn198 T195 _ (1 : Int32) X195 e195 N195 (by simp [c197])
set_option maxRecDepth 65536 in
set_option maxHeartbeats 40000000 in
theorem comes_1 {Post : Tables → Env → Array Value → State → Outcome → State → Prop} (hpost : ∀ tb e args s v u, (limb_1_1.after args s (.returned v) u = true ∧ limb_1_2.after args s (.returned v) u = true ∧ True) → FrameEnd s (.returned v) u (Jvm.fieldLocs frame_1_writes args s ++ Jvm.arrayLocs frame_1_arrays args s ++ Jvm.staticLocs frame_1_statics s) 16 128 → Post tb e args s (.returned v) u) :
    ArmFor flags0 classFile x code maxLocals ret World_1 tables_1 room_1 Calls_1 rest_1 Pre_1 Post := by
  intro l hfl _ _ p e ha hc hk s m args below hf hA hF happ hP
  obtain ⟨hcalls, hrest, hpre⟩ := hP
  obtain ⟨-, -, -, hnamed, -, -, -, hat⟩ := (Spec.applies_iff hf).mp happ
  obtain ⟨hg, hn⟩ := and_e (Cond.before_iff.mp (show (Jvm.Cond.and given_1 narrow_1).before args s = true from hpre))
  obtain ⟨gg1, gg2⟩ := and_e hg
  obtain ⟨gg3, gg4⟩ := and_e gg2
  obtain ⟨gg5, gg6⟩ := and_e gg4
  obtain ⟨gg7, gg8⟩ := and_e gg6
  obtain ⟨gg9, gg10⟩ := and_e gg8
  obtain ⟨w0, w1, w2, w3, w4, rfl⟩ : ∃ w0 w1 w2 w3 w4 : Value, args = #[w0, w1, w2, w3, w4] := by
    have hs : args.size = 5 := by simpa [Cond.value, given_1] using gg1
    obtain ⟨L⟩ := args
    match L, hs with
    | [w0, w1, w2, w3, w4], _ => exact ⟨w0, w1, w2, w3, w4, rfl⟩
  have hw := fun d (hd : d ∈ tables_1) => atoms_spec (ws := Jvm.Cond.code x code maxLocals ret :: tables_1) hat d (List.mem_cons_of_mem _ hd)
  obtain ⟨i0, ei0⟩ := is_v gg3
  obtain rfl : w0 = (.int i0) := Option.some.inj ei0
  obtain ⟨i1, ei1⟩ := is_v gg5
  obtain rfl : w1 = (.int i1) := Option.some.inj ei1
  obtain ⟨i2, ei2⟩ := is_v gg7
  obtain rfl : w2 = (.int i2) := Option.some.inj ei2
  obtain ⟨i3, ei3⟩ := is_v gg9
  obtain rfl : w3 = (.int i3) := Option.some.inj ei3
  obtain ⟨i4, ei4⟩ := is_v gg10
  obtain rfl : w4 = (.int i4) := Option.some.inj ei4
  obtain ⟨n, o, h1, h2, h3, _, L, rfl, ⟨rfl, N⟩, hq⟩ := rm0 l s _ hw tables_1 i0 i1 i2 i3 i4  s.heap s.heap.size (Nat.le_refl _)  p e ha hc hk s m _ below hf ((Spec.applies_iff_loose hf).mp happ).1 ⟨rfl, State.Warmed39.refl s, rfl⟩ trivial
  refine ⟨n, _, h1, h2, h3, hpost _ _ _ _ _ _ ⟨Cond.after_iff.mpr rfl, Cond.after_iff.mpr (eq_i res_at (Term.int_eval (1)) rfl), trivial⟩ ⟨hq.1, hq.2.1, (hq.2.2.sift fun y hy => Or.inr (N y hy)).mono (by decide) (by decide)⟩⟩
theorem main_1_1 : Claimed_1_1 := comes_1 fun _ _ _ _ _ _ h hF => ⟨h.1, hF⟩
theorem main_1_2 : Claimed_1_2 := comes_1 fun _ _ _ _ _ _ h hF => ⟨h.2.1, hF⟩
end Jvm.Pilot.@@N@@
namespace Jvm.Pilot.@@N@@
open Jvm Jvm.ClassFile Sem Op Lib Jvm.Free Jvm.Stand Jvm.Pilot.@@N@@.Jvm.D
/-! MADE BY PROGRAM (witnessworld.py) out of the Statement's table words and the real class files: 9 classes; the members and pool entries that the words name. The judged class is class 1, her method 2. -/
namespace start1
open Jvm.ClassFile
def u (s : String) : CpInfo := .utf8 (stringToUtf16 s)
/-- a pool by its gaps: so many unusable entries, then the entry; so many at the end -/
def gap : Nat → List CpInfo → List CpInfo
  | 0, r => r
  | n + 1, r => .unusable :: gap n r
def poolList (es : List (Nat × CpInfo)) (last : Nat) : List CpInfo := es.foldr (fun e r => gap e.1 (e.2 :: r)) (gap last [])
def pool (es : List (Nat × CpInfo)) (last : Nat) : Array CpInfo := ⟨poolList es last⟩
def fileOf (pool : Array CpInfo) (this : Nat) (attrs : Array Attribute := #[]) (ms : Array MethodInfo := #[]) (fl : Nat := 33) (sup : Nat := 0) (ifs : Array Nat := #[]) (fds : Array FieldInfo := #[]) : ClassFile where
  minorVersion := 0
  majorVersion := 65
  constantPool := pool
  accessFlags := fl
  thisClass := this
  superClass := sup
  interfaces := ifs
  fields := fds
  methods := ms
  attributes := attrs
def plain (name : String) (sup : Option ClassId) : Class where
  name := name
  kind := .ordinary
  loader := none
  accessFlags := 33
  super := sup
  interfaces := #[]
  cf := none
  fields := #[]
  methods := #[]
  instanceTypes := #[]
  staticTypes := #[]
  resolved := #[]
  callSites := []
  init := .initialized
  statics := none
  mirror := none

def pool0 : Array CpInfo := pool [(5, u "<init>"), (0, u "()V"), (1, .class_ 10), (1, u "java/lang/Object")] 113

def k0m0 : Method := { name := "<init>", desc := "()V", sig := { parameters := [], returnType := none }, accessFlags := 1, code := none }
/-- java/lang/Object -/
def k0 : Class := { plain "java/lang/Object" none with
  accessFlags := 33
  interfaces := #[]
  cf := some (fileOf pool0 8 #[] #[{ accessFlags := 1, nameIndex := 5, descriptorIndex := 6, attributes := #[] }] 33 0 #[] #[])
  fields := #[]
  methods := #[k0m0]
  instanceTypes := #[]
  staticTypes := #[]
  resolved := Array.replicate 124 none
  statics := none }

def pool1 : Array CpInfo := pool [(2, .class_ 4), (1, u "java/lang/Object"), (0, u "<init>"), (0, u "()V"), (0, .methodref 8 9), (0, .class_ 10), (0, .nameAndType 11 12), (0, u "com/example/gridtally/gridtally/casefile/FieldTextIsWholePinLaw"), (0, u "bad"), (0, u "(B)Z"), (0, .methodref 14 15), (0, .class_ 16), (0, .nameAndType 17 18), (0, u "com/example/gridtally/gridtally/casefile/FieldText"), (0, u "isWhole"), (0, u "([B)Z"), (3, u "law"), (0, u "(IIIII)Z")] 4

def k1m0 : Method := { name := "<init>", desc := "()V", sig := { parameters := [], returnType := none }, accessFlags := 1, code := none }
def k1c1 : Code := { maxStack := 2, maxLocals := 1, code := method_2_code, exceptionTable := #[], attributes := #[] }
def k1m1 : Method := { name := "bad", desc := "(B)Z", sig := { parameters := [.byte], returnType := some .boolean }, accessFlags := 10, code := some k1c1 }
def k1c2 : Code := { maxStack := 3, maxLocals := 13, code := code, exceptionTable := #[], attributes := #[] }
def k1m2 : Method := { name := "law", desc := "(IIIII)Z", sig := { parameters := [.int, .int, .int, .int, .int], returnType := some .boolean }, accessFlags := 9, code := some k1c2 }
/-- com/example/gridtally/gridtally/casefile/FieldTextIsWholePinLaw -/
def k1 : Class := { plain "com/example/gridtally/gridtally/casefile/FieldTextIsWholePinLaw" (some 0) with
  accessFlags := 49
  interfaces := #[]
  cf := some (fileOf pool1 8 #[] #[{ accessFlags := 1, nameIndex := 5, descriptorIndex := 6, attributes := #[] }, { accessFlags := 10, nameIndex := 11, descriptorIndex := 12, attributes := #[] }, { accessFlags := 9, nameIndex := 22, descriptorIndex := 23, attributes := #[] }] 49 2 #[] #[])
  fields := #[]
  methods := #[k1m0, k1m1, k1m2]
  instanceTypes := #[]
  staticTypes := #[]
  resolved := Array.replicate 28 none
  statics := none }

def pool2 : Array CpInfo := pool [(2, .class_ 4), (1, u "java/lang/Object"), (3, .class_ 10), (1, u "com/example/gridtally/gridtally/casefile/FieldText"), (0, u "isWhole"), (0, u "([B)Z"), (9, u "utf8"), (0, u "[B"), (2, u "length"), (0, u "I"), (16, u "LONG_AT"), (0, u "Ljava/lang/invoke/VarHandle;"), (8, u "first"), (0, u "J"), (6, u "firstMask"), (5, u "middleAt"), (2, u "middle"), (2, u "last"), (18, u "COMMA"), (0, u "B"), (2, u "LONG_WORDS")] 13

def k2c0 : Code := { maxStack := 2, maxLocals := 5, code := prog_14_method_2_code, exceptionTable := #[], attributes := #[] }
def k2m0 : Method := { name := "isWhole", desc := "([B)Z", sig := { parameters := [(.array .byte)], returnType := some .boolean }, accessFlags := 8, code := some k2c0 }
/-- com/example/gridtally/gridtally/casefile/FieldText -/
def k2 : Class := { plain "com/example/gridtally/gridtally/casefile/FieldText" (some 0) with
  accessFlags := 48
  interfaces := #[]
  cf := some (fileOf pool2 8 #[] #[{ accessFlags := 8, nameIndex := 11, descriptorIndex := 12, attributes := #[] }] 48 2 #[] #[{ accessFlags := 26, nameIndex := 93, descriptorIndex := 94, attributes := #[] }, { accessFlags := 26, nameIndex := 97, descriptorIndex := 27, attributes := #[] }, { accessFlags := 26, nameIndex := 44, descriptorIndex := 45, attributes := #[] }, { accessFlags := 18, nameIndex := 22, descriptorIndex := 23, attributes := #[] }, { accessFlags := 18, nameIndex := 26, descriptorIndex := 27, attributes := #[] }, { accessFlags := 18, nameIndex := 54, descriptorIndex := 55, attributes := #[] }, { accessFlags := 18, nameIndex := 71, descriptorIndex := 55, attributes := #[] }, { accessFlags := 18, nameIndex := 74, descriptorIndex := 55, attributes := #[] }, { accessFlags := 18, nameIndex := 68, descriptorIndex := 27, attributes := #[] }, { accessFlags := 18, nameIndex := 62, descriptorIndex := 55, attributes := #[] }])
  fields := #[{ name := "COMMA", type := .byte, accessFlags := 26, slot := 0, constantValue := 0 }, { name := "LONG_WORDS", type := .int, accessFlags := 26, slot := 1, constantValue := 0 }, { name := "LONG_AT", type := (.object "java/lang/invoke/VarHandle"), accessFlags := 26, slot := 2, constantValue := 0 }, { name := "utf8", type := (.array .byte), accessFlags := 18, slot := 0, constantValue := 0 }, { name := "length", type := .int, accessFlags := 18, slot := 1, constantValue := 0 }, { name := "first", type := .long, accessFlags := 18, slot := 2, constantValue := 0 }, { name := "middle", type := .long, accessFlags := 18, slot := 3, constantValue := 0 }, { name := "last", type := .long, accessFlags := 18, slot := 4, constantValue := 0 }, { name := "middleAt", type := .int, accessFlags := 18, slot := 5, constantValue := 0 }, { name := "firstMask", type := .long, accessFlags := 18, slot := 6, constantValue := 0 }]
  methods := #[k2m0]
  instanceTypes := #[(.array .byte), .int, .long, .long, .long, .int, .long]
  staticTypes := #[.byte, .int, (.object "java/lang/invoke/VarHandle")]
  resolved := Array.replicate 111 none
  statics := none }

def pool3 : Array CpInfo := pool [(1, u "java/lang/Cloneable"), (0, .class_ 1), (0, u "java/lang/Object"), (0, .class_ 3)] 3

/-- java/lang/Cloneable -/
def k3 : Class := { plain "java/lang/Cloneable" (some 0) with
  accessFlags := 1537
  interfaces := #[]
  cf := some (fileOf pool3 2 #[] #[] 1537 4 #[] #[])
  fields := #[]
  methods := #[]
  instanceTypes := #[]
  staticTypes := #[]
  resolved := Array.replicate 8 none
  statics := none }

def pool4 : Array CpInfo := pool [(1, u "java/io/Serializable"), (0, .class_ 1), (0, u "java/lang/Object"), (0, .class_ 3)] 3

/-- java/io/Serializable -/
def k4 : Class := { plain "java/io/Serializable" (some 0) with
  accessFlags := 1537
  interfaces := #[]
  cf := some (fileOf pool4 2 #[] #[] 1537 4 #[] #[])
  fields := #[]
  methods := #[]
  instanceTypes := #[]
  staticTypes := #[]
  resolved := Array.replicate 8 none
  statics := none }

/-- the primitive byte -/
def k5 : Class := { plain "byte" none with kind := .primitive 'B', accessFlags := 0x411 }
/-- [B -/
def k6 : Class := { plain "[B" (some 0) with kind := .array 5 .byte, interfaces := #[3, 4], accessFlags := 1041 }

/-- the primitive int -/
def k7 : Class := { plain "int" none with kind := .primitive 'I', accessFlags := 0x411 }
/-- [I -/
def k8 : Class := { plain "[I" (some 0) with kind := .array 7 .int, interfaces := #[3, 4], accessFlags := 1041 }

def heap : Heap := #[]
def classes : Array Class := #[k0, k1, k2, k3, k4, k5, k6, k7, k8]
def interned : List (Array UInt16 × Addr) := []
def slotsUsed : Nat := 0
def theMethod : MethodId := ⟨1, 2⟩
def args0 : Array Value := #[.int 3, .int 1, .int 2, .int 3, .int 4]
def aboutOver (below : List Frame) : State where
  vm := { classes := classes, interned := interned.toArray }
  heap := heap
  slotsUsed := slotsUsed
  threads := #[{ frames := .invoking theMethod args0 :: below }]
def below0 : List Frame := [.native { method := ⟨0, 0⟩, args := #[] }]
def about1 : State := aboutOver below0
def p0 : Program := .bare "" "" ""
def e0 : Env := launch0.env 0 0 0
theorem w_frames : about1.frames = Frame.invoking theMethod args0 :: below0 := rfl
set_option maxRecDepth 65536 in
theorem w_args : argsFit about1.vm theMethod args0 = true := by decide +kernel
set_option maxRecDepth 65536 in
theorem w_heap : heapFits about1 = true := by decide +kernel
set_option maxRecDepth 65536 in
theorem w_runnable : about1.curStatus? = some .runnable := by decide +kernel
set_option maxRecDepth 65536 in
theorem w_alone : about1.alone = true := by decide +kernel
set_option maxRecDepth 65536 in
theorem w_named : about1.methodNamed? x = some theMethod := by decide +kernel
set_option maxRecDepth 65536 in
theorem w_hears : about1.hears theMethod below0 = true := by decide +kernel
set_option maxRecDepth 65536 in
theorem w_ripe : about1.ripe theMethod args0 below0 = true := by decide +kernel
theorem w_running : about1.status = .running := rfl
set_option maxRecDepth 65536 in
theorem w_room : about1.hasRoom e0.platform room_1 = true :=
  launch0.hasRoom_least _ room_1 (by decide +kernel) (by decide +kernel) (by decide +kernel) (by decide +kernel) (by decide +kernel) (by decide +kernel)
theorem allAtoms_all (ts : List Jvm.Cond) (a : Array Jvm.Value) (st : Jvm.State) : (allAtoms ts).before a st = ts.all (fun c => c.before a st) := by
  induction ts with
  | nil => rfl
  | cons c t ih =>
    show (Jvm.Cond.and c (allAtoms t)).before a st = _
    rw [Jvm.Cond.before_and, ih, List.all_cons]
def words1 : List Jvm.Cond := Jvm.Cond.code x code maxLocals ret :: tables_1
/-- a 'code' word, met by the world's own term for the bytes: nothing is compared byte by byte -/
theorem code_word {y : MethodName} {bytes : ByteArray} {mx : Nat} {rt : Option FieldType} {a : Array Value} {s : State} {m : MethodId} {meth : Method} {c : Code} (h1 : s.methodNamed? y = some m) (h2 : s.vm.method? m = some meth) (h3 : meth.code = some c) (h4 : c.code = bytes)
    (h5 : (c.maxLocals == mx && c.exceptionTable.isEmpty && decide (c.maxStack ≤ mostOperands) && decide (meth.sig.returnType = rt) && !meth.locks && decide (parseMethodDescriptor y.desc = some meth.sig)) = true) : (Jvm.Cond.code y bytes mx rt).before a s = true := by
  simp only [Bool.and_eq_true, beq_iff_eq, Bool.not_eq_true', decide_eq_true_eq] at h5
  obtain ⟨⟨⟨⟨⟨g1, g2⟩, g3⟩, g4⟩, g5⟩, g6⟩ := h5
  simp [Cond.before, Cond.holds, Cond.value, h1, h2, h3, h4, g1, g2, g3, g4, g5, g6]
def isCode : Jvm.Cond → Bool
  | .code _ _ _ _ => true
  | _ => false
theorem all_split {L : List Jvm.Cond} {P : Jvm.Cond → Bool} (h1 : L.all (fun c => isCode c || P c) = true) (h2 : ∀ c ∈ L.filter isCode, P c = true) : L.all P = true := by
  refine List.all_eq_true.mpr fun c hc => ?_
  have h := List.all_eq_true.mp h1 c hc
  rcases Bool.eq_false_or_eq_true (isCode c) with hi | hi
  · exact h2 c (List.mem_filter.mpr ⟨hc, hi⟩)
  · simpa [hi] using h
set_option maxRecDepth 65536 in
theorem w_c0 : (Jvm.Cond.code x code maxLocals ret).before args0 about1 = true := code_word (m := ⟨1, 2⟩) (meth := k1m2) (c := k1c2) (by decide +kernel) rfl rfl rfl (by decide +kernel)
set_option maxRecDepth 65536 in
theorem w_c1 : (Jvm.Cond.code ({ cls := "com/example/gridtally/gridtally/casefile/FieldText", name := "isWhole", desc := "([B)Z" } : Jvm.MethodName) prog_14_method_2_code (5 : Nat) (Option.some Jvm.ClassFile.FieldType.boolean)).before args0 about1 = true := code_word (m := ⟨2, 0⟩) (meth := k2m0) (c := k2c0) (by decide +kernel) rfl rfl rfl (by decide +kernel)
set_option maxRecDepth 65536 in
theorem w_c2 : (Jvm.Cond.code ({ cls := "com/example/gridtally/gridtally/casefile/FieldTextIsWholePinLaw", name := "bad", desc := "(B)Z" } : Jvm.MethodName) method_2_code (1 : Nat) (Option.some Jvm.ClassFile.FieldType.boolean)).before args0 about1 = true := code_word (m := ⟨1, 1⟩) (meth := k1m1) (c := k1c1) (by decide +kernel) rfl rfl rfl (by decide +kernel)
def codes1 : List Jvm.Cond := [Jvm.Cond.code x code maxLocals ret, Jvm.Cond.code ({ cls := "com/example/gridtally/gridtally/casefile/FieldText", name := "isWhole", desc := "([B)Z" } : Jvm.MethodName) prog_14_method_2_code (5 : Nat) (Option.some Jvm.ClassFile.FieldType.boolean), Jvm.Cond.code ({ cls := "com/example/gridtally/gridtally/casefile/FieldTextIsWholePinLaw", name := "bad", desc := "(B)Z" } : Jvm.MethodName) method_2_code (1 : Nat) (Option.some Jvm.ClassFile.FieldType.boolean)]
set_option maxRecDepth 65536 in
theorem codes_eq : words1.filter isCode = codes1 := rfl
theorem w_codes : ∀ c ∈ words1.filter isCode, c.before args0 about1 = true := by
  rw [codes_eq]
  intro c hc
  simp only [codes1, List.mem_cons, List.not_mem_nil, or_false] at hc
  rcases hc with rfl | rfl | rfl
  · exact w_c0
  · exact w_c1
  · exact w_c2
set_option maxRecDepth 65536 in
theorem w_t1 : words1.all (fun c => isCode c || c.before args0 about1) = true := by decide +kernel
theorem w_tables : (allAtoms (Jvm.Cond.code x code maxLocals ret :: tables_1)).before args0 about1 = true := by
  rw [allAtoms_all]
  show words1.all (fun c => c.before args0 about1) = true
  refine all_split ?_ w_codes
  rw [w_t1]
set_option maxRecDepth 65536 in
theorem w_case : (Jvm.Cond.and given_1 narrow_1).before args0 about1 = true := by decide +kernel
theorem w_applies : (headSpec (Jvm.Cond.code x code maxLocals ret :: tables_1) room_1).applies x e0.platform about1 = true :=
  (Spec.applies_iff w_frames).mpr ⟨w_running, w_runnable, w_alone, w_named, w_hears, w_ripe, w_room, w_tables⟩
theorem atStart : AtStart classFile x code maxLocals ret World_1 tables_1 room_1 Calls_1 rest_1 Pre_1 launch0 p0 e0 about1 theMethod args0 below0 :=
  ⟨lists_1, trivial, launch0.admits_env _ _ _, launch0.least_env, fairChoices_fair.cas, fairChoices_fair.clock, w_frames, w_args, w_heap, w_applies, trivial, trivial, w_case⟩
end start1
theorem witness_1 : WitnessClaimed_1 := ⟨start1.p0, start1.e0, start1.about1, start1.theMethod, start1.args0, start1.below0, start1.atStart⟩
end Jvm.Pilot.@@N@@
