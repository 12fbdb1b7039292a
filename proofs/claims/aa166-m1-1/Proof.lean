import JvmDerived
import JvmDerived.Pilot.@@N@@Statement
import JvmDerived.Pilot.@@N@@Code
set_option linter.unusedVariables false
set_option linter.unusedSimpArgs false
namespace Jvm.Pilot.@@N@@
open Jvm Jvm.ClassFile Sem Op Lib Jvm.Free Jvm.Stand Jvm.LawKit Jvm.RoadKit Bundle Jvm.Pilot.@@N@@.Jvm.D
/-- the run from S ends as G says -/
def own_Fin (p : Program) (e : Env) (below : List Frame) (G : Outcome → State → Prop) (S : State) : Prop :=
  ∃ t o, Steps p.tables e below S t ∧ t.status = .running ∧ Ended t below o ∧ G o t
theorem own_go {p : Program} {e : Env} {below : List Frame} {G : Outcome → State → Prop} {S S' : State} (h : Steps p.tables e below S S') (k : own_Fin p e below G S') : own_Fin p e below G S := by
  obtain ⟨t, o, h1, h2, h3, h4⟩ := k
  exact ⟨t, o, h.trans h1, h2, h3, h4⟩
theorem own_by {p : Program} {e : Env} {below : List Frame} {G : Outcome → State → Prop} {S S' : State} (h : ∀ t, Steps p.tables e below S' t → Steps p.tables e below S t) (k : own_Fin p e below G S') : own_Fin p e below G S := by
  obtain ⟨t, o, h1, h2, h3, h4⟩ := k
  exact ⟨t, o, h t h1, h2, h3, h4⟩
theorem own_done {p : Program} {e : Env} {below : List Frame} {G : Outcome → State → Prop} {S t : State} {o : Outcome} (h1 : Steps p.tables e below S t) (h2 : t.status = .running) (h3 : Ended t below o) (h4 : G o t) : own_Fin p e below G S := ⟨t, o, h1, h2, h3, h4⟩
def own_get (rs : List Int32) (j : Int32) : Int32 := rs.getD j.toNatClampNeg 0
theorem own_getD (rs : List Int32) (j : Int32) : (rs.map Value.int).getD j.toNatClampNeg (.int (0 : Int32)) = .int (own_get rs j) := by
  unfold own_get
  rw [List.getD_eq_getElem?_getD, List.getD_eq_getElem?_getD, List.getElem?_map]
  cases rs[j.toNatClampNeg]? <;> rfl
theorem own_retI {p : Program} {l : Launch} {e : Env} {R : Room} {s : State} {m : MethodId} {args : Array Value} {below : List Frame} {meth : Method} {c : Code} {T : State} {locs : List Loc} {cells slots : Nat} (X : Stand p l e R s m args below meth c T locs cells slots) (hx : p.tables.exec = Jvm.exec) {pc : Nat} {Ls : Array Slot} {z : Int32} {rest : List Value} (hret : meth.sig.returnType = some .int) (hd : decode c.code pc = .ok (.ireturn, 1)) {fs : List Frame}
    (hl : ∀ (f : JFrame) (acts : List Action), f.method = m → f.locked = none → f.entered = [] → (doReturn e (T.setTop f) acts (some (.int z))).1 = T.setFrames fs) : Steps p.tables e below (T.setTop (mkF m pc Ls (.int z :: rest))) (T.setFrames fs) :=
  retOut X hx hret rfl (Or.inl ⟨rfl, Or.inl rfl, z, rfl⟩) hd hl
def own_exp (p : Int32) : Int32 := (if (1 : Int32) < p then (if (10 : Int32) < p then (if (100 : Int32) < p then (if (1000 : Int32) < p then (if (10000 : Int32) < p then (if (100000 : Int32) < p then (if (1000000 : Int32) < p then (if (10000000 : Int32) < p then (if (100000000 : Int32) < p then (if (1000000000 : Int32) < p then 12 else 11) else 10) else 9) else 8) else 7) else 6) else 5) else 4) else 3) else 2)
theorem own_cmp (t : Int64) (u p : Int32) (h : t.toInt = u.toInt) : (lcmpW t p.toInt64 < 0) ↔ u < p := by
  rw [lw_lt, Int64.lt_iff_toInt_lt, Int32.lt_iff_toInt_lt, c_i2l, h]
theorem own_big (t : Int64) (p : Int32) (h : 2147483648 ≤ t.toInt) : ¬ lcmpW t p.toInt64 < 0 := by
  rw [lw_lt, Int64.lt_iff_toInt_lt, c_i2l]
  have := p.toInt_lt
  omega
theorem d1_0 : decode method_3_code 0 = .ok (.iload_n 0, 1) := by decide +kernel
theorem d1_1 : decode method_3_code 1 = .ok (.ifCond .gt 5, 3) := by decide +kernel
theorem d1_4 : decode method_3_code 4 = .ok (.iconst 1, 1) := by decide +kernel
theorem d1_5 : decode method_3_code 5 = .ok (.ireturn, 1) := by decide +kernel
theorem d1_6 : decode method_3_code 6 = .ok (.iload_n 0, 1) := by decide +kernel
theorem d1_7 : decode method_3_code 7 = .ok (.iconst 1, 1) := by decide +kernel
theorem d1_8 : decode method_3_code 8 = .ok (.if_icmp .ne 6, 3) := by decide +kernel
theorem d1_11 : decode method_3_code 11 = .ok (.bipush 10, 2) := by decide +kernel
theorem d1_13 : decode method_3_code 13 = .ok (.ireturn, 1) := by decide +kernel
theorem d1_14 : decode method_3_code 14 = .ok (.iload_n 0, 1) := by decide +kernel
theorem d1_15 : decode method_3_code 15 = .ok (.iconst 2, 1) := by decide +kernel
theorem d1_16 : decode method_3_code 16 = .ok (.if_icmp .ne 6, 3) := by decide +kernel
theorem d1_19 : decode method_3_code 19 = .ok (.bipush 100, 2) := by decide +kernel
theorem d1_21 : decode method_3_code 21 = .ok (.ireturn, 1) := by decide +kernel
theorem d1_22 : decode method_3_code 22 = .ok (.iload_n 0, 1) := by decide +kernel
theorem d1_23 : decode method_3_code 23 = .ok (.iconst 3, 1) := by decide +kernel
theorem d1_24 : decode method_3_code 24 = .ok (.if_icmp .ne 7, 3) := by decide +kernel
theorem d1_27 : decode method_3_code 27 = .ok (.sipush 1000, 3) := by decide +kernel
theorem d1_30 : decode method_3_code 30 = .ok (.ireturn, 1) := by decide +kernel
theorem d1_31 : decode method_3_code 31 = .ok (.iload_n 0, 1) := by decide +kernel
theorem d1_32 : decode method_3_code 32 = .ok (.iconst 4, 1) := by decide +kernel
theorem d1_33 : decode method_3_code 33 = .ok (.if_icmp .ne 7, 3) := by decide +kernel
theorem d1_36 : decode method_3_code 36 = .ok (.sipush 10000, 3) := by decide +kernel
theorem d1_39 : decode method_3_code 39 = .ok (.ireturn, 1) := by decide +kernel
theorem d1_40 : decode method_3_code 40 = .ok (.iload_n 0, 1) := by decide +kernel
theorem d1_41 : decode method_3_code 41 = .ok (.iconst 5, 1) := by decide +kernel
theorem d1_42 : decode method_3_code 42 = .ok (.if_icmp .ne 6, 3) := by decide +kernel
theorem d1_45 : decode method_3_code 45 = .ok (.ldc 7, 2) := by decide +kernel
theorem d1_47 : decode method_3_code 47 = .ok (.ireturn, 1) := by decide +kernel
theorem d1_48 : decode method_3_code 48 = .ok (.iload_n 0, 1) := by decide +kernel
theorem d1_49 : decode method_3_code 49 = .ok (.bipush 6, 2) := by decide +kernel
theorem d1_51 : decode method_3_code 51 = .ok (.if_icmp .ne 6, 3) := by decide +kernel
theorem d1_54 : decode method_3_code 54 = .ok (.ldc 8, 2) := by decide +kernel
theorem d1_56 : decode method_3_code 56 = .ok (.ireturn, 1) := by decide +kernel
theorem d1_57 : decode method_3_code 57 = .ok (.iload_n 0, 1) := by decide +kernel
theorem d1_58 : decode method_3_code 58 = .ok (.bipush 7, 2) := by decide +kernel
theorem d1_60 : decode method_3_code 60 = .ok (.if_icmp .ne 6, 3) := by decide +kernel
theorem d1_63 : decode method_3_code 63 = .ok (.ldc 9, 2) := by decide +kernel
theorem d1_65 : decode method_3_code 65 = .ok (.ireturn, 1) := by decide +kernel
theorem d1_66 : decode method_3_code 66 = .ok (.iload_n 0, 1) := by decide +kernel
theorem d1_67 : decode method_3_code 67 = .ok (.bipush 8, 2) := by decide +kernel
theorem d1_69 : decode method_3_code 69 = .ok (.if_icmp .ne 6, 3) := by decide +kernel
theorem d1_72 : decode method_3_code 72 = .ok (.ldc 10, 2) := by decide +kernel
theorem d1_74 : decode method_3_code 74 = .ok (.ireturn, 1) := by decide +kernel
theorem d1_75 : decode method_3_code 75 = .ok (.ldc 11, 2) := by decide +kernel
theorem d1_77 : decode method_3_code 77 = .ok (.ireturn, 1) := by decide +kernel
theorem pn_com_example_pricefence_pricefence_ranges_PriceBoundsDecimalsPinLaw : plainName "com/example/pricefence/pricefence/ranges/PriceBoundsDecimalsPinLaw" = true := by first | (simp [plainName, overriddenIn]; done) | decide +kernel
theorem ef_1 (m : MethodId) (x0 : Int32) : entryFrame m #[(.int x0)] 1 = mkF m 0 #[.val (.int x0)] [] := by first | (simp [entryFrame, mkF, argsToLocals, Value.category]; done) | rfl
def Q1 (Z : State) (p1 : Int32) (h0 : Heap) (n0 : Nat) (v : Option Value) (h : Heap) (L : List Loc) : Prop := (∃ z : Int32, v = some (.int z)) ∧ Fr n0 L ∧ h = h0
abbrev G1 (Z : State) (p1 : Int32) (h0 : Heap) (n0 : Nat) (s : State) : Outcome → State → Prop := fun o U' => ∃ v L, o = .returned v ∧ Q1 Z p1 h0 n0 v U'.heap L ∧ FrameEnd s o U' L ({ frames := 0, cells := 0, slots := 0, locals := 0 } : Room).cells ({ frames := 0, cells := 0, slots := 0, locals := 0 } : Room).slots
set_option maxRecDepth 65536 in
set_option maxHeartbeats 40000000 in
theorem rm1 (l : Launch) (Z : State) (a0 : Array Value) (hw : ∀ d ∈ tables_1, d.before a0 Z = true) (ws : List Jvm.Cond) (p1 : Int32) (h0 : Heap) (n0 : Nat) (Z0 : n0 ≤ h0.size)  :
    MetFree l (⟨"com/example/pricefence/pricefence/ranges/PriceBoundsDecimalsPinLaw", "pow10", "(I)I"⟩ : MethodName) (head1 (Jvm.Cond.code (⟨"com/example/pricefence/pricefence/ranges/PriceBoundsDecimalsPinLaw", "pow10", "(I)I"⟩ : MethodName) method_3_code 1 (some .int) :: ws) ({ frames := 0, cells := 0, slots := 0, locals := 0 } : Room)) (fun a U => a = #[(.int p1)] ∧ Z.Warmed39 U.vm ∧ U.heap = h0) (fun _ _ _ _ _ => True) (fun _ U o U' => ∃ v L, o = .returned v ∧ Q1 Z p1 h0 n0 v U'.heap L ∧ FrameEnd U o U' L ({ frames := 0, cells := 0, slots := 0, locals := 0 } : Room).cells ({ frames := 0, cells := 0, slots := 0, locals := 0 } : Room).slots) := by
  refine MetFree.of_bodySF (plainFor_of_name pn_com_example_pricefence_pricefence_ranges_PriceBoundsDecimalsPinLaw) hisR ?_
  intro p e s m args below meth c s₁ Bd hml0 hP hK
  obtain ⟨rfl, hZ, hh⟩ := hP
  have hx := Bd.exec
  have hby := Bd.bytes
  have hml : c.maxLocals = 1 := hml0
  have hown : s.vm.findClass "com/example/pricefence/pricefence/ranges/PriceBoundsDecimalsPinLaw" = some m.cls := findClass_of_methodNamed Bd.named
  have hnm := (name_of_methodNamed Bd.named Bd.method).1
  have X0 : Stand p l e ({ frames := 0, cells := 0, slots := 0, locals := 0 } : Room) s m #[(.int p1)] below meth c s₁ [] 0 0 := Stand.of_body Bd
  have e0 : s₁.heap = h0 := by rw [← hh, Bd.state]; rfl
  have es0 : s.heap = h0 := hh
  have N0 := Fr.nil n0
  show own_Fin p e below (G1 Z p1 h0 n0 s) (s₁.setTop (entryFrame m #[(.int p1)] 1))
  rw [ef_1 m p1]
  refine own_go (XS.iloadN X0.here hx rfl (hb hby d1_0) rfl (Steps.refl _)) ?_
  show own_Fin _ _ _ _ (s₁.setTop (mkF m 1 #[.val (.int p1)] [(.int p1)]))
  by_cases c1_1 : (0 : Int32) < p1
  · refine own_go (XS.ifYes X0.here hx rfl (pc0 := 1) (pc' := 6) rfl (hb hby d1_1) rfl ((if0 _ _).trans (tlt c1_1).2.2.1) (by decide) (by decide) (Steps.refl _)) ?_
    show own_Fin _ _ _ _ (s₁.setTop (mkF m 6 #[.val (.int p1)] []))
    refine own_go (XS.iloadN X0.here hx rfl (hb hby d1_6) rfl (Steps.refl _)) ?_
    show own_Fin _ _ _ _ (s₁.setTop (mkF m 7 #[.val (.int p1)] [(.int p1)]))
    refine own_go (XS.iconst X0.here hx rfl (hb hby d1_7) (Steps.refl _)) ?_
    show own_Fin _ _ _ _ (s₁.setTop (mkF m 8 #[.val (.int p1)] [(.int (1 : Int32)), (.int p1)]))
    by_cases c8_2 : p1 = (1 : Int32)
    · refine own_go (XS.icmpNo X0.here hx rfl (hb hby d1_8) rfl (teq c8_2).2 (Steps.refl _)) ?_
      show own_Fin _ _ _ _ (s₁.setTop (mkF m 11 #[.val (.int p1)] []))
      refine own_go (XS.bipush X0.here hx rfl (hb hby d1_11) (Steps.refl _)) ?_
      show own_Fin _ _ _ _ (s₁.setTop (mkF m 13 #[.val (.int p1)] [(.int (10 : Int32))]))
      obtain ⟨fs3, hr3, hrun3, hended3, hW3, hsame3⟩ := X0.leave (v := some (.int (10 : Int32))) (fun h => by rw [Bd.returns] at h; cases h)
      refine own_done (own_retI X0 hx Bd.returns (hb hby d1_13) hr3) hrun3 hended3 ⟨_, _, rfl, ?_, ⟨_, rfl⟩, hW3, hsame3.mono (by decide) (by decide)⟩
      show Q1 Z p1 h0 n0 _ s₁.heap _
      rw [e0]
      exact ⟨⟨_, rfl⟩, N0, rfl⟩
    · refine own_go (XS.icmpYes X0.here hx rfl (pc0 := 8) (pc' := 14) rfl (hb hby d1_8) rfl (feq c8_2).2 (by decide) (by decide) (Steps.refl _)) ?_
      show own_Fin _ _ _ _ (s₁.setTop (mkF m 14 #[.val (.int p1)] []))
      refine own_go (XS.iloadN X0.here hx rfl (hb hby d1_14) rfl (Steps.refl _)) ?_
      show own_Fin _ _ _ _ (s₁.setTop (mkF m 15 #[.val (.int p1)] [(.int p1)]))
      refine own_go (XS.iconst X0.here hx rfl (hb hby d1_15) (Steps.refl _)) ?_
      show own_Fin _ _ _ _ (s₁.setTop (mkF m 16 #[.val (.int p1)] [(.int (2 : Int32)), (.int p1)]))
      by_cases c16_4 : p1 = (2 : Int32)
      · refine own_go (XS.icmpNo X0.here hx rfl (hb hby d1_16) rfl (teq c16_4).2 (Steps.refl _)) ?_
        show own_Fin _ _ _ _ (s₁.setTop (mkF m 19 #[.val (.int p1)] []))
        refine own_go (XS.bipush X0.here hx rfl (hb hby d1_19) (Steps.refl _)) ?_
        show own_Fin _ _ _ _ (s₁.setTop (mkF m 21 #[.val (.int p1)] [(.int (100 : Int32))]))
        obtain ⟨fs5, hr5, hrun5, hended5, hW5, hsame5⟩ := X0.leave (v := some (.int (100 : Int32))) (fun h => by rw [Bd.returns] at h; cases h)
        refine own_done (own_retI X0 hx Bd.returns (hb hby d1_21) hr5) hrun5 hended5 ⟨_, _, rfl, ?_, ⟨_, rfl⟩, hW5, hsame5.mono (by decide) (by decide)⟩
        show Q1 Z p1 h0 n0 _ s₁.heap _
        rw [e0]
        exact ⟨⟨_, rfl⟩, N0, rfl⟩
      · refine own_go (XS.icmpYes X0.here hx rfl (pc0 := 16) (pc' := 22) rfl (hb hby d1_16) rfl (feq c16_4).2 (by decide) (by decide) (Steps.refl _)) ?_
        show own_Fin _ _ _ _ (s₁.setTop (mkF m 22 #[.val (.int p1)] []))
        refine own_go (XS.iloadN X0.here hx rfl (hb hby d1_22) rfl (Steps.refl _)) ?_
        show own_Fin _ _ _ _ (s₁.setTop (mkF m 23 #[.val (.int p1)] [(.int p1)]))
        refine own_go (XS.iconst X0.here hx rfl (hb hby d1_23) (Steps.refl _)) ?_
        show own_Fin _ _ _ _ (s₁.setTop (mkF m 24 #[.val (.int p1)] [(.int (3 : Int32)), (.int p1)]))
        by_cases c24_6 : p1 = (3 : Int32)
        · refine own_go (XS.icmpNo X0.here hx rfl (hb hby d1_24) rfl (teq c24_6).2 (Steps.refl _)) ?_
          show own_Fin _ _ _ _ (s₁.setTop (mkF m 27 #[.val (.int p1)] []))
          refine own_go (XS.sipush X0.here hx rfl (hb hby d1_27) (Steps.refl _)) ?_
          show own_Fin _ _ _ _ (s₁.setTop (mkF m 30 #[.val (.int p1)] [(.int (1000 : Int32))]))
          obtain ⟨fs7, hr7, hrun7, hended7, hW7, hsame7⟩ := X0.leave (v := some (.int (1000 : Int32))) (fun h => by rw [Bd.returns] at h; cases h)
          refine own_done (own_retI X0 hx Bd.returns (hb hby d1_30) hr7) hrun7 hended7 ⟨_, _, rfl, ?_, ⟨_, rfl⟩, hW7, hsame7.mono (by decide) (by decide)⟩
          show Q1 Z p1 h0 n0 _ s₁.heap _
          rw [e0]
          exact ⟨⟨_, rfl⟩, N0, rfl⟩
        · refine own_go (XS.icmpYes X0.here hx rfl (pc0 := 24) (pc' := 31) rfl (hb hby d1_24) rfl (feq c24_6).2 (by decide) (by decide) (Steps.refl _)) ?_
          show own_Fin _ _ _ _ (s₁.setTop (mkF m 31 #[.val (.int p1)] []))
          refine own_go (XS.iloadN X0.here hx rfl (hb hby d1_31) rfl (Steps.refl _)) ?_
          show own_Fin _ _ _ _ (s₁.setTop (mkF m 32 #[.val (.int p1)] [(.int p1)]))
          refine own_go (XS.iconst X0.here hx rfl (hb hby d1_32) (Steps.refl _)) ?_
          show own_Fin _ _ _ _ (s₁.setTop (mkF m 33 #[.val (.int p1)] [(.int (4 : Int32)), (.int p1)]))
          by_cases c33_8 : p1 = (4 : Int32)
          · refine own_go (XS.icmpNo X0.here hx rfl (hb hby d1_33) rfl (teq c33_8).2 (Steps.refl _)) ?_
            show own_Fin _ _ _ _ (s₁.setTop (mkF m 36 #[.val (.int p1)] []))
            refine own_go (XS.sipush X0.here hx rfl (hb hby d1_36) (Steps.refl _)) ?_
            show own_Fin _ _ _ _ (s₁.setTop (mkF m 39 #[.val (.int p1)] [(.int (10000 : Int32))]))
            obtain ⟨fs9, hr9, hrun9, hended9, hW9, hsame9⟩ := X0.leave (v := some (.int (10000 : Int32))) (fun h => by rw [Bd.returns] at h; cases h)
            refine own_done (own_retI X0 hx Bd.returns (hb hby d1_39) hr9) hrun9 hended9 ⟨_, _, rfl, ?_, ⟨_, rfl⟩, hW9, hsame9.mono (by decide) (by decide)⟩
            show Q1 Z p1 h0 n0 _ s₁.heap _
            rw [e0]
            exact ⟨⟨_, rfl⟩, N0, rfl⟩
          · refine own_go (XS.icmpYes X0.here hx rfl (pc0 := 33) (pc' := 40) rfl (hb hby d1_33) rfl (feq c33_8).2 (by decide) (by decide) (Steps.refl _)) ?_
            show own_Fin _ _ _ _ (s₁.setTop (mkF m 40 #[.val (.int p1)] []))
            refine own_go (XS.iloadN X0.here hx rfl (hb hby d1_40) rfl (Steps.refl _)) ?_
            show own_Fin _ _ _ _ (s₁.setTop (mkF m 41 #[.val (.int p1)] [(.int p1)]))
            refine own_go (XS.iconst X0.here hx rfl (hb hby d1_41) (Steps.refl _)) ?_
            show own_Fin _ _ _ _ (s₁.setTop (mkF m 42 #[.val (.int p1)] [(.int (5 : Int32)), (.int p1)]))
            by_cases c42_10 : p1 = (5 : Int32)
            · refine own_go (XS.icmpNo X0.here hx rfl (hb hby d1_42) rfl (teq c42_10).2 (Steps.refl _)) ?_
              show own_Fin _ _ _ _ (s₁.setTop (mkF m 45 #[.val (.int p1)] []))
              refine own_by (X0.ldcInt hx hown (mvT hZ (hw _ (List.mem_of_getElem? (i := 13) rfl))) (g := (mkF m 45 #[.val (.int p1)] [])) rfl (hb hby d1_45)) ?_
              show own_Fin _ _ _ _ (s₁.setTop (mkF m 47 #[.val (.int p1)] [(.int (100000 : Int32))]))
              obtain ⟨fs11, hr11, hrun11, hended11, hW11, hsame11⟩ := X0.leave (v := some (.int (100000 : Int32))) (fun h => by rw [Bd.returns] at h; cases h)
              refine own_done (own_retI X0 hx Bd.returns (hb hby d1_47) hr11) hrun11 hended11 ⟨_, _, rfl, ?_, ⟨_, rfl⟩, hW11, hsame11.mono (by decide) (by decide)⟩
              show Q1 Z p1 h0 n0 _ s₁.heap _
              rw [e0]
              exact ⟨⟨_, rfl⟩, N0, rfl⟩
            · refine own_go (XS.icmpYes X0.here hx rfl (pc0 := 42) (pc' := 48) rfl (hb hby d1_42) rfl (feq c42_10).2 (by decide) (by decide) (Steps.refl _)) ?_
              show own_Fin _ _ _ _ (s₁.setTop (mkF m 48 #[.val (.int p1)] []))
              refine own_go (XS.iloadN X0.here hx rfl (hb hby d1_48) rfl (Steps.refl _)) ?_
              show own_Fin _ _ _ _ (s₁.setTop (mkF m 49 #[.val (.int p1)] [(.int p1)]))
              refine own_go (XS.bipush X0.here hx rfl (hb hby d1_49) (Steps.refl _)) ?_
              show own_Fin _ _ _ _ (s₁.setTop (mkF m 51 #[.val (.int p1)] [(.int (6 : Int32)), (.int p1)]))
              by_cases c51_12 : p1 = (6 : Int32)
              · refine own_go (XS.icmpNo X0.here hx rfl (hb hby d1_51) rfl (teq c51_12).2 (Steps.refl _)) ?_
                show own_Fin _ _ _ _ (s₁.setTop (mkF m 54 #[.val (.int p1)] []))
                refine own_by (X0.ldcInt hx hown (mvT hZ (hw _ (List.mem_of_getElem? (i := 14) rfl))) (g := (mkF m 54 #[.val (.int p1)] [])) rfl (hb hby d1_54)) ?_
                show own_Fin _ _ _ _ (s₁.setTop (mkF m 56 #[.val (.int p1)] [(.int (1000000 : Int32))]))
                obtain ⟨fs13, hr13, hrun13, hended13, hW13, hsame13⟩ := X0.leave (v := some (.int (1000000 : Int32))) (fun h => by rw [Bd.returns] at h; cases h)
                refine own_done (own_retI X0 hx Bd.returns (hb hby d1_56) hr13) hrun13 hended13 ⟨_, _, rfl, ?_, ⟨_, rfl⟩, hW13, hsame13.mono (by decide) (by decide)⟩
                show Q1 Z p1 h0 n0 _ s₁.heap _
                rw [e0]
                exact ⟨⟨_, rfl⟩, N0, rfl⟩
              · refine own_go (XS.icmpYes X0.here hx rfl (pc0 := 51) (pc' := 57) rfl (hb hby d1_51) rfl (feq c51_12).2 (by decide) (by decide) (Steps.refl _)) ?_
                show own_Fin _ _ _ _ (s₁.setTop (mkF m 57 #[.val (.int p1)] []))
                refine own_go (XS.iloadN X0.here hx rfl (hb hby d1_57) rfl (Steps.refl _)) ?_
                show own_Fin _ _ _ _ (s₁.setTop (mkF m 58 #[.val (.int p1)] [(.int p1)]))
                refine own_go (XS.bipush X0.here hx rfl (hb hby d1_58) (Steps.refl _)) ?_
                show own_Fin _ _ _ _ (s₁.setTop (mkF m 60 #[.val (.int p1)] [(.int (7 : Int32)), (.int p1)]))
                by_cases c60_14 : p1 = (7 : Int32)
                · refine own_go (XS.icmpNo X0.here hx rfl (hb hby d1_60) rfl (teq c60_14).2 (Steps.refl _)) ?_
                  show own_Fin _ _ _ _ (s₁.setTop (mkF m 63 #[.val (.int p1)] []))
                  refine own_by (X0.ldcInt hx hown (mvT hZ (hw _ (List.mem_of_getElem? (i := 15) rfl))) (g := (mkF m 63 #[.val (.int p1)] [])) rfl (hb hby d1_63)) ?_
                  show own_Fin _ _ _ _ (s₁.setTop (mkF m 65 #[.val (.int p1)] [(.int (10000000 : Int32))]))
                  obtain ⟨fs15, hr15, hrun15, hended15, hW15, hsame15⟩ := X0.leave (v := some (.int (10000000 : Int32))) (fun h => by rw [Bd.returns] at h; cases h)
                  refine own_done (own_retI X0 hx Bd.returns (hb hby d1_65) hr15) hrun15 hended15 ⟨_, _, rfl, ?_, ⟨_, rfl⟩, hW15, hsame15.mono (by decide) (by decide)⟩
                  show Q1 Z p1 h0 n0 _ s₁.heap _
                  rw [e0]
                  exact ⟨⟨_, rfl⟩, N0, rfl⟩
                · refine own_go (XS.icmpYes X0.here hx rfl (pc0 := 60) (pc' := 66) rfl (hb hby d1_60) rfl (feq c60_14).2 (by decide) (by decide) (Steps.refl _)) ?_
                  show own_Fin _ _ _ _ (s₁.setTop (mkF m 66 #[.val (.int p1)] []))
                  refine own_go (XS.iloadN X0.here hx rfl (hb hby d1_66) rfl (Steps.refl _)) ?_
                  show own_Fin _ _ _ _ (s₁.setTop (mkF m 67 #[.val (.int p1)] [(.int p1)]))
                  refine own_go (XS.bipush X0.here hx rfl (hb hby d1_67) (Steps.refl _)) ?_
                  show own_Fin _ _ _ _ (s₁.setTop (mkF m 69 #[.val (.int p1)] [(.int (8 : Int32)), (.int p1)]))
                  by_cases c69_16 : p1 = (8 : Int32)
                  · refine own_go (XS.icmpNo X0.here hx rfl (hb hby d1_69) rfl (teq c69_16).2 (Steps.refl _)) ?_
                    show own_Fin _ _ _ _ (s₁.setTop (mkF m 72 #[.val (.int p1)] []))
                    refine own_by (X0.ldcInt hx hown (mvT hZ (hw _ (List.mem_of_getElem? (i := 16) rfl))) (g := (mkF m 72 #[.val (.int p1)] [])) rfl (hb hby d1_72)) ?_
                    show own_Fin _ _ _ _ (s₁.setTop (mkF m 74 #[.val (.int p1)] [(.int (100000000 : Int32))]))
                    obtain ⟨fs17, hr17, hrun17, hended17, hW17, hsame17⟩ := X0.leave (v := some (.int (100000000 : Int32))) (fun h => by rw [Bd.returns] at h; cases h)
                    refine own_done (own_retI X0 hx Bd.returns (hb hby d1_74) hr17) hrun17 hended17 ⟨_, _, rfl, ?_, ⟨_, rfl⟩, hW17, hsame17.mono (by decide) (by decide)⟩
                    show Q1 Z p1 h0 n0 _ s₁.heap _
                    rw [e0]
                    exact ⟨⟨_, rfl⟩, N0, rfl⟩
                  · refine own_go (XS.icmpYes X0.here hx rfl (pc0 := 69) (pc' := 75) rfl (hb hby d1_69) rfl (feq c69_16).2 (by decide) (by decide) (Steps.refl _)) ?_
                    show own_Fin _ _ _ _ (s₁.setTop (mkF m 75 #[.val (.int p1)] []))
                    refine own_by (X0.ldcInt hx hown (mvT hZ (hw _ (List.mem_of_getElem? (i := 17) rfl))) (g := (mkF m 75 #[.val (.int p1)] [])) rfl (hb hby d1_75)) ?_
                    show own_Fin _ _ _ _ (s₁.setTop (mkF m 77 #[.val (.int p1)] [(.int (1000000000 : Int32))]))
                    obtain ⟨fs18, hr18, hrun18, hended18, hW18, hsame18⟩ := X0.leave (v := some (.int (1000000000 : Int32))) (fun h => by rw [Bd.returns] at h; cases h)
                    refine own_done (own_retI X0 hx Bd.returns (hb hby d1_77) hr18) hrun18 hended18 ⟨_, _, rfl, ?_, ⟨_, rfl⟩, hW18, hsame18.mono (by decide) (by decide)⟩
                    show Q1 Z p1 h0 n0 _ s₁.heap _
                    rw [e0]
                    exact ⟨⟨_, rfl⟩, N0, rfl⟩
  · refine own_go (XS.ifNo X0.here hx rfl (hb hby d1_1) rfl ((if0 _ _).trans (flt c1_1).2.2.1) (Steps.refl _)) ?_
    show own_Fin _ _ _ _ (s₁.setTop (mkF m 4 #[.val (.int p1)] []))
    refine own_go (XS.iconst X0.here hx rfl (hb hby d1_4) (Steps.refl _)) ?_
    show own_Fin _ _ _ _ (s₁.setTop (mkF m 5 #[.val (.int p1)] [(.int (1 : Int32))]))
    obtain ⟨fs19, hr19, hrun19, hended19, hW19, hsame19⟩ := X0.leave (v := some (.int (1 : Int32))) (fun h => by rw [Bd.returns] at h; cases h)
    refine own_done (own_retI X0 hx Bd.returns (hb hby d1_5) hr19) hrun19 hended19 ⟨_, _, rfl, ?_, ⟨_, rfl⟩, hW19, hsame19.mono (by decide) (by decide)⟩
    show Q1 Z p1 h0 n0 _ s₁.heap _
    rw [e0]
    exact ⟨⟨_, rfl⟩, N0, rfl⟩
theorem d3_0 : decode method_2_code 0 = .ok (.iload_n 0, 1) := by decide +kernel
theorem d3_1 : decode method_2_code 1 = .ok (.iconst 1, 1) := by decide +kernel
theorem d3_2 : decode method_2_code 2 = .ok (.if_icmp .gt 5, 3) := by decide +kernel
theorem d3_5 : decode method_2_code 5 = .ok (.iconst 2, 1) := by decide +kernel
theorem d3_6 : decode method_2_code 6 = .ok (.ireturn, 1) := by decide +kernel
theorem d3_7 : decode method_2_code 7 = .ok (.iload_n 0, 1) := by decide +kernel
theorem d3_8 : decode method_2_code 8 = .ok (.bipush 10, 2) := by decide +kernel
theorem d3_10 : decode method_2_code 10 = .ok (.if_icmp .gt 5, 3) := by decide +kernel
theorem d3_13 : decode method_2_code 13 = .ok (.iconst 3, 1) := by decide +kernel
theorem d3_14 : decode method_2_code 14 = .ok (.ireturn, 1) := by decide +kernel
theorem d3_15 : decode method_2_code 15 = .ok (.iload_n 0, 1) := by decide +kernel
theorem d3_16 : decode method_2_code 16 = .ok (.bipush 100, 2) := by decide +kernel
theorem d3_18 : decode method_2_code 18 = .ok (.if_icmp .gt 5, 3) := by decide +kernel
theorem d3_21 : decode method_2_code 21 = .ok (.iconst 4, 1) := by decide +kernel
theorem d3_22 : decode method_2_code 22 = .ok (.ireturn, 1) := by decide +kernel
theorem d3_23 : decode method_2_code 23 = .ok (.iload_n 0, 1) := by decide +kernel
theorem d3_24 : decode method_2_code 24 = .ok (.sipush 1000, 3) := by decide +kernel
theorem d3_27 : decode method_2_code 27 = .ok (.if_icmp .gt 5, 3) := by decide +kernel
theorem d3_30 : decode method_2_code 30 = .ok (.iconst 5, 1) := by decide +kernel
theorem d3_31 : decode method_2_code 31 = .ok (.ireturn, 1) := by decide +kernel
theorem d3_32 : decode method_2_code 32 = .ok (.iload_n 0, 1) := by decide +kernel
theorem d3_33 : decode method_2_code 33 = .ok (.sipush 10000, 3) := by decide +kernel
theorem d3_36 : decode method_2_code 36 = .ok (.if_icmp .gt 6, 3) := by decide +kernel
theorem d3_39 : decode method_2_code 39 = .ok (.bipush 6, 2) := by decide +kernel
theorem d3_41 : decode method_2_code 41 = .ok (.ireturn, 1) := by decide +kernel
theorem d3_42 : decode method_2_code 42 = .ok (.iload_n 0, 1) := by decide +kernel
theorem d3_43 : decode method_2_code 43 = .ok (.ldc 7, 2) := by decide +kernel
theorem d3_45 : decode method_2_code 45 = .ok (.if_icmp .gt 6, 3) := by decide +kernel
theorem d3_48 : decode method_2_code 48 = .ok (.bipush 7, 2) := by decide +kernel
theorem d3_50 : decode method_2_code 50 = .ok (.ireturn, 1) := by decide +kernel
theorem d3_51 : decode method_2_code 51 = .ok (.iload_n 0, 1) := by decide +kernel
theorem d3_52 : decode method_2_code 52 = .ok (.ldc 8, 2) := by decide +kernel
theorem d3_54 : decode method_2_code 54 = .ok (.if_icmp .gt 6, 3) := by decide +kernel
theorem d3_57 : decode method_2_code 57 = .ok (.bipush 8, 2) := by decide +kernel
theorem d3_59 : decode method_2_code 59 = .ok (.ireturn, 1) := by decide +kernel
theorem d3_60 : decode method_2_code 60 = .ok (.iload_n 0, 1) := by decide +kernel
theorem d3_61 : decode method_2_code 61 = .ok (.ldc 9, 2) := by decide +kernel
theorem d3_63 : decode method_2_code 63 = .ok (.if_icmp .gt 6, 3) := by decide +kernel
theorem d3_66 : decode method_2_code 66 = .ok (.bipush 9, 2) := by decide +kernel
theorem d3_68 : decode method_2_code 68 = .ok (.ireturn, 1) := by decide +kernel
theorem d3_69 : decode method_2_code 69 = .ok (.iload_n 0, 1) := by decide +kernel
theorem d3_70 : decode method_2_code 70 = .ok (.ldc 10, 2) := by decide +kernel
theorem d3_72 : decode method_2_code 72 = .ok (.if_icmp .gt 6, 3) := by decide +kernel
theorem d3_75 : decode method_2_code 75 = .ok (.bipush 10, 2) := by decide +kernel
theorem d3_77 : decode method_2_code 77 = .ok (.ireturn, 1) := by decide +kernel
theorem d3_78 : decode method_2_code 78 = .ok (.iload_n 0, 1) := by decide +kernel
theorem d3_79 : decode method_2_code 79 = .ok (.ldc 11, 2) := by decide +kernel
theorem d3_81 : decode method_2_code 81 = .ok (.if_icmp .gt 6, 3) := by decide +kernel
theorem d3_84 : decode method_2_code 84 = .ok (.bipush 11, 2) := by decide +kernel
theorem d3_86 : decode method_2_code 86 = .ok (.ireturn, 1) := by decide +kernel
theorem d3_87 : decode method_2_code 87 = .ok (.bipush 12, 2) := by decide +kernel
theorem d3_89 : decode method_2_code 89 = .ok (.ireturn, 1) := by decide +kernel
theorem ef_3 (m : MethodId) (x0 : Int32) : entryFrame m #[(.int x0)] 1 = mkF m 0 #[.val (.int x0)] [] := by first | (simp [entryFrame, mkF, argsToLocals, Value.category]; done) | rfl
def Q3 (Z : State) (p1 : Int32) (h0 : Heap) (n0 : Nat) (v : Option Value) (h : Heap) (L : List Loc) : Prop := v = some (.int (own_exp p1)) ∧ Fr n0 L ∧ h = h0
abbrev G3 (Z : State) (p1 : Int32) (h0 : Heap) (n0 : Nat) (s : State) : Outcome → State → Prop := fun o U' => ∃ v L, o = .returned v ∧ Q3 Z p1 h0 n0 v U'.heap L ∧ FrameEnd s o U' L ({ frames := 0, cells := 0, slots := 0, locals := 0 } : Room).cells ({ frames := 0, cells := 0, slots := 0, locals := 0 } : Room).slots
set_option maxRecDepth 65536 in
set_option maxHeartbeats 40000000 in
theorem rm3 (l : Launch) (Z : State) (a0 : Array Value) (hw : ∀ d ∈ tables_1, d.before a0 Z = true) (ws : List Jvm.Cond) (p1 : Int32) (h0 : Heap) (n0 : Nat) (Z0 : n0 ≤ h0.size)  :
    MetFree l (⟨"com/example/pricefence/pricefence/ranges/PriceBoundsDecimalsPinLaw", "expected", "(I)I"⟩ : MethodName) (head1 (Jvm.Cond.code (⟨"com/example/pricefence/pricefence/ranges/PriceBoundsDecimalsPinLaw", "expected", "(I)I"⟩ : MethodName) method_2_code 1 (some .int) :: ws) ({ frames := 0, cells := 0, slots := 0, locals := 0 } : Room)) (fun a U => a = #[(.int p1)] ∧ Z.Warmed39 U.vm ∧ U.heap = h0) (fun _ _ _ _ _ => True) (fun _ U o U' => ∃ v L, o = .returned v ∧ Q3 Z p1 h0 n0 v U'.heap L ∧ FrameEnd U o U' L ({ frames := 0, cells := 0, slots := 0, locals := 0 } : Room).cells ({ frames := 0, cells := 0, slots := 0, locals := 0 } : Room).slots) := by
  refine MetFree.of_bodySF (plainFor_of_name pn_com_example_pricefence_pricefence_ranges_PriceBoundsDecimalsPinLaw) hisR ?_
  intro p e s m args below meth c s₁ Bd hml0 hP hK
  obtain ⟨rfl, hZ, hh⟩ := hP
  have hx := Bd.exec
  have hby := Bd.bytes
  have hml : c.maxLocals = 1 := hml0
  have hown : s.vm.findClass "com/example/pricefence/pricefence/ranges/PriceBoundsDecimalsPinLaw" = some m.cls := findClass_of_methodNamed Bd.named
  have hnm := (name_of_methodNamed Bd.named Bd.method).1
  have X0 : Stand p l e ({ frames := 0, cells := 0, slots := 0, locals := 0 } : Room) s m #[(.int p1)] below meth c s₁ [] 0 0 := Stand.of_body Bd
  have e0 : s₁.heap = h0 := by rw [← hh, Bd.state]; rfl
  have es0 : s.heap = h0 := hh
  have N0 := Fr.nil n0
  show own_Fin p e below (G3 Z p1 h0 n0 s) (s₁.setTop (entryFrame m #[(.int p1)] 1))
  rw [ef_3 m p1]
  refine own_go (XS.iloadN X0.here hx rfl (hb hby d3_0) rfl (Steps.refl _)) ?_
  show own_Fin _ _ _ _ (s₁.setTop (mkF m 1 #[.val (.int p1)] [(.int p1)]))
  refine own_go (XS.iconst X0.here hx rfl (hb hby d3_1) (Steps.refl _)) ?_
  show own_Fin _ _ _ _ (s₁.setTop (mkF m 2 #[.val (.int p1)] [(.int (1 : Int32)), (.int p1)]))
  by_cases c2_20 : (1 : Int32) < p1
  · refine own_go (XS.icmpYes X0.here hx rfl (pc0 := 2) (pc' := 7) rfl (hb hby d3_2) rfl (tlt c2_20).2.2.1 (by decide) (by decide) (Steps.refl _)) ?_
    show own_Fin _ _ _ _ (s₁.setTop (mkF m 7 #[.val (.int p1)] []))
    refine own_go (XS.iloadN X0.here hx rfl (hb hby d3_7) rfl (Steps.refl _)) ?_
    show own_Fin _ _ _ _ (s₁.setTop (mkF m 8 #[.val (.int p1)] [(.int p1)]))
    refine own_go (XS.bipush X0.here hx rfl (hb hby d3_8) (Steps.refl _)) ?_
    show own_Fin _ _ _ _ (s₁.setTop (mkF m 10 #[.val (.int p1)] [(.int (10 : Int32)), (.int p1)]))
    by_cases c10_21 : (10 : Int32) < p1
    · refine own_go (XS.icmpYes X0.here hx rfl (pc0 := 10) (pc' := 15) rfl (hb hby d3_10) rfl (tlt c10_21).2.2.1 (by decide) (by decide) (Steps.refl _)) ?_
      show own_Fin _ _ _ _ (s₁.setTop (mkF m 15 #[.val (.int p1)] []))
      refine own_go (XS.iloadN X0.here hx rfl (hb hby d3_15) rfl (Steps.refl _)) ?_
      show own_Fin _ _ _ _ (s₁.setTop (mkF m 16 #[.val (.int p1)] [(.int p1)]))
      refine own_go (XS.bipush X0.here hx rfl (hb hby d3_16) (Steps.refl _)) ?_
      show own_Fin _ _ _ _ (s₁.setTop (mkF m 18 #[.val (.int p1)] [(.int (100 : Int32)), (.int p1)]))
      by_cases c18_22 : (100 : Int32) < p1
      · refine own_go (XS.icmpYes X0.here hx rfl (pc0 := 18) (pc' := 23) rfl (hb hby d3_18) rfl (tlt c18_22).2.2.1 (by decide) (by decide) (Steps.refl _)) ?_
        show own_Fin _ _ _ _ (s₁.setTop (mkF m 23 #[.val (.int p1)] []))
        refine own_go (XS.iloadN X0.here hx rfl (hb hby d3_23) rfl (Steps.refl _)) ?_
        show own_Fin _ _ _ _ (s₁.setTop (mkF m 24 #[.val (.int p1)] [(.int p1)]))
        refine own_go (XS.sipush X0.here hx rfl (hb hby d3_24) (Steps.refl _)) ?_
        show own_Fin _ _ _ _ (s₁.setTop (mkF m 27 #[.val (.int p1)] [(.int (1000 : Int32)), (.int p1)]))
        by_cases c27_23 : (1000 : Int32) < p1
        · refine own_go (XS.icmpYes X0.here hx rfl (pc0 := 27) (pc' := 32) rfl (hb hby d3_27) rfl (tlt c27_23).2.2.1 (by decide) (by decide) (Steps.refl _)) ?_
          show own_Fin _ _ _ _ (s₁.setTop (mkF m 32 #[.val (.int p1)] []))
          refine own_go (XS.iloadN X0.here hx rfl (hb hby d3_32) rfl (Steps.refl _)) ?_
          show own_Fin _ _ _ _ (s₁.setTop (mkF m 33 #[.val (.int p1)] [(.int p1)]))
          refine own_go (XS.sipush X0.here hx rfl (hb hby d3_33) (Steps.refl _)) ?_
          show own_Fin _ _ _ _ (s₁.setTop (mkF m 36 #[.val (.int p1)] [(.int (10000 : Int32)), (.int p1)]))
          by_cases c36_24 : (10000 : Int32) < p1
          · refine own_go (XS.icmpYes X0.here hx rfl (pc0 := 36) (pc' := 42) rfl (hb hby d3_36) rfl (tlt c36_24).2.2.1 (by decide) (by decide) (Steps.refl _)) ?_
            show own_Fin _ _ _ _ (s₁.setTop (mkF m 42 #[.val (.int p1)] []))
            refine own_go (XS.iloadN X0.here hx rfl (hb hby d3_42) rfl (Steps.refl _)) ?_
            show own_Fin _ _ _ _ (s₁.setTop (mkF m 43 #[.val (.int p1)] [(.int p1)]))
            refine own_by (X0.ldcInt hx hown (mvT hZ (hw _ (List.mem_of_getElem? (i := 13) rfl))) (g := (mkF m 43 #[.val (.int p1)] [(.int p1)])) rfl (hb hby d3_43)) ?_
            show own_Fin _ _ _ _ (s₁.setTop (mkF m 45 #[.val (.int p1)] [(.int (100000 : Int32)), (.int p1)]))
            by_cases c45_25 : (100000 : Int32) < p1
            · refine own_go (XS.icmpYes X0.here hx rfl (pc0 := 45) (pc' := 51) rfl (hb hby d3_45) rfl (tlt c45_25).2.2.1 (by decide) (by decide) (Steps.refl _)) ?_
              show own_Fin _ _ _ _ (s₁.setTop (mkF m 51 #[.val (.int p1)] []))
              refine own_go (XS.iloadN X0.here hx rfl (hb hby d3_51) rfl (Steps.refl _)) ?_
              show own_Fin _ _ _ _ (s₁.setTop (mkF m 52 #[.val (.int p1)] [(.int p1)]))
              refine own_by (X0.ldcInt hx hown (mvT hZ (hw _ (List.mem_of_getElem? (i := 14) rfl))) (g := (mkF m 52 #[.val (.int p1)] [(.int p1)])) rfl (hb hby d3_52)) ?_
              show own_Fin _ _ _ _ (s₁.setTop (mkF m 54 #[.val (.int p1)] [(.int (1000000 : Int32)), (.int p1)]))
              by_cases c54_26 : (1000000 : Int32) < p1
              · refine own_go (XS.icmpYes X0.here hx rfl (pc0 := 54) (pc' := 60) rfl (hb hby d3_54) rfl (tlt c54_26).2.2.1 (by decide) (by decide) (Steps.refl _)) ?_
                show own_Fin _ _ _ _ (s₁.setTop (mkF m 60 #[.val (.int p1)] []))
                refine own_go (XS.iloadN X0.here hx rfl (hb hby d3_60) rfl (Steps.refl _)) ?_
                show own_Fin _ _ _ _ (s₁.setTop (mkF m 61 #[.val (.int p1)] [(.int p1)]))
                refine own_by (X0.ldcInt hx hown (mvT hZ (hw _ (List.mem_of_getElem? (i := 15) rfl))) (g := (mkF m 61 #[.val (.int p1)] [(.int p1)])) rfl (hb hby d3_61)) ?_
                show own_Fin _ _ _ _ (s₁.setTop (mkF m 63 #[.val (.int p1)] [(.int (10000000 : Int32)), (.int p1)]))
                by_cases c63_27 : (10000000 : Int32) < p1
                · refine own_go (XS.icmpYes X0.here hx rfl (pc0 := 63) (pc' := 69) rfl (hb hby d3_63) rfl (tlt c63_27).2.2.1 (by decide) (by decide) (Steps.refl _)) ?_
                  show own_Fin _ _ _ _ (s₁.setTop (mkF m 69 #[.val (.int p1)] []))
                  refine own_go (XS.iloadN X0.here hx rfl (hb hby d3_69) rfl (Steps.refl _)) ?_
                  show own_Fin _ _ _ _ (s₁.setTop (mkF m 70 #[.val (.int p1)] [(.int p1)]))
                  refine own_by (X0.ldcInt hx hown (mvT hZ (hw _ (List.mem_of_getElem? (i := 16) rfl))) (g := (mkF m 70 #[.val (.int p1)] [(.int p1)])) rfl (hb hby d3_70)) ?_
                  show own_Fin _ _ _ _ (s₁.setTop (mkF m 72 #[.val (.int p1)] [(.int (100000000 : Int32)), (.int p1)]))
                  by_cases c72_28 : (100000000 : Int32) < p1
                  · refine own_go (XS.icmpYes X0.here hx rfl (pc0 := 72) (pc' := 78) rfl (hb hby d3_72) rfl (tlt c72_28).2.2.1 (by decide) (by decide) (Steps.refl _)) ?_
                    show own_Fin _ _ _ _ (s₁.setTop (mkF m 78 #[.val (.int p1)] []))
                    refine own_go (XS.iloadN X0.here hx rfl (hb hby d3_78) rfl (Steps.refl _)) ?_
                    show own_Fin _ _ _ _ (s₁.setTop (mkF m 79 #[.val (.int p1)] [(.int p1)]))
                    refine own_by (X0.ldcInt hx hown (mvT hZ (hw _ (List.mem_of_getElem? (i := 17) rfl))) (g := (mkF m 79 #[.val (.int p1)] [(.int p1)])) rfl (hb hby d3_79)) ?_
                    show own_Fin _ _ _ _ (s₁.setTop (mkF m 81 #[.val (.int p1)] [(.int (1000000000 : Int32)), (.int p1)]))
                    by_cases c81_29 : (1000000000 : Int32) < p1
                    · refine own_go (XS.icmpYes X0.here hx rfl (pc0 := 81) (pc' := 87) rfl (hb hby d3_81) rfl (tlt c81_29).2.2.1 (by decide) (by decide) (Steps.refl _)) ?_
                      show own_Fin _ _ _ _ (s₁.setTop (mkF m 87 #[.val (.int p1)] []))
                      refine own_go (XS.bipush X0.here hx rfl (hb hby d3_87) (Steps.refl _)) ?_
                      show own_Fin _ _ _ _ (s₁.setTop (mkF m 89 #[.val (.int p1)] [(.int (12 : Int32))]))
                      obtain ⟨fs30, hr30, hrun30, hended30, hW30, hsame30⟩ := X0.leave (v := some (.int (12 : Int32))) (fun h => by rw [Bd.returns] at h; cases h)
                      refine own_done (own_retI X0 hx Bd.returns (hb hby d3_89) hr30) hrun30 hended30 ⟨_, _, rfl, ?_, ⟨_, rfl⟩, hW30, hsame30.mono (by decide) (by decide)⟩
                      show Q3 Z p1 h0 n0 _ s₁.heap _
                      rw [e0]
                      exact ⟨by unfold own_exp; rw [if_pos c2_20, if_pos c10_21, if_pos c18_22, if_pos c27_23, if_pos c36_24, if_pos c45_25, if_pos c54_26, if_pos c63_27, if_pos c72_28, if_pos c81_29], N0, rfl⟩
                    · refine own_go (XS.icmpNo X0.here hx rfl (hb hby d3_81) rfl (flt c81_29).2.2.1 (Steps.refl _)) ?_
                      show own_Fin _ _ _ _ (s₁.setTop (mkF m 84 #[.val (.int p1)] []))
                      refine own_go (XS.bipush X0.here hx rfl (hb hby d3_84) (Steps.refl _)) ?_
                      show own_Fin _ _ _ _ (s₁.setTop (mkF m 86 #[.val (.int p1)] [(.int (11 : Int32))]))
                      obtain ⟨fs31, hr31, hrun31, hended31, hW31, hsame31⟩ := X0.leave (v := some (.int (11 : Int32))) (fun h => by rw [Bd.returns] at h; cases h)
                      refine own_done (own_retI X0 hx Bd.returns (hb hby d3_86) hr31) hrun31 hended31 ⟨_, _, rfl, ?_, ⟨_, rfl⟩, hW31, hsame31.mono (by decide) (by decide)⟩
                      show Q3 Z p1 h0 n0 _ s₁.heap _
                      rw [e0]
                      exact ⟨by unfold own_exp; rw [if_pos c2_20, if_pos c10_21, if_pos c18_22, if_pos c27_23, if_pos c36_24, if_pos c45_25, if_pos c54_26, if_pos c63_27, if_pos c72_28, if_neg c81_29], N0, rfl⟩
                  · refine own_go (XS.icmpNo X0.here hx rfl (hb hby d3_72) rfl (flt c72_28).2.2.1 (Steps.refl _)) ?_
                    show own_Fin _ _ _ _ (s₁.setTop (mkF m 75 #[.val (.int p1)] []))
                    refine own_go (XS.bipush X0.here hx rfl (hb hby d3_75) (Steps.refl _)) ?_
                    show own_Fin _ _ _ _ (s₁.setTop (mkF m 77 #[.val (.int p1)] [(.int (10 : Int32))]))
                    obtain ⟨fs32, hr32, hrun32, hended32, hW32, hsame32⟩ := X0.leave (v := some (.int (10 : Int32))) (fun h => by rw [Bd.returns] at h; cases h)
                    refine own_done (own_retI X0 hx Bd.returns (hb hby d3_77) hr32) hrun32 hended32 ⟨_, _, rfl, ?_, ⟨_, rfl⟩, hW32, hsame32.mono (by decide) (by decide)⟩
                    show Q3 Z p1 h0 n0 _ s₁.heap _
                    rw [e0]
                    exact ⟨by unfold own_exp; rw [if_pos c2_20, if_pos c10_21, if_pos c18_22, if_pos c27_23, if_pos c36_24, if_pos c45_25, if_pos c54_26, if_pos c63_27, if_neg c72_28], N0, rfl⟩
                · refine own_go (XS.icmpNo X0.here hx rfl (hb hby d3_63) rfl (flt c63_27).2.2.1 (Steps.refl _)) ?_
                  show own_Fin _ _ _ _ (s₁.setTop (mkF m 66 #[.val (.int p1)] []))
                  refine own_go (XS.bipush X0.here hx rfl (hb hby d3_66) (Steps.refl _)) ?_
                  show own_Fin _ _ _ _ (s₁.setTop (mkF m 68 #[.val (.int p1)] [(.int (9 : Int32))]))
                  obtain ⟨fs33, hr33, hrun33, hended33, hW33, hsame33⟩ := X0.leave (v := some (.int (9 : Int32))) (fun h => by rw [Bd.returns] at h; cases h)
                  refine own_done (own_retI X0 hx Bd.returns (hb hby d3_68) hr33) hrun33 hended33 ⟨_, _, rfl, ?_, ⟨_, rfl⟩, hW33, hsame33.mono (by decide) (by decide)⟩
                  show Q3 Z p1 h0 n0 _ s₁.heap _
                  rw [e0]
                  exact ⟨by unfold own_exp; rw [if_pos c2_20, if_pos c10_21, if_pos c18_22, if_pos c27_23, if_pos c36_24, if_pos c45_25, if_pos c54_26, if_neg c63_27], N0, rfl⟩
              · refine own_go (XS.icmpNo X0.here hx rfl (hb hby d3_54) rfl (flt c54_26).2.2.1 (Steps.refl _)) ?_
                show own_Fin _ _ _ _ (s₁.setTop (mkF m 57 #[.val (.int p1)] []))
                refine own_go (XS.bipush X0.here hx rfl (hb hby d3_57) (Steps.refl _)) ?_
                show own_Fin _ _ _ _ (s₁.setTop (mkF m 59 #[.val (.int p1)] [(.int (8 : Int32))]))
                obtain ⟨fs34, hr34, hrun34, hended34, hW34, hsame34⟩ := X0.leave (v := some (.int (8 : Int32))) (fun h => by rw [Bd.returns] at h; cases h)
                refine own_done (own_retI X0 hx Bd.returns (hb hby d3_59) hr34) hrun34 hended34 ⟨_, _, rfl, ?_, ⟨_, rfl⟩, hW34, hsame34.mono (by decide) (by decide)⟩
                show Q3 Z p1 h0 n0 _ s₁.heap _
                rw [e0]
                exact ⟨by unfold own_exp; rw [if_pos c2_20, if_pos c10_21, if_pos c18_22, if_pos c27_23, if_pos c36_24, if_pos c45_25, if_neg c54_26], N0, rfl⟩
            · refine own_go (XS.icmpNo X0.here hx rfl (hb hby d3_45) rfl (flt c45_25).2.2.1 (Steps.refl _)) ?_
              show own_Fin _ _ _ _ (s₁.setTop (mkF m 48 #[.val (.int p1)] []))
              refine own_go (XS.bipush X0.here hx rfl (hb hby d3_48) (Steps.refl _)) ?_
              show own_Fin _ _ _ _ (s₁.setTop (mkF m 50 #[.val (.int p1)] [(.int (7 : Int32))]))
              obtain ⟨fs35, hr35, hrun35, hended35, hW35, hsame35⟩ := X0.leave (v := some (.int (7 : Int32))) (fun h => by rw [Bd.returns] at h; cases h)
              refine own_done (own_retI X0 hx Bd.returns (hb hby d3_50) hr35) hrun35 hended35 ⟨_, _, rfl, ?_, ⟨_, rfl⟩, hW35, hsame35.mono (by decide) (by decide)⟩
              show Q3 Z p1 h0 n0 _ s₁.heap _
              rw [e0]
              exact ⟨by unfold own_exp; rw [if_pos c2_20, if_pos c10_21, if_pos c18_22, if_pos c27_23, if_pos c36_24, if_neg c45_25], N0, rfl⟩
          · refine own_go (XS.icmpNo X0.here hx rfl (hb hby d3_36) rfl (flt c36_24).2.2.1 (Steps.refl _)) ?_
            show own_Fin _ _ _ _ (s₁.setTop (mkF m 39 #[.val (.int p1)] []))
            refine own_go (XS.bipush X0.here hx rfl (hb hby d3_39) (Steps.refl _)) ?_
            show own_Fin _ _ _ _ (s₁.setTop (mkF m 41 #[.val (.int p1)] [(.int (6 : Int32))]))
            obtain ⟨fs36, hr36, hrun36, hended36, hW36, hsame36⟩ := X0.leave (v := some (.int (6 : Int32))) (fun h => by rw [Bd.returns] at h; cases h)
            refine own_done (own_retI X0 hx Bd.returns (hb hby d3_41) hr36) hrun36 hended36 ⟨_, _, rfl, ?_, ⟨_, rfl⟩, hW36, hsame36.mono (by decide) (by decide)⟩
            show Q3 Z p1 h0 n0 _ s₁.heap _
            rw [e0]
            exact ⟨by unfold own_exp; rw [if_pos c2_20, if_pos c10_21, if_pos c18_22, if_pos c27_23, if_neg c36_24], N0, rfl⟩
        · refine own_go (XS.icmpNo X0.here hx rfl (hb hby d3_27) rfl (flt c27_23).2.2.1 (Steps.refl _)) ?_
          show own_Fin _ _ _ _ (s₁.setTop (mkF m 30 #[.val (.int p1)] []))
          refine own_go (XS.iconst X0.here hx rfl (hb hby d3_30) (Steps.refl _)) ?_
          show own_Fin _ _ _ _ (s₁.setTop (mkF m 31 #[.val (.int p1)] [(.int (5 : Int32))]))
          obtain ⟨fs37, hr37, hrun37, hended37, hW37, hsame37⟩ := X0.leave (v := some (.int (5 : Int32))) (fun h => by rw [Bd.returns] at h; cases h)
          refine own_done (own_retI X0 hx Bd.returns (hb hby d3_31) hr37) hrun37 hended37 ⟨_, _, rfl, ?_, ⟨_, rfl⟩, hW37, hsame37.mono (by decide) (by decide)⟩
          show Q3 Z p1 h0 n0 _ s₁.heap _
          rw [e0]
          exact ⟨by unfold own_exp; rw [if_pos c2_20, if_pos c10_21, if_pos c18_22, if_neg c27_23], N0, rfl⟩
      · refine own_go (XS.icmpNo X0.here hx rfl (hb hby d3_18) rfl (flt c18_22).2.2.1 (Steps.refl _)) ?_
        show own_Fin _ _ _ _ (s₁.setTop (mkF m 21 #[.val (.int p1)] []))
        refine own_go (XS.iconst X0.here hx rfl (hb hby d3_21) (Steps.refl _)) ?_
        show own_Fin _ _ _ _ (s₁.setTop (mkF m 22 #[.val (.int p1)] [(.int (4 : Int32))]))
        obtain ⟨fs38, hr38, hrun38, hended38, hW38, hsame38⟩ := X0.leave (v := some (.int (4 : Int32))) (fun h => by rw [Bd.returns] at h; cases h)
        refine own_done (own_retI X0 hx Bd.returns (hb hby d3_22) hr38) hrun38 hended38 ⟨_, _, rfl, ?_, ⟨_, rfl⟩, hW38, hsame38.mono (by decide) (by decide)⟩
        show Q3 Z p1 h0 n0 _ s₁.heap _
        rw [e0]
        exact ⟨by unfold own_exp; rw [if_pos c2_20, if_pos c10_21, if_neg c18_22], N0, rfl⟩
    · refine own_go (XS.icmpNo X0.here hx rfl (hb hby d3_10) rfl (flt c10_21).2.2.1 (Steps.refl _)) ?_
      show own_Fin _ _ _ _ (s₁.setTop (mkF m 13 #[.val (.int p1)] []))
      refine own_go (XS.iconst X0.here hx rfl (hb hby d3_13) (Steps.refl _)) ?_
      show own_Fin _ _ _ _ (s₁.setTop (mkF m 14 #[.val (.int p1)] [(.int (3 : Int32))]))
      obtain ⟨fs39, hr39, hrun39, hended39, hW39, hsame39⟩ := X0.leave (v := some (.int (3 : Int32))) (fun h => by rw [Bd.returns] at h; cases h)
      refine own_done (own_retI X0 hx Bd.returns (hb hby d3_14) hr39) hrun39 hended39 ⟨_, _, rfl, ?_, ⟨_, rfl⟩, hW39, hsame39.mono (by decide) (by decide)⟩
      show Q3 Z p1 h0 n0 _ s₁.heap _
      rw [e0]
      exact ⟨by unfold own_exp; rw [if_pos c2_20, if_neg c10_21], N0, rfl⟩
  · refine own_go (XS.icmpNo X0.here hx rfl (hb hby d3_2) rfl (flt c2_20).2.2.1 (Steps.refl _)) ?_
    show own_Fin _ _ _ _ (s₁.setTop (mkF m 5 #[.val (.int p1)] []))
    refine own_go (XS.iconst X0.here hx rfl (hb hby d3_5) (Steps.refl _)) ?_
    show own_Fin _ _ _ _ (s₁.setTop (mkF m 6 #[.val (.int p1)] [(.int (2 : Int32))]))
    obtain ⟨fs40, hr40, hrun40, hended40, hW40, hsame40⟩ := X0.leave (v := some (.int (2 : Int32))) (fun h => by rw [Bd.returns] at h; cases h)
    refine own_done (own_retI X0 hx Bd.returns (hb hby d3_6) hr40) hrun40 hended40 ⟨_, _, rfl, ?_, ⟨_, rfl⟩, hW40, hsame40.mono (by decide) (by decide)⟩
    show Q3 Z p1 h0 n0 _ s₁.heap _
    rw [e0]
    exact ⟨by unfold own_exp; rw [if_neg c2_20], N0, rfl⟩
theorem d2_0 : decode prog_37_method_2_code 0 = .ok (.iload_n 0, 1) := by decide +kernel
theorem d2_1 : decode prog_37_method_2_code 1 = .ok (.iconst 1, 1) := by decide +kernel
theorem d2_2 : decode prog_37_method_2_code 2 = .ok (.if_icmp .ge 17, 3) := by decide +kernel
theorem d2_5 : decode prog_37_method_2_code 5 = .ok (.new 7, 3) := by decide +kernel
theorem d2_8 : decode prog_37_method_2_code 8 = .ok (.dup, 1) := by decide +kernel
theorem d2_9 : decode prog_37_method_2_code 9 = .ok (.iload_n 0, 1) := by decide +kernel
theorem d2_15 : decode prog_37_method_2_code 15 = .ok (.invokespecial 13, 3) := by decide +kernel
theorem d2_18 : decode prog_37_method_2_code 18 = .ok (.athrow, 1) := by decide +kernel
theorem d2_19 : decode prog_37_method_2_code 19 = .ok (.iconst 0, 1) := by decide +kernel
theorem d2_20 : decode prog_37_method_2_code 20 = .ok (.istore_n 1, 1) := by decide +kernel
theorem d2_21 : decode prog_37_method_2_code 21 = .ok (.lconst 1, 1) := by decide +kernel
theorem d2_22 : decode prog_37_method_2_code 22 = .ok (.lstore_n 2, 1) := by decide +kernel
theorem d2_23 : decode prog_37_method_2_code 23 = .ok (.lload_n 2, 1) := by decide +kernel
theorem d2_24 : decode prog_37_method_2_code 24 = .ok (.iload_n 0, 1) := by decide +kernel
theorem d2_25 : decode prog_37_method_2_code 25 = .ok (.i2l, 1) := by decide +kernel
theorem d2_26 : decode prog_37_method_2_code 26 = .ok (.lcmp, 1) := by decide +kernel
theorem d2_27 : decode prog_37_method_2_code 27 = .ok (.ifCond .ge 15, 3) := by decide +kernel
theorem d2_30 : decode prog_37_method_2_code 30 = .ok (.iinc 1 1, 3) := by decide +kernel
theorem d2_33 : decode prog_37_method_2_code 33 = .ok (.lload_n 2, 1) := by decide +kernel
theorem d2_34 : decode prog_37_method_2_code 34 = .ok (.ldc2_w 16, 3) := by decide +kernel
theorem d2_37 : decode prog_37_method_2_code 37 = .ok (.lmul, 1) := by decide +kernel
theorem d2_38 : decode prog_37_method_2_code 38 = .ok (.lstore_n 2, 1) := by decide +kernel
theorem d2_39 : decode prog_37_method_2_code 39 = .ok (.goto (-16), 3) := by decide +kernel
theorem d2_42 : decode prog_37_method_2_code 42 = .ok (.iload_n 1, 1) := by decide +kernel
theorem d2_43 : decode prog_37_method_2_code 43 = .ok (.iconst 2, 1) := by decide +kernel
theorem d2_44 : decode prog_37_method_2_code 44 = .ok (.iadd, 1) := by decide +kernel
theorem d2_45 : decode prog_37_method_2_code 45 = .ok (.ireturn, 1) := by decide +kernel
theorem pn_com_example_pricefence_pricefence_ranges_PriceBounds : plainName "com/example/pricefence/pricefence/ranges/PriceBounds" = true := by first | (simp [plainName, overriddenIn]; done) | decide +kernel
theorem ef_2 (m : MethodId) (x0 : Int32) : entryFrame m #[(.int x0)] 4 = mkF m 0 #[.val (.int x0), .unset, .unset, .unset] [] := by first | (simp [entryFrame, mkF, argsToLocals, Value.category]; done) | rfl
def Q2 (Z : State) (p1 : Int32) (h0 : Heap) (n0 : Nat) (v : Option Value) (h : Heap) (L : List Loc) : Prop := v = some (.int (own_exp p1)) ∧ Fr n0 L ∧ h = h0
abbrev G2 (Z : State) (p1 : Int32) (h0 : Heap) (n0 : Nat) (s : State) : Outcome → State → Prop := fun o U' => ∃ v L, o = .returned v ∧ Q2 Z p1 h0 n0 v U'.heap L ∧ FrameEnd s o U' L ({ frames := 0, cells := 0, slots := 0, locals := 0 } : Room).cells ({ frames := 0, cells := 0, slots := 0, locals := 0 } : Room).slots
set_option maxRecDepth 65536 in
set_option maxHeartbeats 40000000 in
theorem rm2 (l : Launch) (Z : State) (a0 : Array Value) (hw : ∀ d ∈ tables_1, d.before a0 Z = true) (ws : List Jvm.Cond) (p1 : Int32) (h0 : Heap) (n0 : Nat) (Z0 : n0 ≤ h0.size) (hp : ¬ p1 < (1 : Int32)) :
    MetFree l (⟨"com/example/pricefence/pricefence/ranges/PriceBounds", "decimals", "(I)I"⟩ : MethodName) (head1 (Jvm.Cond.code (⟨"com/example/pricefence/pricefence/ranges/PriceBounds", "decimals", "(I)I"⟩ : MethodName) prog_37_method_2_code 4 (some .int) :: ws) ({ frames := 0, cells := 0, slots := 0, locals := 0 } : Room)) (fun a U => a = #[(.int p1)] ∧ Z.Warmed39 U.vm ∧ U.heap = h0) (fun _ _ _ _ _ => True) (fun _ U o U' => ∃ v L, o = .returned v ∧ Q2 Z p1 h0 n0 v U'.heap L ∧ FrameEnd U o U' L ({ frames := 0, cells := 0, slots := 0, locals := 0 } : Room).cells ({ frames := 0, cells := 0, slots := 0, locals := 0 } : Room).slots) := by
  refine MetFree.of_bodySF (plainFor_of_name pn_com_example_pricefence_pricefence_ranges_PriceBounds) hisR ?_
  intro p e s m args below meth c s₁ Bd hml0 hP hK
  obtain ⟨rfl, hZ, hh⟩ := hP
  have hx := Bd.exec
  have hby := Bd.bytes
  have hml : c.maxLocals = 4 := hml0
  have hown : s.vm.findClass "com/example/pricefence/pricefence/ranges/PriceBounds" = some m.cls := findClass_of_methodNamed Bd.named
  have hnm := (name_of_methodNamed Bd.named Bd.method).1
  have X0 : Stand p l e ({ frames := 0, cells := 0, slots := 0, locals := 0 } : Room) s m #[(.int p1)] below meth c s₁ [] 0 0 := Stand.of_body Bd
  have e0 : s₁.heap = h0 := by rw [← hh, Bd.state]; rfl
  have es0 : s.heap = h0 := hh
  have N0 := Fr.nil n0
  show own_Fin p e below (G2 Z p1 h0 n0 s) (s₁.setTop (entryFrame m #[(.int p1)] 4))
  rw [ef_2 m p1]
  refine own_go (XS.iloadN X0.here hx rfl (hb hby d2_0) rfl (Steps.refl _)) ?_
  show own_Fin _ _ _ _ (s₁.setTop (mkF m 1 #[.val (.int p1), .unset, .unset, .unset] [(.int p1)]))
  refine own_go (XS.iconst X0.here hx rfl (hb hby d2_1) (Steps.refl _)) ?_
  show own_Fin _ _ _ _ (s₁.setTop (mkF m 2 #[.val (.int p1), .unset, .unset, .unset] [(.int (1 : Int32)), (.int p1)]))
  refine own_go (XS.icmpYes X0.here hx rfl (pc0 := 2) (pc' := 19) rfl (hb hby d2_2) rfl (flt (show ¬ (p1 < (1 : Int32)) from hp)).2.1 (by decide) (by decide) (Steps.refl _)) ?_
  show own_Fin _ _ _ _ (s₁.setTop (mkF m 19 #[.val (.int p1), .unset, .unset, .unset] []))
  refine own_go (XS.iconst X0.here hx rfl (hb hby d2_19) (Steps.refl _)) ?_
  show own_Fin _ _ _ _ (s₁.setTop (mkF m 20 #[.val (.int p1), .unset, .unset, .unset] [(.int (0 : Int32))]))
  refine own_go (XS.istoreN X0.here hx rfl (hb hby d2_20) rfl (l' := #[.val (.int p1), .val (.int (0 : Int32)), .unset, .unset]) rfl (Steps.refl _)) ?_
  show own_Fin _ _ _ _ (s₁.setTop (mkF m 21 #[.val (.int p1), .val (.int (0 : Int32)), .unset, .unset] []))
  refine own_go (XS.lconst X0.here hx rfl (hb hby d2_21) (Steps.refl _)) ?_
  show own_Fin _ _ _ _ (s₁.setTop (mkF m 22 #[.val (.int p1), .val (.int (0 : Int32)), .unset, .unset] [(.long (1 : Int64))]))
  refine own_go (XS.lstoreN X0.here hx rfl (hb hby d2_22) rfl (l' := #[.val (.int p1), .val (.int (0 : Int32)), .val (.long (1 : Int64)), .second]) rfl (Steps.refl _)) ?_
  show own_Fin _ _ _ _ (s₁.setTop (mkF m 23 #[.val (.int p1), .val (.int (0 : Int32)), .val (.long (1 : Int64)), .second] []))
  refine own_go (XS.lloadN X0.here hx rfl (hb hby d2_23) rfl (Steps.refl _)) ?_
  show own_Fin _ _ _ _ (s₁.setTop (mkF m 24 #[.val (.int p1), .val (.int (0 : Int32)), .val (.long (1 : Int64)), .second] [(.long (1 : Int64))]))
  refine own_go (XS.iloadN X0.here hx rfl (hb hby d2_24) rfl (Steps.refl _)) ?_
  show own_Fin _ _ _ _ (s₁.setTop (mkF m 25 #[.val (.int p1), .val (.int (0 : Int32)), .val (.long (1 : Int64)), .second] [(.int p1), (.long (1 : Int64))]))
  refine own_go (XS.i2l X0.here hx rfl (hb hby d2_25) rfl (Steps.refl _)) ?_
  show own_Fin _ _ _ _ (s₁.setTop (mkF m 26 #[.val (.int p1), .val (.int (0 : Int32)), .val (.long (1 : Int64)), .second] [(.long (p1.toInt64)), (.long (1 : Int64))]))
  refine own_go (XS.lcmp X0.here hx rfl (hb hby d2_26) rfl (Steps.refl _)) ?_
  show own_Fin _ _ _ _ (s₁.setTop (mkF m 27 #[.val (.int p1), .val (.int (0 : Int32)), .val (.long (1 : Int64)), .second] [(.int (lcmpW (1 : Int64) (p1.toInt64)))]))
  by_cases c1 : (1 : Int32) < p1
  · refine own_go (XS.ifNo X0.here hx rfl (hb hby d2_27) rfl ((if0 _ _).trans (tlt (show (lcmpW (1 : Int64) (p1.toInt64)) < (0 : Int32) from (own_cmp (1 : Int64) (1 : Int32) p1 (by decide)).2 c1)).2.1) (Steps.refl _)) ?_
    show own_Fin _ _ _ _ (s₁.setTop (mkF m 30 #[.val (.int p1), .val (.int (0 : Int32)), .val (.long (1 : Int64)), .second] []))
    refine own_go (XS.iinc X0.here hx rfl (hb hby d2_30) rfl (l' := #[.val (.int p1), .val (.int (1 : Int32)), .val (.long (1 : Int64)), .second]) rfl (Steps.refl _)) ?_
    show own_Fin _ _ _ _ (s₁.setTop (mkF m 33 #[.val (.int p1), .val (.int (1 : Int32)), .val (.long (1 : Int64)), .second] []))
    refine own_go (XS.lloadN X0.here hx rfl (hb hby d2_33) rfl (Steps.refl _)) ?_
    show own_Fin _ _ _ _ (s₁.setTop (mkF m 34 #[.val (.int p1), .val (.int (1 : Int32)), .val (.long (1 : Int64)), .second] [(.long (1 : Int64))]))
    refine own_by (X0.ldc2Long hx hown (mvT hZ (hw _ (List.mem_of_getElem? (i := 9) rfl))) (g := (mkF m 34 #[.val (.int p1), .val (.int (1 : Int32)), .val (.long (1 : Int64)), .second] [(.long (1 : Int64))])) rfl (hb hby d2_34)) ?_
    show own_Fin _ _ _ _ (s₁.setTop (mkF m 37 #[.val (.int p1), .val (.int (1 : Int32)), .val (.long (1 : Int64)), .second] [(.long (10 : Int64)), (.long (1 : Int64))]))
    refine own_go (XS.lmul X0.here hx rfl (hb hby d2_37) rfl (Steps.refl _)) ?_
    show own_Fin _ _ _ _ (s₁.setTop (mkF m 38 #[.val (.int p1), .val (.int (1 : Int32)), .val (.long (1 : Int64)), .second] [(.long (10 : Int64))]))
    refine own_go (XS.lstoreN X0.here hx rfl (hb hby d2_38) rfl (l' := #[.val (.int p1), .val (.int (1 : Int32)), .val (.long (10 : Int64)), .second]) rfl (Steps.refl _)) ?_
    show own_Fin _ _ _ _ (s₁.setTop (mkF m 39 #[.val (.int p1), .val (.int (1 : Int32)), .val (.long (10 : Int64)), .second] []))
    refine own_go (XS.goto X0.here hx rfl (pc0 := 39) (pc' := 23) rfl (hb hby d2_39) (by decide) (by decide) (Steps.refl _)) ?_
    show own_Fin _ _ _ _ (s₁.setTop (mkF m 23 #[.val (.int p1), .val (.int (1 : Int32)), .val (.long (10 : Int64)), .second] []))
    refine own_go (XS.lloadN X0.here hx rfl (hb hby d2_23) rfl (Steps.refl _)) ?_
    show own_Fin _ _ _ _ (s₁.setTop (mkF m 24 #[.val (.int p1), .val (.int (1 : Int32)), .val (.long (10 : Int64)), .second] [(.long (10 : Int64))]))
    refine own_go (XS.iloadN X0.here hx rfl (hb hby d2_24) rfl (Steps.refl _)) ?_
    show own_Fin _ _ _ _ (s₁.setTop (mkF m 25 #[.val (.int p1), .val (.int (1 : Int32)), .val (.long (10 : Int64)), .second] [(.int p1), (.long (10 : Int64))]))
    refine own_go (XS.i2l X0.here hx rfl (hb hby d2_25) rfl (Steps.refl _)) ?_
    show own_Fin _ _ _ _ (s₁.setTop (mkF m 26 #[.val (.int p1), .val (.int (1 : Int32)), .val (.long (10 : Int64)), .second] [(.long (p1.toInt64)), (.long (10 : Int64))]))
    refine own_go (XS.lcmp X0.here hx rfl (hb hby d2_26) rfl (Steps.refl _)) ?_
    show own_Fin _ _ _ _ (s₁.setTop (mkF m 27 #[.val (.int p1), .val (.int (1 : Int32)), .val (.long (10 : Int64)), .second] [(.int (lcmpW (10 : Int64) (p1.toInt64)))]))
    by_cases c10 : (10 : Int32) < p1
    · refine own_go (XS.ifNo X0.here hx rfl (hb hby d2_27) rfl ((if0 _ _).trans (tlt (show (lcmpW (10 : Int64) (p1.toInt64)) < (0 : Int32) from (own_cmp (10 : Int64) (10 : Int32) p1 (by decide)).2 c10)).2.1) (Steps.refl _)) ?_
      show own_Fin _ _ _ _ (s₁.setTop (mkF m 30 #[.val (.int p1), .val (.int (1 : Int32)), .val (.long (10 : Int64)), .second] []))
      refine own_go (XS.iinc X0.here hx rfl (hb hby d2_30) rfl (l' := #[.val (.int p1), .val (.int (2 : Int32)), .val (.long (10 : Int64)), .second]) rfl (Steps.refl _)) ?_
      show own_Fin _ _ _ _ (s₁.setTop (mkF m 33 #[.val (.int p1), .val (.int (2 : Int32)), .val (.long (10 : Int64)), .second] []))
      refine own_go (XS.lloadN X0.here hx rfl (hb hby d2_33) rfl (Steps.refl _)) ?_
      show own_Fin _ _ _ _ (s₁.setTop (mkF m 34 #[.val (.int p1), .val (.int (2 : Int32)), .val (.long (10 : Int64)), .second] [(.long (10 : Int64))]))
      refine own_by (X0.ldc2Long hx hown (mvT hZ (hw _ (List.mem_of_getElem? (i := 9) rfl))) (g := (mkF m 34 #[.val (.int p1), .val (.int (2 : Int32)), .val (.long (10 : Int64)), .second] [(.long (10 : Int64))])) rfl (hb hby d2_34)) ?_
      show own_Fin _ _ _ _ (s₁.setTop (mkF m 37 #[.val (.int p1), .val (.int (2 : Int32)), .val (.long (10 : Int64)), .second] [(.long (10 : Int64)), (.long (10 : Int64))]))
      refine own_go (XS.lmul X0.here hx rfl (hb hby d2_37) rfl (Steps.refl _)) ?_
      show own_Fin _ _ _ _ (s₁.setTop (mkF m 38 #[.val (.int p1), .val (.int (2 : Int32)), .val (.long (10 : Int64)), .second] [(.long (100 : Int64))]))
      refine own_go (XS.lstoreN X0.here hx rfl (hb hby d2_38) rfl (l' := #[.val (.int p1), .val (.int (2 : Int32)), .val (.long (100 : Int64)), .second]) rfl (Steps.refl _)) ?_
      show own_Fin _ _ _ _ (s₁.setTop (mkF m 39 #[.val (.int p1), .val (.int (2 : Int32)), .val (.long (100 : Int64)), .second] []))
      refine own_go (XS.goto X0.here hx rfl (pc0 := 39) (pc' := 23) rfl (hb hby d2_39) (by decide) (by decide) (Steps.refl _)) ?_
      show own_Fin _ _ _ _ (s₁.setTop (mkF m 23 #[.val (.int p1), .val (.int (2 : Int32)), .val (.long (100 : Int64)), .second] []))
      refine own_go (XS.lloadN X0.here hx rfl (hb hby d2_23) rfl (Steps.refl _)) ?_
      show own_Fin _ _ _ _ (s₁.setTop (mkF m 24 #[.val (.int p1), .val (.int (2 : Int32)), .val (.long (100 : Int64)), .second] [(.long (100 : Int64))]))
      refine own_go (XS.iloadN X0.here hx rfl (hb hby d2_24) rfl (Steps.refl _)) ?_
      show own_Fin _ _ _ _ (s₁.setTop (mkF m 25 #[.val (.int p1), .val (.int (2 : Int32)), .val (.long (100 : Int64)), .second] [(.int p1), (.long (100 : Int64))]))
      refine own_go (XS.i2l X0.here hx rfl (hb hby d2_25) rfl (Steps.refl _)) ?_
      show own_Fin _ _ _ _ (s₁.setTop (mkF m 26 #[.val (.int p1), .val (.int (2 : Int32)), .val (.long (100 : Int64)), .second] [(.long (p1.toInt64)), (.long (100 : Int64))]))
      refine own_go (XS.lcmp X0.here hx rfl (hb hby d2_26) rfl (Steps.refl _)) ?_
      show own_Fin _ _ _ _ (s₁.setTop (mkF m 27 #[.val (.int p1), .val (.int (2 : Int32)), .val (.long (100 : Int64)), .second] [(.int (lcmpW (100 : Int64) (p1.toInt64)))]))
      by_cases c100 : (100 : Int32) < p1
      · refine own_go (XS.ifNo X0.here hx rfl (hb hby d2_27) rfl ((if0 _ _).trans (tlt (show (lcmpW (100 : Int64) (p1.toInt64)) < (0 : Int32) from (own_cmp (100 : Int64) (100 : Int32) p1 (by decide)).2 c100)).2.1) (Steps.refl _)) ?_
        show own_Fin _ _ _ _ (s₁.setTop (mkF m 30 #[.val (.int p1), .val (.int (2 : Int32)), .val (.long (100 : Int64)), .second] []))
        refine own_go (XS.iinc X0.here hx rfl (hb hby d2_30) rfl (l' := #[.val (.int p1), .val (.int (3 : Int32)), .val (.long (100 : Int64)), .second]) rfl (Steps.refl _)) ?_
        show own_Fin _ _ _ _ (s₁.setTop (mkF m 33 #[.val (.int p1), .val (.int (3 : Int32)), .val (.long (100 : Int64)), .second] []))
        refine own_go (XS.lloadN X0.here hx rfl (hb hby d2_33) rfl (Steps.refl _)) ?_
        show own_Fin _ _ _ _ (s₁.setTop (mkF m 34 #[.val (.int p1), .val (.int (3 : Int32)), .val (.long (100 : Int64)), .second] [(.long (100 : Int64))]))
        refine own_by (X0.ldc2Long hx hown (mvT hZ (hw _ (List.mem_of_getElem? (i := 9) rfl))) (g := (mkF m 34 #[.val (.int p1), .val (.int (3 : Int32)), .val (.long (100 : Int64)), .second] [(.long (100 : Int64))])) rfl (hb hby d2_34)) ?_
        show own_Fin _ _ _ _ (s₁.setTop (mkF m 37 #[.val (.int p1), .val (.int (3 : Int32)), .val (.long (100 : Int64)), .second] [(.long (10 : Int64)), (.long (100 : Int64))]))
        refine own_go (XS.lmul X0.here hx rfl (hb hby d2_37) rfl (Steps.refl _)) ?_
        show own_Fin _ _ _ _ (s₁.setTop (mkF m 38 #[.val (.int p1), .val (.int (3 : Int32)), .val (.long (100 : Int64)), .second] [(.long (1000 : Int64))]))
        refine own_go (XS.lstoreN X0.here hx rfl (hb hby d2_38) rfl (l' := #[.val (.int p1), .val (.int (3 : Int32)), .val (.long (1000 : Int64)), .second]) rfl (Steps.refl _)) ?_
        show own_Fin _ _ _ _ (s₁.setTop (mkF m 39 #[.val (.int p1), .val (.int (3 : Int32)), .val (.long (1000 : Int64)), .second] []))
        refine own_go (XS.goto X0.here hx rfl (pc0 := 39) (pc' := 23) rfl (hb hby d2_39) (by decide) (by decide) (Steps.refl _)) ?_
        show own_Fin _ _ _ _ (s₁.setTop (mkF m 23 #[.val (.int p1), .val (.int (3 : Int32)), .val (.long (1000 : Int64)), .second] []))
        refine own_go (XS.lloadN X0.here hx rfl (hb hby d2_23) rfl (Steps.refl _)) ?_
        show own_Fin _ _ _ _ (s₁.setTop (mkF m 24 #[.val (.int p1), .val (.int (3 : Int32)), .val (.long (1000 : Int64)), .second] [(.long (1000 : Int64))]))
        refine own_go (XS.iloadN X0.here hx rfl (hb hby d2_24) rfl (Steps.refl _)) ?_
        show own_Fin _ _ _ _ (s₁.setTop (mkF m 25 #[.val (.int p1), .val (.int (3 : Int32)), .val (.long (1000 : Int64)), .second] [(.int p1), (.long (1000 : Int64))]))
        refine own_go (XS.i2l X0.here hx rfl (hb hby d2_25) rfl (Steps.refl _)) ?_
        show own_Fin _ _ _ _ (s₁.setTop (mkF m 26 #[.val (.int p1), .val (.int (3 : Int32)), .val (.long (1000 : Int64)), .second] [(.long (p1.toInt64)), (.long (1000 : Int64))]))
        refine own_go (XS.lcmp X0.here hx rfl (hb hby d2_26) rfl (Steps.refl _)) ?_
        show own_Fin _ _ _ _ (s₁.setTop (mkF m 27 #[.val (.int p1), .val (.int (3 : Int32)), .val (.long (1000 : Int64)), .second] [(.int (lcmpW (1000 : Int64) (p1.toInt64)))]))
        by_cases c1000 : (1000 : Int32) < p1
        · refine own_go (XS.ifNo X0.here hx rfl (hb hby d2_27) rfl ((if0 _ _).trans (tlt (show (lcmpW (1000 : Int64) (p1.toInt64)) < (0 : Int32) from (own_cmp (1000 : Int64) (1000 : Int32) p1 (by decide)).2 c1000)).2.1) (Steps.refl _)) ?_
          show own_Fin _ _ _ _ (s₁.setTop (mkF m 30 #[.val (.int p1), .val (.int (3 : Int32)), .val (.long (1000 : Int64)), .second] []))
          refine own_go (XS.iinc X0.here hx rfl (hb hby d2_30) rfl (l' := #[.val (.int p1), .val (.int (4 : Int32)), .val (.long (1000 : Int64)), .second]) rfl (Steps.refl _)) ?_
          show own_Fin _ _ _ _ (s₁.setTop (mkF m 33 #[.val (.int p1), .val (.int (4 : Int32)), .val (.long (1000 : Int64)), .second] []))
          refine own_go (XS.lloadN X0.here hx rfl (hb hby d2_33) rfl (Steps.refl _)) ?_
          show own_Fin _ _ _ _ (s₁.setTop (mkF m 34 #[.val (.int p1), .val (.int (4 : Int32)), .val (.long (1000 : Int64)), .second] [(.long (1000 : Int64))]))
          refine own_by (X0.ldc2Long hx hown (mvT hZ (hw _ (List.mem_of_getElem? (i := 9) rfl))) (g := (mkF m 34 #[.val (.int p1), .val (.int (4 : Int32)), .val (.long (1000 : Int64)), .second] [(.long (1000 : Int64))])) rfl (hb hby d2_34)) ?_
          show own_Fin _ _ _ _ (s₁.setTop (mkF m 37 #[.val (.int p1), .val (.int (4 : Int32)), .val (.long (1000 : Int64)), .second] [(.long (10 : Int64)), (.long (1000 : Int64))]))
          refine own_go (XS.lmul X0.here hx rfl (hb hby d2_37) rfl (Steps.refl _)) ?_
          show own_Fin _ _ _ _ (s₁.setTop (mkF m 38 #[.val (.int p1), .val (.int (4 : Int32)), .val (.long (1000 : Int64)), .second] [(.long (10000 : Int64))]))
          refine own_go (XS.lstoreN X0.here hx rfl (hb hby d2_38) rfl (l' := #[.val (.int p1), .val (.int (4 : Int32)), .val (.long (10000 : Int64)), .second]) rfl (Steps.refl _)) ?_
          show own_Fin _ _ _ _ (s₁.setTop (mkF m 39 #[.val (.int p1), .val (.int (4 : Int32)), .val (.long (10000 : Int64)), .second] []))
          refine own_go (XS.goto X0.here hx rfl (pc0 := 39) (pc' := 23) rfl (hb hby d2_39) (by decide) (by decide) (Steps.refl _)) ?_
          show own_Fin _ _ _ _ (s₁.setTop (mkF m 23 #[.val (.int p1), .val (.int (4 : Int32)), .val (.long (10000 : Int64)), .second] []))
          refine own_go (XS.lloadN X0.here hx rfl (hb hby d2_23) rfl (Steps.refl _)) ?_
          show own_Fin _ _ _ _ (s₁.setTop (mkF m 24 #[.val (.int p1), .val (.int (4 : Int32)), .val (.long (10000 : Int64)), .second] [(.long (10000 : Int64))]))
          refine own_go (XS.iloadN X0.here hx rfl (hb hby d2_24) rfl (Steps.refl _)) ?_
          show own_Fin _ _ _ _ (s₁.setTop (mkF m 25 #[.val (.int p1), .val (.int (4 : Int32)), .val (.long (10000 : Int64)), .second] [(.int p1), (.long (10000 : Int64))]))
          refine own_go (XS.i2l X0.here hx rfl (hb hby d2_25) rfl (Steps.refl _)) ?_
          show own_Fin _ _ _ _ (s₁.setTop (mkF m 26 #[.val (.int p1), .val (.int (4 : Int32)), .val (.long (10000 : Int64)), .second] [(.long (p1.toInt64)), (.long (10000 : Int64))]))
          refine own_go (XS.lcmp X0.here hx rfl (hb hby d2_26) rfl (Steps.refl _)) ?_
          show own_Fin _ _ _ _ (s₁.setTop (mkF m 27 #[.val (.int p1), .val (.int (4 : Int32)), .val (.long (10000 : Int64)), .second] [(.int (lcmpW (10000 : Int64) (p1.toInt64)))]))
          by_cases c10000 : (10000 : Int32) < p1
          · refine own_go (XS.ifNo X0.here hx rfl (hb hby d2_27) rfl ((if0 _ _).trans (tlt (show (lcmpW (10000 : Int64) (p1.toInt64)) < (0 : Int32) from (own_cmp (10000 : Int64) (10000 : Int32) p1 (by decide)).2 c10000)).2.1) (Steps.refl _)) ?_
            show own_Fin _ _ _ _ (s₁.setTop (mkF m 30 #[.val (.int p1), .val (.int (4 : Int32)), .val (.long (10000 : Int64)), .second] []))
            refine own_go (XS.iinc X0.here hx rfl (hb hby d2_30) rfl (l' := #[.val (.int p1), .val (.int (5 : Int32)), .val (.long (10000 : Int64)), .second]) rfl (Steps.refl _)) ?_
            show own_Fin _ _ _ _ (s₁.setTop (mkF m 33 #[.val (.int p1), .val (.int (5 : Int32)), .val (.long (10000 : Int64)), .second] []))
            refine own_go (XS.lloadN X0.here hx rfl (hb hby d2_33) rfl (Steps.refl _)) ?_
            show own_Fin _ _ _ _ (s₁.setTop (mkF m 34 #[.val (.int p1), .val (.int (5 : Int32)), .val (.long (10000 : Int64)), .second] [(.long (10000 : Int64))]))
            refine own_by (X0.ldc2Long hx hown (mvT hZ (hw _ (List.mem_of_getElem? (i := 9) rfl))) (g := (mkF m 34 #[.val (.int p1), .val (.int (5 : Int32)), .val (.long (10000 : Int64)), .second] [(.long (10000 : Int64))])) rfl (hb hby d2_34)) ?_
            show own_Fin _ _ _ _ (s₁.setTop (mkF m 37 #[.val (.int p1), .val (.int (5 : Int32)), .val (.long (10000 : Int64)), .second] [(.long (10 : Int64)), (.long (10000 : Int64))]))
            refine own_go (XS.lmul X0.here hx rfl (hb hby d2_37) rfl (Steps.refl _)) ?_
            show own_Fin _ _ _ _ (s₁.setTop (mkF m 38 #[.val (.int p1), .val (.int (5 : Int32)), .val (.long (10000 : Int64)), .second] [(.long (100000 : Int64))]))
            refine own_go (XS.lstoreN X0.here hx rfl (hb hby d2_38) rfl (l' := #[.val (.int p1), .val (.int (5 : Int32)), .val (.long (100000 : Int64)), .second]) rfl (Steps.refl _)) ?_
            show own_Fin _ _ _ _ (s₁.setTop (mkF m 39 #[.val (.int p1), .val (.int (5 : Int32)), .val (.long (100000 : Int64)), .second] []))
            refine own_go (XS.goto X0.here hx rfl (pc0 := 39) (pc' := 23) rfl (hb hby d2_39) (by decide) (by decide) (Steps.refl _)) ?_
            show own_Fin _ _ _ _ (s₁.setTop (mkF m 23 #[.val (.int p1), .val (.int (5 : Int32)), .val (.long (100000 : Int64)), .second] []))
            refine own_go (XS.lloadN X0.here hx rfl (hb hby d2_23) rfl (Steps.refl _)) ?_
            show own_Fin _ _ _ _ (s₁.setTop (mkF m 24 #[.val (.int p1), .val (.int (5 : Int32)), .val (.long (100000 : Int64)), .second] [(.long (100000 : Int64))]))
            refine own_go (XS.iloadN X0.here hx rfl (hb hby d2_24) rfl (Steps.refl _)) ?_
            show own_Fin _ _ _ _ (s₁.setTop (mkF m 25 #[.val (.int p1), .val (.int (5 : Int32)), .val (.long (100000 : Int64)), .second] [(.int p1), (.long (100000 : Int64))]))
            refine own_go (XS.i2l X0.here hx rfl (hb hby d2_25) rfl (Steps.refl _)) ?_
            show own_Fin _ _ _ _ (s₁.setTop (mkF m 26 #[.val (.int p1), .val (.int (5 : Int32)), .val (.long (100000 : Int64)), .second] [(.long (p1.toInt64)), (.long (100000 : Int64))]))
            refine own_go (XS.lcmp X0.here hx rfl (hb hby d2_26) rfl (Steps.refl _)) ?_
            show own_Fin _ _ _ _ (s₁.setTop (mkF m 27 #[.val (.int p1), .val (.int (5 : Int32)), .val (.long (100000 : Int64)), .second] [(.int (lcmpW (100000 : Int64) (p1.toInt64)))]))
            by_cases c100000 : (100000 : Int32) < p1
            · refine own_go (XS.ifNo X0.here hx rfl (hb hby d2_27) rfl ((if0 _ _).trans (tlt (show (lcmpW (100000 : Int64) (p1.toInt64)) < (0 : Int32) from (own_cmp (100000 : Int64) (100000 : Int32) p1 (by decide)).2 c100000)).2.1) (Steps.refl _)) ?_
              show own_Fin _ _ _ _ (s₁.setTop (mkF m 30 #[.val (.int p1), .val (.int (5 : Int32)), .val (.long (100000 : Int64)), .second] []))
              refine own_go (XS.iinc X0.here hx rfl (hb hby d2_30) rfl (l' := #[.val (.int p1), .val (.int (6 : Int32)), .val (.long (100000 : Int64)), .second]) rfl (Steps.refl _)) ?_
              show own_Fin _ _ _ _ (s₁.setTop (mkF m 33 #[.val (.int p1), .val (.int (6 : Int32)), .val (.long (100000 : Int64)), .second] []))
              refine own_go (XS.lloadN X0.here hx rfl (hb hby d2_33) rfl (Steps.refl _)) ?_
              show own_Fin _ _ _ _ (s₁.setTop (mkF m 34 #[.val (.int p1), .val (.int (6 : Int32)), .val (.long (100000 : Int64)), .second] [(.long (100000 : Int64))]))
              refine own_by (X0.ldc2Long hx hown (mvT hZ (hw _ (List.mem_of_getElem? (i := 9) rfl))) (g := (mkF m 34 #[.val (.int p1), .val (.int (6 : Int32)), .val (.long (100000 : Int64)), .second] [(.long (100000 : Int64))])) rfl (hb hby d2_34)) ?_
              show own_Fin _ _ _ _ (s₁.setTop (mkF m 37 #[.val (.int p1), .val (.int (6 : Int32)), .val (.long (100000 : Int64)), .second] [(.long (10 : Int64)), (.long (100000 : Int64))]))
              refine own_go (XS.lmul X0.here hx rfl (hb hby d2_37) rfl (Steps.refl _)) ?_
              show own_Fin _ _ _ _ (s₁.setTop (mkF m 38 #[.val (.int p1), .val (.int (6 : Int32)), .val (.long (100000 : Int64)), .second] [(.long (1000000 : Int64))]))
              refine own_go (XS.lstoreN X0.here hx rfl (hb hby d2_38) rfl (l' := #[.val (.int p1), .val (.int (6 : Int32)), .val (.long (1000000 : Int64)), .second]) rfl (Steps.refl _)) ?_
              show own_Fin _ _ _ _ (s₁.setTop (mkF m 39 #[.val (.int p1), .val (.int (6 : Int32)), .val (.long (1000000 : Int64)), .second] []))
              refine own_go (XS.goto X0.here hx rfl (pc0 := 39) (pc' := 23) rfl (hb hby d2_39) (by decide) (by decide) (Steps.refl _)) ?_
              show own_Fin _ _ _ _ (s₁.setTop (mkF m 23 #[.val (.int p1), .val (.int (6 : Int32)), .val (.long (1000000 : Int64)), .second] []))
              refine own_go (XS.lloadN X0.here hx rfl (hb hby d2_23) rfl (Steps.refl _)) ?_
              show own_Fin _ _ _ _ (s₁.setTop (mkF m 24 #[.val (.int p1), .val (.int (6 : Int32)), .val (.long (1000000 : Int64)), .second] [(.long (1000000 : Int64))]))
              refine own_go (XS.iloadN X0.here hx rfl (hb hby d2_24) rfl (Steps.refl _)) ?_
              show own_Fin _ _ _ _ (s₁.setTop (mkF m 25 #[.val (.int p1), .val (.int (6 : Int32)), .val (.long (1000000 : Int64)), .second] [(.int p1), (.long (1000000 : Int64))]))
              refine own_go (XS.i2l X0.here hx rfl (hb hby d2_25) rfl (Steps.refl _)) ?_
              show own_Fin _ _ _ _ (s₁.setTop (mkF m 26 #[.val (.int p1), .val (.int (6 : Int32)), .val (.long (1000000 : Int64)), .second] [(.long (p1.toInt64)), (.long (1000000 : Int64))]))
              refine own_go (XS.lcmp X0.here hx rfl (hb hby d2_26) rfl (Steps.refl _)) ?_
              show own_Fin _ _ _ _ (s₁.setTop (mkF m 27 #[.val (.int p1), .val (.int (6 : Int32)), .val (.long (1000000 : Int64)), .second] [(.int (lcmpW (1000000 : Int64) (p1.toInt64)))]))
              by_cases c1000000 : (1000000 : Int32) < p1
              · refine own_go (XS.ifNo X0.here hx rfl (hb hby d2_27) rfl ((if0 _ _).trans (tlt (show (lcmpW (1000000 : Int64) (p1.toInt64)) < (0 : Int32) from (own_cmp (1000000 : Int64) (1000000 : Int32) p1 (by decide)).2 c1000000)).2.1) (Steps.refl _)) ?_
                show own_Fin _ _ _ _ (s₁.setTop (mkF m 30 #[.val (.int p1), .val (.int (6 : Int32)), .val (.long (1000000 : Int64)), .second] []))
                refine own_go (XS.iinc X0.here hx rfl (hb hby d2_30) rfl (l' := #[.val (.int p1), .val (.int (7 : Int32)), .val (.long (1000000 : Int64)), .second]) rfl (Steps.refl _)) ?_
                show own_Fin _ _ _ _ (s₁.setTop (mkF m 33 #[.val (.int p1), .val (.int (7 : Int32)), .val (.long (1000000 : Int64)), .second] []))
                refine own_go (XS.lloadN X0.here hx rfl (hb hby d2_33) rfl (Steps.refl _)) ?_
                show own_Fin _ _ _ _ (s₁.setTop (mkF m 34 #[.val (.int p1), .val (.int (7 : Int32)), .val (.long (1000000 : Int64)), .second] [(.long (1000000 : Int64))]))
                refine own_by (X0.ldc2Long hx hown (mvT hZ (hw _ (List.mem_of_getElem? (i := 9) rfl))) (g := (mkF m 34 #[.val (.int p1), .val (.int (7 : Int32)), .val (.long (1000000 : Int64)), .second] [(.long (1000000 : Int64))])) rfl (hb hby d2_34)) ?_
                show own_Fin _ _ _ _ (s₁.setTop (mkF m 37 #[.val (.int p1), .val (.int (7 : Int32)), .val (.long (1000000 : Int64)), .second] [(.long (10 : Int64)), (.long (1000000 : Int64))]))
                refine own_go (XS.lmul X0.here hx rfl (hb hby d2_37) rfl (Steps.refl _)) ?_
                show own_Fin _ _ _ _ (s₁.setTop (mkF m 38 #[.val (.int p1), .val (.int (7 : Int32)), .val (.long (1000000 : Int64)), .second] [(.long (10000000 : Int64))]))
                refine own_go (XS.lstoreN X0.here hx rfl (hb hby d2_38) rfl (l' := #[.val (.int p1), .val (.int (7 : Int32)), .val (.long (10000000 : Int64)), .second]) rfl (Steps.refl _)) ?_
                show own_Fin _ _ _ _ (s₁.setTop (mkF m 39 #[.val (.int p1), .val (.int (7 : Int32)), .val (.long (10000000 : Int64)), .second] []))
                refine own_go (XS.goto X0.here hx rfl (pc0 := 39) (pc' := 23) rfl (hb hby d2_39) (by decide) (by decide) (Steps.refl _)) ?_
                show own_Fin _ _ _ _ (s₁.setTop (mkF m 23 #[.val (.int p1), .val (.int (7 : Int32)), .val (.long (10000000 : Int64)), .second] []))
                refine own_go (XS.lloadN X0.here hx rfl (hb hby d2_23) rfl (Steps.refl _)) ?_
                show own_Fin _ _ _ _ (s₁.setTop (mkF m 24 #[.val (.int p1), .val (.int (7 : Int32)), .val (.long (10000000 : Int64)), .second] [(.long (10000000 : Int64))]))
                refine own_go (XS.iloadN X0.here hx rfl (hb hby d2_24) rfl (Steps.refl _)) ?_
                show own_Fin _ _ _ _ (s₁.setTop (mkF m 25 #[.val (.int p1), .val (.int (7 : Int32)), .val (.long (10000000 : Int64)), .second] [(.int p1), (.long (10000000 : Int64))]))
                refine own_go (XS.i2l X0.here hx rfl (hb hby d2_25) rfl (Steps.refl _)) ?_
                show own_Fin _ _ _ _ (s₁.setTop (mkF m 26 #[.val (.int p1), .val (.int (7 : Int32)), .val (.long (10000000 : Int64)), .second] [(.long (p1.toInt64)), (.long (10000000 : Int64))]))
                refine own_go (XS.lcmp X0.here hx rfl (hb hby d2_26) rfl (Steps.refl _)) ?_
                show own_Fin _ _ _ _ (s₁.setTop (mkF m 27 #[.val (.int p1), .val (.int (7 : Int32)), .val (.long (10000000 : Int64)), .second] [(.int (lcmpW (10000000 : Int64) (p1.toInt64)))]))
                by_cases c10000000 : (10000000 : Int32) < p1
                · refine own_go (XS.ifNo X0.here hx rfl (hb hby d2_27) rfl ((if0 _ _).trans (tlt (show (lcmpW (10000000 : Int64) (p1.toInt64)) < (0 : Int32) from (own_cmp (10000000 : Int64) (10000000 : Int32) p1 (by decide)).2 c10000000)).2.1) (Steps.refl _)) ?_
                  show own_Fin _ _ _ _ (s₁.setTop (mkF m 30 #[.val (.int p1), .val (.int (7 : Int32)), .val (.long (10000000 : Int64)), .second] []))
                  refine own_go (XS.iinc X0.here hx rfl (hb hby d2_30) rfl (l' := #[.val (.int p1), .val (.int (8 : Int32)), .val (.long (10000000 : Int64)), .second]) rfl (Steps.refl _)) ?_
                  show own_Fin _ _ _ _ (s₁.setTop (mkF m 33 #[.val (.int p1), .val (.int (8 : Int32)), .val (.long (10000000 : Int64)), .second] []))
                  refine own_go (XS.lloadN X0.here hx rfl (hb hby d2_33) rfl (Steps.refl _)) ?_
                  show own_Fin _ _ _ _ (s₁.setTop (mkF m 34 #[.val (.int p1), .val (.int (8 : Int32)), .val (.long (10000000 : Int64)), .second] [(.long (10000000 : Int64))]))
                  refine own_by (X0.ldc2Long hx hown (mvT hZ (hw _ (List.mem_of_getElem? (i := 9) rfl))) (g := (mkF m 34 #[.val (.int p1), .val (.int (8 : Int32)), .val (.long (10000000 : Int64)), .second] [(.long (10000000 : Int64))])) rfl (hb hby d2_34)) ?_
                  show own_Fin _ _ _ _ (s₁.setTop (mkF m 37 #[.val (.int p1), .val (.int (8 : Int32)), .val (.long (10000000 : Int64)), .second] [(.long (10 : Int64)), (.long (10000000 : Int64))]))
                  refine own_go (XS.lmul X0.here hx rfl (hb hby d2_37) rfl (Steps.refl _)) ?_
                  show own_Fin _ _ _ _ (s₁.setTop (mkF m 38 #[.val (.int p1), .val (.int (8 : Int32)), .val (.long (10000000 : Int64)), .second] [(.long (100000000 : Int64))]))
                  refine own_go (XS.lstoreN X0.here hx rfl (hb hby d2_38) rfl (l' := #[.val (.int p1), .val (.int (8 : Int32)), .val (.long (100000000 : Int64)), .second]) rfl (Steps.refl _)) ?_
                  show own_Fin _ _ _ _ (s₁.setTop (mkF m 39 #[.val (.int p1), .val (.int (8 : Int32)), .val (.long (100000000 : Int64)), .second] []))
                  refine own_go (XS.goto X0.here hx rfl (pc0 := 39) (pc' := 23) rfl (hb hby d2_39) (by decide) (by decide) (Steps.refl _)) ?_
                  show own_Fin _ _ _ _ (s₁.setTop (mkF m 23 #[.val (.int p1), .val (.int (8 : Int32)), .val (.long (100000000 : Int64)), .second] []))
                  refine own_go (XS.lloadN X0.here hx rfl (hb hby d2_23) rfl (Steps.refl _)) ?_
                  show own_Fin _ _ _ _ (s₁.setTop (mkF m 24 #[.val (.int p1), .val (.int (8 : Int32)), .val (.long (100000000 : Int64)), .second] [(.long (100000000 : Int64))]))
                  refine own_go (XS.iloadN X0.here hx rfl (hb hby d2_24) rfl (Steps.refl _)) ?_
                  show own_Fin _ _ _ _ (s₁.setTop (mkF m 25 #[.val (.int p1), .val (.int (8 : Int32)), .val (.long (100000000 : Int64)), .second] [(.int p1), (.long (100000000 : Int64))]))
                  refine own_go (XS.i2l X0.here hx rfl (hb hby d2_25) rfl (Steps.refl _)) ?_
                  show own_Fin _ _ _ _ (s₁.setTop (mkF m 26 #[.val (.int p1), .val (.int (8 : Int32)), .val (.long (100000000 : Int64)), .second] [(.long (p1.toInt64)), (.long (100000000 : Int64))]))
                  refine own_go (XS.lcmp X0.here hx rfl (hb hby d2_26) rfl (Steps.refl _)) ?_
                  show own_Fin _ _ _ _ (s₁.setTop (mkF m 27 #[.val (.int p1), .val (.int (8 : Int32)), .val (.long (100000000 : Int64)), .second] [(.int (lcmpW (100000000 : Int64) (p1.toInt64)))]))
                  by_cases c100000000 : (100000000 : Int32) < p1
                  · refine own_go (XS.ifNo X0.here hx rfl (hb hby d2_27) rfl ((if0 _ _).trans (tlt (show (lcmpW (100000000 : Int64) (p1.toInt64)) < (0 : Int32) from (own_cmp (100000000 : Int64) (100000000 : Int32) p1 (by decide)).2 c100000000)).2.1) (Steps.refl _)) ?_
                    show own_Fin _ _ _ _ (s₁.setTop (mkF m 30 #[.val (.int p1), .val (.int (8 : Int32)), .val (.long (100000000 : Int64)), .second] []))
                    refine own_go (XS.iinc X0.here hx rfl (hb hby d2_30) rfl (l' := #[.val (.int p1), .val (.int (9 : Int32)), .val (.long (100000000 : Int64)), .second]) rfl (Steps.refl _)) ?_
                    show own_Fin _ _ _ _ (s₁.setTop (mkF m 33 #[.val (.int p1), .val (.int (9 : Int32)), .val (.long (100000000 : Int64)), .second] []))
                    refine own_go (XS.lloadN X0.here hx rfl (hb hby d2_33) rfl (Steps.refl _)) ?_
                    show own_Fin _ _ _ _ (s₁.setTop (mkF m 34 #[.val (.int p1), .val (.int (9 : Int32)), .val (.long (100000000 : Int64)), .second] [(.long (100000000 : Int64))]))
                    refine own_by (X0.ldc2Long hx hown (mvT hZ (hw _ (List.mem_of_getElem? (i := 9) rfl))) (g := (mkF m 34 #[.val (.int p1), .val (.int (9 : Int32)), .val (.long (100000000 : Int64)), .second] [(.long (100000000 : Int64))])) rfl (hb hby d2_34)) ?_
                    show own_Fin _ _ _ _ (s₁.setTop (mkF m 37 #[.val (.int p1), .val (.int (9 : Int32)), .val (.long (100000000 : Int64)), .second] [(.long (10 : Int64)), (.long (100000000 : Int64))]))
                    refine own_go (XS.lmul X0.here hx rfl (hb hby d2_37) rfl (Steps.refl _)) ?_
                    show own_Fin _ _ _ _ (s₁.setTop (mkF m 38 #[.val (.int p1), .val (.int (9 : Int32)), .val (.long (100000000 : Int64)), .second] [(.long (1000000000 : Int64))]))
                    refine own_go (XS.lstoreN X0.here hx rfl (hb hby d2_38) rfl (l' := #[.val (.int p1), .val (.int (9 : Int32)), .val (.long (1000000000 : Int64)), .second]) rfl (Steps.refl _)) ?_
                    show own_Fin _ _ _ _ (s₁.setTop (mkF m 39 #[.val (.int p1), .val (.int (9 : Int32)), .val (.long (1000000000 : Int64)), .second] []))
                    refine own_go (XS.goto X0.here hx rfl (pc0 := 39) (pc' := 23) rfl (hb hby d2_39) (by decide) (by decide) (Steps.refl _)) ?_
                    show own_Fin _ _ _ _ (s₁.setTop (mkF m 23 #[.val (.int p1), .val (.int (9 : Int32)), .val (.long (1000000000 : Int64)), .second] []))
                    refine own_go (XS.lloadN X0.here hx rfl (hb hby d2_23) rfl (Steps.refl _)) ?_
                    show own_Fin _ _ _ _ (s₁.setTop (mkF m 24 #[.val (.int p1), .val (.int (9 : Int32)), .val (.long (1000000000 : Int64)), .second] [(.long (1000000000 : Int64))]))
                    refine own_go (XS.iloadN X0.here hx rfl (hb hby d2_24) rfl (Steps.refl _)) ?_
                    show own_Fin _ _ _ _ (s₁.setTop (mkF m 25 #[.val (.int p1), .val (.int (9 : Int32)), .val (.long (1000000000 : Int64)), .second] [(.int p1), (.long (1000000000 : Int64))]))
                    refine own_go (XS.i2l X0.here hx rfl (hb hby d2_25) rfl (Steps.refl _)) ?_
                    show own_Fin _ _ _ _ (s₁.setTop (mkF m 26 #[.val (.int p1), .val (.int (9 : Int32)), .val (.long (1000000000 : Int64)), .second] [(.long (p1.toInt64)), (.long (1000000000 : Int64))]))
                    refine own_go (XS.lcmp X0.here hx rfl (hb hby d2_26) rfl (Steps.refl _)) ?_
                    show own_Fin _ _ _ _ (s₁.setTop (mkF m 27 #[.val (.int p1), .val (.int (9 : Int32)), .val (.long (1000000000 : Int64)), .second] [(.int (lcmpW (1000000000 : Int64) (p1.toInt64)))]))
                    by_cases c1000000000 : (1000000000 : Int32) < p1
                    · refine own_go (XS.ifNo X0.here hx rfl (hb hby d2_27) rfl ((if0 _ _).trans (tlt (show (lcmpW (1000000000 : Int64) (p1.toInt64)) < (0 : Int32) from (own_cmp (1000000000 : Int64) (1000000000 : Int32) p1 (by decide)).2 c1000000000)).2.1) (Steps.refl _)) ?_
                      show own_Fin _ _ _ _ (s₁.setTop (mkF m 30 #[.val (.int p1), .val (.int (9 : Int32)), .val (.long (1000000000 : Int64)), .second] []))
                      refine own_go (XS.iinc X0.here hx rfl (hb hby d2_30) rfl (l' := #[.val (.int p1), .val (.int (10 : Int32)), .val (.long (1000000000 : Int64)), .second]) rfl (Steps.refl _)) ?_
                      show own_Fin _ _ _ _ (s₁.setTop (mkF m 33 #[.val (.int p1), .val (.int (10 : Int32)), .val (.long (1000000000 : Int64)), .second] []))
                      refine own_go (XS.lloadN X0.here hx rfl (hb hby d2_33) rfl (Steps.refl _)) ?_
                      show own_Fin _ _ _ _ (s₁.setTop (mkF m 34 #[.val (.int p1), .val (.int (10 : Int32)), .val (.long (1000000000 : Int64)), .second] [(.long (1000000000 : Int64))]))
                      refine own_by (X0.ldc2Long hx hown (mvT hZ (hw _ (List.mem_of_getElem? (i := 9) rfl))) (g := (mkF m 34 #[.val (.int p1), .val (.int (10 : Int32)), .val (.long (1000000000 : Int64)), .second] [(.long (1000000000 : Int64))])) rfl (hb hby d2_34)) ?_
                      show own_Fin _ _ _ _ (s₁.setTop (mkF m 37 #[.val (.int p1), .val (.int (10 : Int32)), .val (.long (1000000000 : Int64)), .second] [(.long (10 : Int64)), (.long (1000000000 : Int64))]))
                      refine own_go (XS.lmul X0.here hx rfl (hb hby d2_37) rfl (Steps.refl _)) ?_
                      show own_Fin _ _ _ _ (s₁.setTop (mkF m 38 #[.val (.int p1), .val (.int (10 : Int32)), .val (.long (1000000000 : Int64)), .second] [(.long (10000000000 : Int64))]))
                      refine own_go (XS.lstoreN X0.here hx rfl (hb hby d2_38) rfl (l' := #[.val (.int p1), .val (.int (10 : Int32)), .val (.long (10000000000 : Int64)), .second]) rfl (Steps.refl _)) ?_
                      show own_Fin _ _ _ _ (s₁.setTop (mkF m 39 #[.val (.int p1), .val (.int (10 : Int32)), .val (.long (10000000000 : Int64)), .second] []))
                      refine own_go (XS.goto X0.here hx rfl (pc0 := 39) (pc' := 23) rfl (hb hby d2_39) (by decide) (by decide) (Steps.refl _)) ?_
                      show own_Fin _ _ _ _ (s₁.setTop (mkF m 23 #[.val (.int p1), .val (.int (10 : Int32)), .val (.long (10000000000 : Int64)), .second] []))
                      refine own_go (XS.lloadN X0.here hx rfl (hb hby d2_23) rfl (Steps.refl _)) ?_
                      show own_Fin _ _ _ _ (s₁.setTop (mkF m 24 #[.val (.int p1), .val (.int (10 : Int32)), .val (.long (10000000000 : Int64)), .second] [(.long (10000000000 : Int64))]))
                      refine own_go (XS.iloadN X0.here hx rfl (hb hby d2_24) rfl (Steps.refl _)) ?_
                      show own_Fin _ _ _ _ (s₁.setTop (mkF m 25 #[.val (.int p1), .val (.int (10 : Int32)), .val (.long (10000000000 : Int64)), .second] [(.int p1), (.long (10000000000 : Int64))]))
                      refine own_go (XS.i2l X0.here hx rfl (hb hby d2_25) rfl (Steps.refl _)) ?_
                      show own_Fin _ _ _ _ (s₁.setTop (mkF m 26 #[.val (.int p1), .val (.int (10 : Int32)), .val (.long (10000000000 : Int64)), .second] [(.long (p1.toInt64)), (.long (10000000000 : Int64))]))
                      refine own_go (XS.lcmp X0.here hx rfl (hb hby d2_26) rfl (Steps.refl _)) ?_
                      show own_Fin _ _ _ _ (s₁.setTop (mkF m 27 #[.val (.int p1), .val (.int (10 : Int32)), .val (.long (10000000000 : Int64)), .second] [(.int (lcmpW (10000000000 : Int64) (p1.toInt64)))]))
                      refine own_go (XS.ifYes X0.here hx rfl (pc0 := 27) (pc' := 42) rfl (hb hby d2_27) rfl ((if0 _ _).trans (flt (show ¬ ((lcmpW (10000000000 : Int64) (p1.toInt64)) < (0 : Int32)) from own_big _ _ (by decide))).2.1) (by decide) (by decide) (Steps.refl _)) ?_
                      show own_Fin _ _ _ _ (s₁.setTop (mkF m 42 #[.val (.int p1), .val (.int (10 : Int32)), .val (.long (10000000000 : Int64)), .second] []))
                      refine own_go (XS.iloadN X0.here hx rfl (hb hby d2_42) rfl (Steps.refl _)) ?_
                      show own_Fin _ _ _ _ (s₁.setTop (mkF m 43 #[.val (.int p1), .val (.int (10 : Int32)), .val (.long (10000000000 : Int64)), .second] [(.int (10 : Int32))]))
                      refine own_go (XS.iconst X0.here hx rfl (hb hby d2_43) (Steps.refl _)) ?_
                      show own_Fin _ _ _ _ (s₁.setTop (mkF m 44 #[.val (.int p1), .val (.int (10 : Int32)), .val (.long (10000000000 : Int64)), .second] [(.int (2 : Int32)), (.int (10 : Int32))]))
                      refine own_go (XS.iadd X0.here hx rfl (hb hby d2_44) rfl (Steps.refl _)) ?_
                      show own_Fin _ _ _ _ (s₁.setTop (mkF m 45 #[.val (.int p1), .val (.int (10 : Int32)), .val (.long (10000000000 : Int64)), .second] [(.int (12 : Int32))]))
                      obtain ⟨fs41, hr41, hrun41, hended41, hW41, hsame41⟩ := X0.leave (v := some (.int (12 : Int32))) (fun h => by rw [Bd.returns] at h; cases h)
                      refine own_done (own_retI X0 hx Bd.returns (hb hby d2_45) hr41) hrun41 hended41 ⟨_, _, rfl, ?_, ⟨_, rfl⟩, hW41, hsame41.mono (by decide) (by decide)⟩
                      show Q2 Z p1 h0 n0 _ s₁.heap _
                      rw [e0]
                      exact ⟨by unfold own_exp; rw [if_pos c1, if_pos c10, if_pos c100, if_pos c1000, if_pos c10000, if_pos c100000, if_pos c1000000, if_pos c10000000, if_pos c100000000, if_pos c1000000000], N0, rfl⟩
                    · refine own_go (XS.ifYes X0.here hx rfl (pc0 := 27) (pc' := 42) rfl (hb hby d2_27) rfl ((if0 _ _).trans (flt (show ¬ ((lcmpW (1000000000 : Int64) (p1.toInt64)) < (0 : Int32)) from fun q => c1000000000 ((own_cmp (1000000000 : Int64) (1000000000 : Int32) p1 (by decide)).1 q))).2.1) (by decide) (by decide) (Steps.refl _)) ?_
                      show own_Fin _ _ _ _ (s₁.setTop (mkF m 42 #[.val (.int p1), .val (.int (9 : Int32)), .val (.long (1000000000 : Int64)), .second] []))
                      refine own_go (XS.iloadN X0.here hx rfl (hb hby d2_42) rfl (Steps.refl _)) ?_
                      show own_Fin _ _ _ _ (s₁.setTop (mkF m 43 #[.val (.int p1), .val (.int (9 : Int32)), .val (.long (1000000000 : Int64)), .second] [(.int (9 : Int32))]))
                      refine own_go (XS.iconst X0.here hx rfl (hb hby d2_43) (Steps.refl _)) ?_
                      show own_Fin _ _ _ _ (s₁.setTop (mkF m 44 #[.val (.int p1), .val (.int (9 : Int32)), .val (.long (1000000000 : Int64)), .second] [(.int (2 : Int32)), (.int (9 : Int32))]))
                      refine own_go (XS.iadd X0.here hx rfl (hb hby d2_44) rfl (Steps.refl _)) ?_
                      show own_Fin _ _ _ _ (s₁.setTop (mkF m 45 #[.val (.int p1), .val (.int (9 : Int32)), .val (.long (1000000000 : Int64)), .second] [(.int (11 : Int32))]))
                      obtain ⟨fs42, hr42, hrun42, hended42, hW42, hsame42⟩ := X0.leave (v := some (.int (11 : Int32))) (fun h => by rw [Bd.returns] at h; cases h)
                      refine own_done (own_retI X0 hx Bd.returns (hb hby d2_45) hr42) hrun42 hended42 ⟨_, _, rfl, ?_, ⟨_, rfl⟩, hW42, hsame42.mono (by decide) (by decide)⟩
                      show Q2 Z p1 h0 n0 _ s₁.heap _
                      rw [e0]
                      exact ⟨by unfold own_exp; rw [if_pos c1, if_pos c10, if_pos c100, if_pos c1000, if_pos c10000, if_pos c100000, if_pos c1000000, if_pos c10000000, if_pos c100000000, if_neg c1000000000], N0, rfl⟩
                  · refine own_go (XS.ifYes X0.here hx rfl (pc0 := 27) (pc' := 42) rfl (hb hby d2_27) rfl ((if0 _ _).trans (flt (show ¬ ((lcmpW (100000000 : Int64) (p1.toInt64)) < (0 : Int32)) from fun q => c100000000 ((own_cmp (100000000 : Int64) (100000000 : Int32) p1 (by decide)).1 q))).2.1) (by decide) (by decide) (Steps.refl _)) ?_
                    show own_Fin _ _ _ _ (s₁.setTop (mkF m 42 #[.val (.int p1), .val (.int (8 : Int32)), .val (.long (100000000 : Int64)), .second] []))
                    refine own_go (XS.iloadN X0.here hx rfl (hb hby d2_42) rfl (Steps.refl _)) ?_
                    show own_Fin _ _ _ _ (s₁.setTop (mkF m 43 #[.val (.int p1), .val (.int (8 : Int32)), .val (.long (100000000 : Int64)), .second] [(.int (8 : Int32))]))
                    refine own_go (XS.iconst X0.here hx rfl (hb hby d2_43) (Steps.refl _)) ?_
                    show own_Fin _ _ _ _ (s₁.setTop (mkF m 44 #[.val (.int p1), .val (.int (8 : Int32)), .val (.long (100000000 : Int64)), .second] [(.int (2 : Int32)), (.int (8 : Int32))]))
                    refine own_go (XS.iadd X0.here hx rfl (hb hby d2_44) rfl (Steps.refl _)) ?_
                    show own_Fin _ _ _ _ (s₁.setTop (mkF m 45 #[.val (.int p1), .val (.int (8 : Int32)), .val (.long (100000000 : Int64)), .second] [(.int (10 : Int32))]))
                    obtain ⟨fs43, hr43, hrun43, hended43, hW43, hsame43⟩ := X0.leave (v := some (.int (10 : Int32))) (fun h => by rw [Bd.returns] at h; cases h)
                    refine own_done (own_retI X0 hx Bd.returns (hb hby d2_45) hr43) hrun43 hended43 ⟨_, _, rfl, ?_, ⟨_, rfl⟩, hW43, hsame43.mono (by decide) (by decide)⟩
                    show Q2 Z p1 h0 n0 _ s₁.heap _
                    rw [e0]
                    exact ⟨by unfold own_exp; rw [if_pos c1, if_pos c10, if_pos c100, if_pos c1000, if_pos c10000, if_pos c100000, if_pos c1000000, if_pos c10000000, if_neg c100000000], N0, rfl⟩
                · refine own_go (XS.ifYes X0.here hx rfl (pc0 := 27) (pc' := 42) rfl (hb hby d2_27) rfl ((if0 _ _).trans (flt (show ¬ ((lcmpW (10000000 : Int64) (p1.toInt64)) < (0 : Int32)) from fun q => c10000000 ((own_cmp (10000000 : Int64) (10000000 : Int32) p1 (by decide)).1 q))).2.1) (by decide) (by decide) (Steps.refl _)) ?_
                  show own_Fin _ _ _ _ (s₁.setTop (mkF m 42 #[.val (.int p1), .val (.int (7 : Int32)), .val (.long (10000000 : Int64)), .second] []))
                  refine own_go (XS.iloadN X0.here hx rfl (hb hby d2_42) rfl (Steps.refl _)) ?_
                  show own_Fin _ _ _ _ (s₁.setTop (mkF m 43 #[.val (.int p1), .val (.int (7 : Int32)), .val (.long (10000000 : Int64)), .second] [(.int (7 : Int32))]))
                  refine own_go (XS.iconst X0.here hx rfl (hb hby d2_43) (Steps.refl _)) ?_
                  show own_Fin _ _ _ _ (s₁.setTop (mkF m 44 #[.val (.int p1), .val (.int (7 : Int32)), .val (.long (10000000 : Int64)), .second] [(.int (2 : Int32)), (.int (7 : Int32))]))
                  refine own_go (XS.iadd X0.here hx rfl (hb hby d2_44) rfl (Steps.refl _)) ?_
                  show own_Fin _ _ _ _ (s₁.setTop (mkF m 45 #[.val (.int p1), .val (.int (7 : Int32)), .val (.long (10000000 : Int64)), .second] [(.int (9 : Int32))]))
                  obtain ⟨fs44, hr44, hrun44, hended44, hW44, hsame44⟩ := X0.leave (v := some (.int (9 : Int32))) (fun h => by rw [Bd.returns] at h; cases h)
                  refine own_done (own_retI X0 hx Bd.returns (hb hby d2_45) hr44) hrun44 hended44 ⟨_, _, rfl, ?_, ⟨_, rfl⟩, hW44, hsame44.mono (by decide) (by decide)⟩
                  show Q2 Z p1 h0 n0 _ s₁.heap _
                  rw [e0]
                  exact ⟨by unfold own_exp; rw [if_pos c1, if_pos c10, if_pos c100, if_pos c1000, if_pos c10000, if_pos c100000, if_pos c1000000, if_neg c10000000], N0, rfl⟩
              · refine own_go (XS.ifYes X0.here hx rfl (pc0 := 27) (pc' := 42) rfl (hb hby d2_27) rfl ((if0 _ _).trans (flt (show ¬ ((lcmpW (1000000 : Int64) (p1.toInt64)) < (0 : Int32)) from fun q => c1000000 ((own_cmp (1000000 : Int64) (1000000 : Int32) p1 (by decide)).1 q))).2.1) (by decide) (by decide) (Steps.refl _)) ?_
                show own_Fin _ _ _ _ (s₁.setTop (mkF m 42 #[.val (.int p1), .val (.int (6 : Int32)), .val (.long (1000000 : Int64)), .second] []))
                refine own_go (XS.iloadN X0.here hx rfl (hb hby d2_42) rfl (Steps.refl _)) ?_
                show own_Fin _ _ _ _ (s₁.setTop (mkF m 43 #[.val (.int p1), .val (.int (6 : Int32)), .val (.long (1000000 : Int64)), .second] [(.int (6 : Int32))]))
                refine own_go (XS.iconst X0.here hx rfl (hb hby d2_43) (Steps.refl _)) ?_
                show own_Fin _ _ _ _ (s₁.setTop (mkF m 44 #[.val (.int p1), .val (.int (6 : Int32)), .val (.long (1000000 : Int64)), .second] [(.int (2 : Int32)), (.int (6 : Int32))]))
                refine own_go (XS.iadd X0.here hx rfl (hb hby d2_44) rfl (Steps.refl _)) ?_
                show own_Fin _ _ _ _ (s₁.setTop (mkF m 45 #[.val (.int p1), .val (.int (6 : Int32)), .val (.long (1000000 : Int64)), .second] [(.int (8 : Int32))]))
                obtain ⟨fs45, hr45, hrun45, hended45, hW45, hsame45⟩ := X0.leave (v := some (.int (8 : Int32))) (fun h => by rw [Bd.returns] at h; cases h)
                refine own_done (own_retI X0 hx Bd.returns (hb hby d2_45) hr45) hrun45 hended45 ⟨_, _, rfl, ?_, ⟨_, rfl⟩, hW45, hsame45.mono (by decide) (by decide)⟩
                show Q2 Z p1 h0 n0 _ s₁.heap _
                rw [e0]
                exact ⟨by unfold own_exp; rw [if_pos c1, if_pos c10, if_pos c100, if_pos c1000, if_pos c10000, if_pos c100000, if_neg c1000000], N0, rfl⟩
            · refine own_go (XS.ifYes X0.here hx rfl (pc0 := 27) (pc' := 42) rfl (hb hby d2_27) rfl ((if0 _ _).trans (flt (show ¬ ((lcmpW (100000 : Int64) (p1.toInt64)) < (0 : Int32)) from fun q => c100000 ((own_cmp (100000 : Int64) (100000 : Int32) p1 (by decide)).1 q))).2.1) (by decide) (by decide) (Steps.refl _)) ?_
              show own_Fin _ _ _ _ (s₁.setTop (mkF m 42 #[.val (.int p1), .val (.int (5 : Int32)), .val (.long (100000 : Int64)), .second] []))
              refine own_go (XS.iloadN X0.here hx rfl (hb hby d2_42) rfl (Steps.refl _)) ?_
              show own_Fin _ _ _ _ (s₁.setTop (mkF m 43 #[.val (.int p1), .val (.int (5 : Int32)), .val (.long (100000 : Int64)), .second] [(.int (5 : Int32))]))
              refine own_go (XS.iconst X0.here hx rfl (hb hby d2_43) (Steps.refl _)) ?_
              show own_Fin _ _ _ _ (s₁.setTop (mkF m 44 #[.val (.int p1), .val (.int (5 : Int32)), .val (.long (100000 : Int64)), .second] [(.int (2 : Int32)), (.int (5 : Int32))]))
              refine own_go (XS.iadd X0.here hx rfl (hb hby d2_44) rfl (Steps.refl _)) ?_
              show own_Fin _ _ _ _ (s₁.setTop (mkF m 45 #[.val (.int p1), .val (.int (5 : Int32)), .val (.long (100000 : Int64)), .second] [(.int (7 : Int32))]))
              obtain ⟨fs46, hr46, hrun46, hended46, hW46, hsame46⟩ := X0.leave (v := some (.int (7 : Int32))) (fun h => by rw [Bd.returns] at h; cases h)
              refine own_done (own_retI X0 hx Bd.returns (hb hby d2_45) hr46) hrun46 hended46 ⟨_, _, rfl, ?_, ⟨_, rfl⟩, hW46, hsame46.mono (by decide) (by decide)⟩
              show Q2 Z p1 h0 n0 _ s₁.heap _
              rw [e0]
              exact ⟨by unfold own_exp; rw [if_pos c1, if_pos c10, if_pos c100, if_pos c1000, if_pos c10000, if_neg c100000], N0, rfl⟩
          · refine own_go (XS.ifYes X0.here hx rfl (pc0 := 27) (pc' := 42) rfl (hb hby d2_27) rfl ((if0 _ _).trans (flt (show ¬ ((lcmpW (10000 : Int64) (p1.toInt64)) < (0 : Int32)) from fun q => c10000 ((own_cmp (10000 : Int64) (10000 : Int32) p1 (by decide)).1 q))).2.1) (by decide) (by decide) (Steps.refl _)) ?_
            show own_Fin _ _ _ _ (s₁.setTop (mkF m 42 #[.val (.int p1), .val (.int (4 : Int32)), .val (.long (10000 : Int64)), .second] []))
            refine own_go (XS.iloadN X0.here hx rfl (hb hby d2_42) rfl (Steps.refl _)) ?_
            show own_Fin _ _ _ _ (s₁.setTop (mkF m 43 #[.val (.int p1), .val (.int (4 : Int32)), .val (.long (10000 : Int64)), .second] [(.int (4 : Int32))]))
            refine own_go (XS.iconst X0.here hx rfl (hb hby d2_43) (Steps.refl _)) ?_
            show own_Fin _ _ _ _ (s₁.setTop (mkF m 44 #[.val (.int p1), .val (.int (4 : Int32)), .val (.long (10000 : Int64)), .second] [(.int (2 : Int32)), (.int (4 : Int32))]))
            refine own_go (XS.iadd X0.here hx rfl (hb hby d2_44) rfl (Steps.refl _)) ?_
            show own_Fin _ _ _ _ (s₁.setTop (mkF m 45 #[.val (.int p1), .val (.int (4 : Int32)), .val (.long (10000 : Int64)), .second] [(.int (6 : Int32))]))
            obtain ⟨fs47, hr47, hrun47, hended47, hW47, hsame47⟩ := X0.leave (v := some (.int (6 : Int32))) (fun h => by rw [Bd.returns] at h; cases h)
            refine own_done (own_retI X0 hx Bd.returns (hb hby d2_45) hr47) hrun47 hended47 ⟨_, _, rfl, ?_, ⟨_, rfl⟩, hW47, hsame47.mono (by decide) (by decide)⟩
            show Q2 Z p1 h0 n0 _ s₁.heap _
            rw [e0]
            exact ⟨by unfold own_exp; rw [if_pos c1, if_pos c10, if_pos c100, if_pos c1000, if_neg c10000], N0, rfl⟩
        · refine own_go (XS.ifYes X0.here hx rfl (pc0 := 27) (pc' := 42) rfl (hb hby d2_27) rfl ((if0 _ _).trans (flt (show ¬ ((lcmpW (1000 : Int64) (p1.toInt64)) < (0 : Int32)) from fun q => c1000 ((own_cmp (1000 : Int64) (1000 : Int32) p1 (by decide)).1 q))).2.1) (by decide) (by decide) (Steps.refl _)) ?_
          show own_Fin _ _ _ _ (s₁.setTop (mkF m 42 #[.val (.int p1), .val (.int (3 : Int32)), .val (.long (1000 : Int64)), .second] []))
          refine own_go (XS.iloadN X0.here hx rfl (hb hby d2_42) rfl (Steps.refl _)) ?_
          show own_Fin _ _ _ _ (s₁.setTop (mkF m 43 #[.val (.int p1), .val (.int (3 : Int32)), .val (.long (1000 : Int64)), .second] [(.int (3 : Int32))]))
          refine own_go (XS.iconst X0.here hx rfl (hb hby d2_43) (Steps.refl _)) ?_
          show own_Fin _ _ _ _ (s₁.setTop (mkF m 44 #[.val (.int p1), .val (.int (3 : Int32)), .val (.long (1000 : Int64)), .second] [(.int (2 : Int32)), (.int (3 : Int32))]))
          refine own_go (XS.iadd X0.here hx rfl (hb hby d2_44) rfl (Steps.refl _)) ?_
          show own_Fin _ _ _ _ (s₁.setTop (mkF m 45 #[.val (.int p1), .val (.int (3 : Int32)), .val (.long (1000 : Int64)), .second] [(.int (5 : Int32))]))
          obtain ⟨fs48, hr48, hrun48, hended48, hW48, hsame48⟩ := X0.leave (v := some (.int (5 : Int32))) (fun h => by rw [Bd.returns] at h; cases h)
          refine own_done (own_retI X0 hx Bd.returns (hb hby d2_45) hr48) hrun48 hended48 ⟨_, _, rfl, ?_, ⟨_, rfl⟩, hW48, hsame48.mono (by decide) (by decide)⟩
          show Q2 Z p1 h0 n0 _ s₁.heap _
          rw [e0]
          exact ⟨by unfold own_exp; rw [if_pos c1, if_pos c10, if_pos c100, if_neg c1000], N0, rfl⟩
      · refine own_go (XS.ifYes X0.here hx rfl (pc0 := 27) (pc' := 42) rfl (hb hby d2_27) rfl ((if0 _ _).trans (flt (show ¬ ((lcmpW (100 : Int64) (p1.toInt64)) < (0 : Int32)) from fun q => c100 ((own_cmp (100 : Int64) (100 : Int32) p1 (by decide)).1 q))).2.1) (by decide) (by decide) (Steps.refl _)) ?_
        show own_Fin _ _ _ _ (s₁.setTop (mkF m 42 #[.val (.int p1), .val (.int (2 : Int32)), .val (.long (100 : Int64)), .second] []))
        refine own_go (XS.iloadN X0.here hx rfl (hb hby d2_42) rfl (Steps.refl _)) ?_
        show own_Fin _ _ _ _ (s₁.setTop (mkF m 43 #[.val (.int p1), .val (.int (2 : Int32)), .val (.long (100 : Int64)), .second] [(.int (2 : Int32))]))
        refine own_go (XS.iconst X0.here hx rfl (hb hby d2_43) (Steps.refl _)) ?_
        show own_Fin _ _ _ _ (s₁.setTop (mkF m 44 #[.val (.int p1), .val (.int (2 : Int32)), .val (.long (100 : Int64)), .second] [(.int (2 : Int32)), (.int (2 : Int32))]))
        refine own_go (XS.iadd X0.here hx rfl (hb hby d2_44) rfl (Steps.refl _)) ?_
        show own_Fin _ _ _ _ (s₁.setTop (mkF m 45 #[.val (.int p1), .val (.int (2 : Int32)), .val (.long (100 : Int64)), .second] [(.int (4 : Int32))]))
        obtain ⟨fs49, hr49, hrun49, hended49, hW49, hsame49⟩ := X0.leave (v := some (.int (4 : Int32))) (fun h => by rw [Bd.returns] at h; cases h)
        refine own_done (own_retI X0 hx Bd.returns (hb hby d2_45) hr49) hrun49 hended49 ⟨_, _, rfl, ?_, ⟨_, rfl⟩, hW49, hsame49.mono (by decide) (by decide)⟩
        show Q2 Z p1 h0 n0 _ s₁.heap _
        rw [e0]
        exact ⟨by unfold own_exp; rw [if_pos c1, if_pos c10, if_neg c100], N0, rfl⟩
    · refine own_go (XS.ifYes X0.here hx rfl (pc0 := 27) (pc' := 42) rfl (hb hby d2_27) rfl ((if0 _ _).trans (flt (show ¬ ((lcmpW (10 : Int64) (p1.toInt64)) < (0 : Int32)) from fun q => c10 ((own_cmp (10 : Int64) (10 : Int32) p1 (by decide)).1 q))).2.1) (by decide) (by decide) (Steps.refl _)) ?_
      show own_Fin _ _ _ _ (s₁.setTop (mkF m 42 #[.val (.int p1), .val (.int (1 : Int32)), .val (.long (10 : Int64)), .second] []))
      refine own_go (XS.iloadN X0.here hx rfl (hb hby d2_42) rfl (Steps.refl _)) ?_
      show own_Fin _ _ _ _ (s₁.setTop (mkF m 43 #[.val (.int p1), .val (.int (1 : Int32)), .val (.long (10 : Int64)), .second] [(.int (1 : Int32))]))
      refine own_go (XS.iconst X0.here hx rfl (hb hby d2_43) (Steps.refl _)) ?_
      show own_Fin _ _ _ _ (s₁.setTop (mkF m 44 #[.val (.int p1), .val (.int (1 : Int32)), .val (.long (10 : Int64)), .second] [(.int (2 : Int32)), (.int (1 : Int32))]))
      refine own_go (XS.iadd X0.here hx rfl (hb hby d2_44) rfl (Steps.refl _)) ?_
      show own_Fin _ _ _ _ (s₁.setTop (mkF m 45 #[.val (.int p1), .val (.int (1 : Int32)), .val (.long (10 : Int64)), .second] [(.int (3 : Int32))]))
      obtain ⟨fs50, hr50, hrun50, hended50, hW50, hsame50⟩ := X0.leave (v := some (.int (3 : Int32))) (fun h => by rw [Bd.returns] at h; cases h)
      refine own_done (own_retI X0 hx Bd.returns (hb hby d2_45) hr50) hrun50 hended50 ⟨_, _, rfl, ?_, ⟨_, rfl⟩, hW50, hsame50.mono (by decide) (by decide)⟩
      show Q2 Z p1 h0 n0 _ s₁.heap _
      rw [e0]
      exact ⟨by unfold own_exp; rw [if_pos c1, if_neg c10], N0, rfl⟩
  · refine own_go (XS.ifYes X0.here hx rfl (pc0 := 27) (pc' := 42) rfl (hb hby d2_27) rfl ((if0 _ _).trans (flt (show ¬ ((lcmpW (1 : Int64) (p1.toInt64)) < (0 : Int32)) from fun q => c1 ((own_cmp (1 : Int64) (1 : Int32) p1 (by decide)).1 q))).2.1) (by decide) (by decide) (Steps.refl _)) ?_
    show own_Fin _ _ _ _ (s₁.setTop (mkF m 42 #[.val (.int p1), .val (.int (0 : Int32)), .val (.long (1 : Int64)), .second] []))
    refine own_go (XS.iloadN X0.here hx rfl (hb hby d2_42) rfl (Steps.refl _)) ?_
    show own_Fin _ _ _ _ (s₁.setTop (mkF m 43 #[.val (.int p1), .val (.int (0 : Int32)), .val (.long (1 : Int64)), .second] [(.int (0 : Int32))]))
    refine own_go (XS.iconst X0.here hx rfl (hb hby d2_43) (Steps.refl _)) ?_
    show own_Fin _ _ _ _ (s₁.setTop (mkF m 44 #[.val (.int p1), .val (.int (0 : Int32)), .val (.long (1 : Int64)), .second] [(.int (2 : Int32)), (.int (0 : Int32))]))
    refine own_go (XS.iadd X0.here hx rfl (hb hby d2_44) rfl (Steps.refl _)) ?_
    show own_Fin _ _ _ _ (s₁.setTop (mkF m 45 #[.val (.int p1), .val (.int (0 : Int32)), .val (.long (1 : Int64)), .second] [(.int (2 : Int32))]))
    obtain ⟨fs51, hr51, hrun51, hended51, hW51, hsame51⟩ := X0.leave (v := some (.int (2 : Int32))) (fun h => by rw [Bd.returns] at h; cases h)
    refine own_done (own_retI X0 hx Bd.returns (hb hby d2_45) hr51) hrun51 hended51 ⟨_, _, rfl, ?_, ⟨_, rfl⟩, hW51, hsame51.mono (by decide) (by decide)⟩
    show Q2 Z p1 h0 n0 _ s₁.heap _
    rw [e0]
    exact ⟨by unfold own_exp; rw [if_neg c1], N0, rfl⟩
theorem ef_0 (m : MethodId) (x0 : Int32) (x1 : Int32) (x2 : Int32) (x3 : Int32) : entryFrame m #[(.int x0), (.int x1), (.int x2), (.int x3)] maxLocals = mkF m 0 #[.val (.int x0), .val (.int x1), .val (.int x2), .val (.int x3), .unset, .unset, .unset] [] := by first | (simp [entryFrame, mkF, argsToLocals, Value.category, maxLocals]; done) | rfl
def Q0 (Z : State) (p1 : Int32) (p2 : Int32) (p3 : Int32) (p4 : Int32) (h0 : Heap) (n0 : Nat) (v : Option Value) (h : Heap) (L : List Loc) : Prop := v = some (.int 1) ∧ Fr n0 L
abbrev G0 (Z : State) (p1 : Int32) (p2 : Int32) (p3 : Int32) (p4 : Int32) (h0 : Heap) (n0 : Nat) (s : State) : Outcome → State → Prop := fun o U' => ∃ v L, o = .returned v ∧ Q0 Z p1 p2 p3 p4 h0 n0 v U'.heap L ∧ FrameEnd s o U' L 0 0
theorem pd__28_I_29_I : parseMethodDescriptor "(I)I" = some ⟨[.int], some .int⟩ := by decide +kernel
set_option maxRecDepth 65536 in
set_option maxHeartbeats 40000000 in
theorem rm0 (l : Launch) (Z : State) (a0 : Array Value) (hw : ∀ d ∈ tables_1, d.before a0 Z = true) (ws : List Jvm.Cond) (p1 : Int32) (p2 : Int32) (p3 : Int32) (p4 : Int32) (h0 : Heap) (n0 : Nat) (Z0 : n0 ≤ h0.size)  :
    MetFree l x (head1 (Jvm.Cond.code x code maxLocals ret :: ws) room_1) (fun a U => a = #[(.int p1), (.int p2), (.int p3), (.int p4)] ∧ Z.Warmed39 U.vm ∧ U.heap = h0) (fun _ _ _ _ _ => True) (fun _ U o U' => ∃ v L, o = .returned v ∧ Q0 Z p1 p2 p3 p4 h0 n0 v U'.heap L ∧ FrameEnd U o U' L 0 0) := by
  refine MetFree.of_bodySF (plainFor_of_name pn_com_example_pricefence_pricefence_ranges_PriceBoundsDecimalsPinLaw) hisR ?_
  intro p e s m args below meth c s₁ Bd hml0 hP hK
  obtain ⟨rfl, hZ, hh⟩ := hP
  have hx := Bd.exec
  have hby := Bd.bytes
  have hml : c.maxLocals = 7 := hml0
  have hown : s.vm.findClass "com/example/pricefence/pricefence/ranges/PriceBoundsDecimalsPinLaw" = some m.cls := findClass_of_methodNamed Bd.named
  have hnm := (name_of_methodNamed Bd.named Bd.method).1
  have X0 : Stand p l e room_1 s m #[(.int p1), (.int p2), (.int p3), (.int p4)] below meth c s₁ [] 0 0 := Stand.of_body Bd
  have e0 : s₁.heap = h0 := by rw [← hh, Bd.state]; rfl
  have es0 : s.heap = h0 := hh
  have N0 := Fr.nil n0
  show own_Fin p e below (G0 Z p1 p2 p3 p4 h0 n0 s) (s₁.setTop (entryFrame m #[(.int p1), (.int p2), (.int p3), (.int p4)] maxLocals))
  rw [ef_0 m p1 p2 p3 p4]
  refine own_go (XS.iloadN X0.here hx rfl (hb hby at_0) rfl (Steps.refl _)) ?_
  show own_Fin _ _ _ _ (s₁.setTop (mkF m 1 #[.val (.int p1), .val (.int p2), .val (.int p3), .val (.int p4), .unset, .unset, .unset] [(.int p4)]))
  refine own_go (XS.iconst X0.here hx rfl (hb hby at_1) (Steps.refl _)) ?_
  show own_Fin _ _ _ _ (s₁.setTop (mkF m 2 #[.val (.int p1), .val (.int p2), .val (.int p3), .val (.int p4), .unset, .unset, .unset] [(.int (1 : Int32)), (.int p4)]))
  refine own_go (XS.iand X0.here hx rfl (hb hby at_2) rfl (Steps.refl _)) ?_
  show own_Fin _ _ _ _ (s₁.setTop (mkF m 3 #[.val (.int p1), .val (.int p2), .val (.int p3), .val (.int p4), .unset, .unset, .unset] [(.int (p4 &&& (1 : Int32)))]))
  by_cases c3_52 : (p4 &&& (1 : Int32)) = (0 : Int32)
  · refine own_go (XS.ifYes X0.here hx rfl (pc0 := 3) (pc' := 47) rfl (hb hby at_3) rfl ((if0 _ _).trans (teq c3_52).1) (by decide) (by decide) (Steps.refl _)) ?_
    show own_Fin _ _ _ _ (s₁.setTop (mkF m 47 #[.val (.int p1), .val (.int p2), .val (.int p3), .val (.int p4), .unset, .unset, .unset] []))
    refine own_go (XS.iloadN X0.here hx rfl (hb hby at_47) rfl (Steps.refl _)) ?_
    show own_Fin _ _ _ _ (s₁.setTop (mkF m 48 #[.val (.int p1), .val (.int p2), .val (.int p3), .val (.int p4), .unset, .unset, .unset] [(.int p1)]))
    refine own_by (X0.ldcInt hx hown (mvT hZ (hw _ (List.mem_of_getElem? (i := 0) rfl))) (g := (mkF m 48 #[.val (.int p1), .val (.int p2), .val (.int p3), .val (.int p4), .unset, .unset, .unset] [(.int p1)])) rfl (hb hby at_48)) ?_
    show own_Fin _ _ _ _ (s₁.setTop (mkF m 50 #[.val (.int p1), .val (.int p2), .val (.int p3), .val (.int p4), .unset, .unset, .unset] [(.int (2147483647 : Int32)), (.int p1)]))
    refine own_go (XS.iand X0.here hx rfl (hb hby at_50) rfl (Steps.refl _)) ?_
    show own_Fin _ _ _ _ (s₁.setTop (mkF m 51 #[.val (.int p1), .val (.int p2), .val (.int p3), .val (.int p4), .unset, .unset, .unset] [(.int (p1 &&& (2147483647 : Int32)))]))
    refine own_go (XS.istore X0.here hx rfl (hb hby at_51) rfl (l' := #[.val (.int p1), .val (.int p2), .val (.int p3), .val (.int p4), .val (.int (p1 &&& (2147483647 : Int32))), .unset, .unset]) rfl (Steps.refl _)) ?_
    show own_Fin _ _ _ _ (s₁.setTop (mkF m 53 #[.val (.int p1), .val (.int p2), .val (.int p3), .val (.int p4), .val (.int (p1 &&& (2147483647 : Int32))), .unset, .unset] []))
    generalize hz_v4_53 : (p1 &&& (2147483647 : Int32)) = v4_53
    refine own_go (XS.iload X0.here hx rfl (hb hby at_53) rfl (Steps.refl _)) ?_
    show own_Fin _ _ _ _ (s₁.setTop (mkF m 55 #[.val (.int p1), .val (.int p2), .val (.int p3), .val (.int p4), .val (.int v4_53), .unset, .unset] [(.int v4_53)]))
    refine own_go (XS.iconst X0.here hx rfl (hb hby at_55) (Steps.refl _)) ?_
    show own_Fin _ _ _ _ (s₁.setTop (mkF m 56 #[.val (.int p1), .val (.int p2), .val (.int p3), .val (.int p4), .val (.int v4_53), .unset, .unset] [(.int (1 : Int32)), (.int v4_53)]))
    by_cases c56_54 : v4_53 < (1 : Int32)
    · refine own_go (XS.icmpNo X0.here hx rfl (hb hby at_56) rfl (tlt c56_54).2.1 (Steps.refl _)) ?_
      show own_Fin _ _ _ _ (s₁.setTop (mkF m 59 #[.val (.int p1), .val (.int p2), .val (.int p3), .val (.int p4), .val (.int v4_53), .unset, .unset] []))
      refine own_go (XS.iconst X0.here hx rfl (hb hby at_59) (Steps.refl _)) ?_
      show own_Fin _ _ _ _ (s₁.setTop (mkF m 60 #[.val (.int p1), .val (.int p2), .val (.int p3), .val (.int p4), .val (.int v4_53), .unset, .unset] [(.int (1 : Int32))]))
      refine own_go (XS.istore X0.here hx rfl (hb hby at_60) rfl (l' := #[.val (.int p1), .val (.int p2), .val (.int p3), .val (.int p4), .val (.int (1 : Int32)), .unset, .unset]) rfl (Steps.refl _)) ?_
      show own_Fin _ _ _ _ (s₁.setTop (mkF m 62 #[.val (.int p1), .val (.int p2), .val (.int p3), .val (.int p4), .val (.int (1 : Int32)), .unset, .unset] []))
      refine own_go (XS.iload X0.here hx rfl (hb hby at_62) rfl (Steps.refl _)) ?_
      show own_Fin _ _ _ _ (s₁.setTop (mkF m 64 #[.val (.int p1), .val (.int p2), .val (.int p3), .val (.int p4), .val (.int (1 : Int32)), .unset, .unset] [(.int (1 : Int32))]))
      obtain ⟨_, _, ⟨T55, L55, k55, n55⟩, -, X55, ⟨Lc55, hQ55, l55, y55, z55⟩, st55⟩ := Jvm.LawKit.callS X0 hx (y := (⟨"com/example/pricefence/pricefence/ranges/PriceBounds", "decimals", "(I)I"⟩ : MethodName)) hown (mvT hZ (hw _ (List.mem_of_getElem? (i := 5) rfl))) (mvT hZ (hw _ (List.mem_of_getElem? (i := 6) rfl))) (mvT hZ (hw _ (List.mem_of_getElem? (i := 7) rfl))) (mvT hZ (hw _ (List.mem_of_getElem? (i := 8) rfl))) (by decide) (backOf (W := 0) (rm2 l Z a0 hw [] (1 : Int32) h0 n0 Z0 (by decide)) hZ (hw _ (List.mem_of_getElem? (i := 8) rfl)) (hw _ (List.mem_of_getElem? (i := 7) rfl)) (by decide) (by decide)) (g := (mkF m 64 #[.val (.int p1), .val (.int p2), .val (.int p3), .val (.int p4), .val (.int (1 : Int32)), .unset, .unset] [(.int (1 : Int32))])) rfl (by rw [hml]; rfl) (argsL := [(.int (1 : Int32))]) (rest := []) (lenOf pd__28_I_29_I rfl) rfl (by show 2 * 0 + _ ≤ _; exact Nat.le_of_eq rfl) (hb hby at_64) (fun _ _ => ⟨rfl, e0, (by decide : 0 + 0 ≤ _), (by decide : 0 + 0 ≤ _)⟩)
      dsimp only [Pt.U, Pt.locs, Pt.cells, Pt.slots] at X55 l55 y55 z55 st55 hQ55
      subst l55 y55 z55
      obtain ⟨rfl, Nq55, e55⟩ := hQ55
      refine own_by st55 ?_
      have N55 := Fr.app N0 Nq55
      show own_Fin _ _ _ _ (T55.setTop (mkF m 67 #[.val (.int p1), .val (.int p2), .val (.int p3), .val (.int p4), .val (.int (1 : Int32)), .unset, .unset] [(.int (own_exp (1 : Int32)))]))
      refine own_go (XS.iload X55.here hx rfl (hb hby at_67) rfl (Steps.refl _)) ?_
      show own_Fin _ _ _ _ (T55.setTop (mkF m 69 #[.val (.int p1), .val (.int p2), .val (.int p3), .val (.int p4), .val (.int (1 : Int32)), .unset, .unset] [(.int (1 : Int32)), (.int (own_exp (1 : Int32)))]))
      obtain ⟨_, _, ⟨T56, L56, k56, n56⟩, -, X56, ⟨Lc56, hQ56, l56, y56, z56⟩, st56⟩ := Jvm.LawKit.callS X55 hx (y := (⟨"com/example/pricefence/pricefence/ranges/PriceBoundsDecimalsPinLaw", "expected", "(I)I"⟩ : MethodName)) hown (mvT hZ (hw _ (List.mem_of_getElem? (i := 10) rfl))) (mvT hZ (hw _ (List.mem_of_getElem? (i := 11) rfl))) (mvT hZ (hw _ (List.mem_of_getElem? (i := 3) rfl))) (mvT hZ (hw _ (List.mem_of_getElem? (i := 12) rfl))) (by decide) (backOf (W := 1) (rm3 l Z a0 hw [] (1 : Int32) h0 n0 Z0) hZ (hw _ (List.mem_of_getElem? (i := 12) rfl)) (hw _ (List.mem_of_getElem? (i := 3) rfl)) (by decide) (by decide)) (g := (mkF m 69 #[.val (.int p1), .val (.int p2), .val (.int p3), .val (.int p4), .val (.int (1 : Int32)), .unset, .unset] [(.int (1 : Int32)), (.int (own_exp (1 : Int32)))])) rfl (by rw [hml]; rfl) (argsL := [(.int (1 : Int32))]) (rest := [(.int (own_exp (1 : Int32)))]) (lenOf pd__28_I_29_I rfl) rfl (by show 2 * 0 + _ ≤ _; exact Nat.le_of_eq rfl) (hb hby at_69) (fun _ _ => ⟨rfl, e55, (by decide : 0 + 0 ≤ _), (by decide : 0 + 0 ≤ _)⟩)
      dsimp only [Pt.U, Pt.locs, Pt.cells, Pt.slots] at X56 l56 y56 z56 st56 hQ56
      subst l56 y56 z56
      obtain ⟨rfl, Nq56, e56⟩ := hQ56
      refine own_by st56 ?_
      have N56 := Fr.app N55 Nq56
      show own_Fin _ _ _ _ (T56.setTop (mkF m 72 #[.val (.int p1), .val (.int p2), .val (.int p3), .val (.int p4), .val (.int (1 : Int32)), .unset, .unset] [(.int (own_exp (1 : Int32))), (.int (own_exp (1 : Int32)))]))
      refine own_go (XS.icmpNo X56.here hx rfl (hb hby at_72) rfl (teq (rfl : (own_exp (1 : Int32)) = (own_exp (1 : Int32)))).2 (Steps.refl _)) ?_
      show own_Fin _ _ _ _ (T56.setTop (mkF m 75 #[.val (.int p1), .val (.int p2), .val (.int p3), .val (.int p4), .val (.int (1 : Int32)), .unset, .unset] []))
      refine own_go (XS.iconst X56.here hx rfl (hb hby at_75) (Steps.refl _)) ?_
      show own_Fin _ _ _ _ (T56.setTop (mkF m 76 #[.val (.int p1), .val (.int p2), .val (.int p3), .val (.int p4), .val (.int (1 : Int32)), .unset, .unset] [(.int (1 : Int32))]))
      refine own_go (XS.goto X56.here hx rfl (pc0 := 76) (pc' := 80) rfl (hb hby at_76) (by decide) (by decide) (Steps.refl _)) ?_
      show own_Fin _ _ _ _ (T56.setTop (mkF m 80 #[.val (.int p1), .val (.int p2), .val (.int p3), .val (.int p4), .val (.int (1 : Int32)), .unset, .unset] [(.int (1 : Int32))]))
      obtain ⟨fs57, hr57, hrun57, hended57, hW57, hsame57⟩ := X56.leave (v := some (.int (1 : Int32))) (fun h => by rw [Bd.returns] at h; cases h)
      refine own_done (retN X56 hx (t := .boolean) Bd.returns (by simp) (hb hby at_80) hr57) hrun57 hended57 ⟨_, _, rfl, ?_, ⟨_, rfl⟩, hW57, hsame57.mono (by decide) (by decide)⟩
      show Q0 Z p1 p2 p3 p4 h0 n0 _ T56.heap _
      rw [e56]
      exact ⟨rfl, N56⟩
    · refine own_go (XS.icmpYes X0.here hx rfl (pc0 := 56) (pc' := 62) rfl (hb hby at_56) rfl (flt c56_54).2.1 (by decide) (by decide) (Steps.refl _)) ?_
      show own_Fin _ _ _ _ (s₁.setTop (mkF m 62 #[.val (.int p1), .val (.int p2), .val (.int p3), .val (.int p4), .val (.int v4_53), .unset, .unset] []))
      refine own_go (XS.iload X0.here hx rfl (hb hby at_62) rfl (Steps.refl _)) ?_
      show own_Fin _ _ _ _ (s₁.setTop (mkF m 64 #[.val (.int p1), .val (.int p2), .val (.int p3), .val (.int p4), .val (.int v4_53), .unset, .unset] [(.int v4_53)]))
      obtain ⟨_, _, ⟨T58, L58, k58, n58⟩, -, X58, ⟨Lc58, hQ58, l58, y58, z58⟩, st58⟩ := Jvm.LawKit.callS X0 hx (y := (⟨"com/example/pricefence/pricefence/ranges/PriceBounds", "decimals", "(I)I"⟩ : MethodName)) hown (mvT hZ (hw _ (List.mem_of_getElem? (i := 5) rfl))) (mvT hZ (hw _ (List.mem_of_getElem? (i := 6) rfl))) (mvT hZ (hw _ (List.mem_of_getElem? (i := 7) rfl))) (mvT hZ (hw _ (List.mem_of_getElem? (i := 8) rfl))) (by decide) (backOf (W := 0) (rm2 l Z a0 hw [] v4_53 h0 n0 Z0 c56_54) hZ (hw _ (List.mem_of_getElem? (i := 8) rfl)) (hw _ (List.mem_of_getElem? (i := 7) rfl)) (by decide) (by decide)) (g := (mkF m 64 #[.val (.int p1), .val (.int p2), .val (.int p3), .val (.int p4), .val (.int v4_53), .unset, .unset] [(.int v4_53)])) rfl (by rw [hml]; rfl) (argsL := [(.int v4_53)]) (rest := []) (lenOf pd__28_I_29_I rfl) rfl (by show 2 * 0 + _ ≤ _; exact Nat.le_of_eq rfl) (hb hby at_64) (fun _ _ => ⟨rfl, e0, (by decide : 0 + 0 ≤ _), (by decide : 0 + 0 ≤ _)⟩)
      dsimp only [Pt.U, Pt.locs, Pt.cells, Pt.slots] at X58 l58 y58 z58 st58 hQ58
      subst l58 y58 z58
      obtain ⟨rfl, Nq58, e58⟩ := hQ58
      refine own_by st58 ?_
      have N58 := Fr.app N0 Nq58
      show own_Fin _ _ _ _ (T58.setTop (mkF m 67 #[.val (.int p1), .val (.int p2), .val (.int p3), .val (.int p4), .val (.int v4_53), .unset, .unset] [(.int (own_exp v4_53))]))
      refine own_go (XS.iload X58.here hx rfl (hb hby at_67) rfl (Steps.refl _)) ?_
      show own_Fin _ _ _ _ (T58.setTop (mkF m 69 #[.val (.int p1), .val (.int p2), .val (.int p3), .val (.int p4), .val (.int v4_53), .unset, .unset] [(.int v4_53), (.int (own_exp v4_53))]))
      obtain ⟨_, _, ⟨T59, L59, k59, n59⟩, -, X59, ⟨Lc59, hQ59, l59, y59, z59⟩, st59⟩ := Jvm.LawKit.callS X58 hx (y := (⟨"com/example/pricefence/pricefence/ranges/PriceBoundsDecimalsPinLaw", "expected", "(I)I"⟩ : MethodName)) hown (mvT hZ (hw _ (List.mem_of_getElem? (i := 10) rfl))) (mvT hZ (hw _ (List.mem_of_getElem? (i := 11) rfl))) (mvT hZ (hw _ (List.mem_of_getElem? (i := 3) rfl))) (mvT hZ (hw _ (List.mem_of_getElem? (i := 12) rfl))) (by decide) (backOf (W := 1) (rm3 l Z a0 hw [] v4_53 h0 n0 Z0) hZ (hw _ (List.mem_of_getElem? (i := 12) rfl)) (hw _ (List.mem_of_getElem? (i := 3) rfl)) (by decide) (by decide)) (g := (mkF m 69 #[.val (.int p1), .val (.int p2), .val (.int p3), .val (.int p4), .val (.int v4_53), .unset, .unset] [(.int v4_53), (.int (own_exp v4_53))])) rfl (by rw [hml]; rfl) (argsL := [(.int v4_53)]) (rest := [(.int (own_exp v4_53))]) (lenOf pd__28_I_29_I rfl) rfl (by show 2 * 0 + _ ≤ _; exact Nat.le_of_eq rfl) (hb hby at_69) (fun _ _ => ⟨rfl, e58, (by decide : 0 + 0 ≤ _), (by decide : 0 + 0 ≤ _)⟩)
      dsimp only [Pt.U, Pt.locs, Pt.cells, Pt.slots] at X59 l59 y59 z59 st59 hQ59
      subst l59 y59 z59
      obtain ⟨rfl, Nq59, e59⟩ := hQ59
      refine own_by st59 ?_
      have N59 := Fr.app N58 Nq59
      show own_Fin _ _ _ _ (T59.setTop (mkF m 72 #[.val (.int p1), .val (.int p2), .val (.int p3), .val (.int p4), .val (.int v4_53), .unset, .unset] [(.int (own_exp v4_53)), (.int (own_exp v4_53))]))
      refine own_go (XS.icmpNo X59.here hx rfl (hb hby at_72) rfl (teq (rfl : (own_exp v4_53) = (own_exp v4_53))).2 (Steps.refl _)) ?_
      show own_Fin _ _ _ _ (T59.setTop (mkF m 75 #[.val (.int p1), .val (.int p2), .val (.int p3), .val (.int p4), .val (.int v4_53), .unset, .unset] []))
      refine own_go (XS.iconst X59.here hx rfl (hb hby at_75) (Steps.refl _)) ?_
      show own_Fin _ _ _ _ (T59.setTop (mkF m 76 #[.val (.int p1), .val (.int p2), .val (.int p3), .val (.int p4), .val (.int v4_53), .unset, .unset] [(.int (1 : Int32))]))
      refine own_go (XS.goto X59.here hx rfl (pc0 := 76) (pc' := 80) rfl (hb hby at_76) (by decide) (by decide) (Steps.refl _)) ?_
      show own_Fin _ _ _ _ (T59.setTop (mkF m 80 #[.val (.int p1), .val (.int p2), .val (.int p3), .val (.int p4), .val (.int v4_53), .unset, .unset] [(.int (1 : Int32))]))
      obtain ⟨fs60, hr60, hrun60, hended60, hW60, hsame60⟩ := X59.leave (v := some (.int (1 : Int32))) (fun h => by rw [Bd.returns] at h; cases h)
      refine own_done (retN X59 hx (t := .boolean) Bd.returns (by simp) (hb hby at_80) hr60) hrun60 hended60 ⟨_, _, rfl, ?_, ⟨_, rfl⟩, hW60, hsame60.mono (by decide) (by decide)⟩
      show Q0 Z p1 p2 p3 p4 h0 n0 _ T59.heap _
      rw [e59]
      exact ⟨rfl, N59⟩
  · refine own_go (XS.ifNo X0.here hx rfl (hb hby at_3) rfl ((if0 _ _).trans (feq c3_52).1) (Steps.refl _)) ?_
    show own_Fin _ _ _ _ (s₁.setTop (mkF m 6 #[.val (.int p1), .val (.int p2), .val (.int p3), .val (.int p4), .unset, .unset, .unset] []))
    refine own_go (XS.iloadN X0.here hx rfl (hb hby at_6) rfl (Steps.refl _)) ?_
    show own_Fin _ _ _ _ (s₁.setTop (mkF m 7 #[.val (.int p1), .val (.int p2), .val (.int p3), .val (.int p4), .unset, .unset, .unset] [(.int p2)]))
    refine own_by (X0.ldcInt hx hown (mvT hZ (hw _ (List.mem_of_getElem? (i := 0) rfl))) (g := (mkF m 7 #[.val (.int p1), .val (.int p2), .val (.int p3), .val (.int p4), .unset, .unset, .unset] [(.int p2)])) rfl (hb hby at_7)) ?_
    show own_Fin _ _ _ _ (s₁.setTop (mkF m 9 #[.val (.int p1), .val (.int p2), .val (.int p3), .val (.int p4), .unset, .unset, .unset] [(.int (2147483647 : Int32)), (.int p2)]))
    refine own_go (XS.iand X0.here hx rfl (hb hby at_9) rfl (Steps.refl _)) ?_
    show own_Fin _ _ _ _ (s₁.setTop (mkF m 10 #[.val (.int p1), .val (.int p2), .val (.int p3), .val (.int p4), .unset, .unset, .unset] [(.int (p2 &&& (2147483647 : Int32)))]))
    refine own_go (XS.bipush X0.here hx rfl (hb hby at_10) (Steps.refl _)) ?_
    show own_Fin _ _ _ _ (s₁.setTop (mkF m 12 #[.val (.int p1), .val (.int p2), .val (.int p3), .val (.int p4), .unset, .unset, .unset] [(.int (10 : Int32)), (.int (p2 &&& (2147483647 : Int32)))]))
    refine own_go (iremM X0 hx rfl (hb hby at_12) rfl (by decide) (Steps.refl _)) ?_
    show own_Fin _ _ _ _ (s₁.setTop (mkF m 13 #[.val (.int p1), .val (.int p2), .val (.int p3), .val (.int p4), .unset, .unset, .unset] [(.int ((p2 &&& (2147483647 : Int32)) % (10 : Int32)))]))
    obtain ⟨_, _, ⟨T61, L61, k61, n61⟩, -, X61, ⟨Lc61, hQ61, l61, y61, z61⟩, st61⟩ := Jvm.LawKit.callS X0 hx (y := (⟨"com/example/pricefence/pricefence/ranges/PriceBoundsDecimalsPinLaw", "pow10", "(I)I"⟩ : MethodName)) hown (mvT hZ (hw _ (List.mem_of_getElem? (i := 1) rfl))) (mvT hZ (hw _ (List.mem_of_getElem? (i := 2) rfl))) (mvT hZ (hw _ (List.mem_of_getElem? (i := 3) rfl))) (mvT hZ (hw _ (List.mem_of_getElem? (i := 4) rfl))) (by decide) (backOf (W := 0) (rm1 l Z a0 hw [] ((p2 &&& (2147483647 : Int32)) % (10 : Int32)) h0 n0 Z0) hZ (hw _ (List.mem_of_getElem? (i := 4) rfl)) (hw _ (List.mem_of_getElem? (i := 3) rfl)) (by decide) (by decide)) (g := (mkF m 13 #[.val (.int p1), .val (.int p2), .val (.int p3), .val (.int p4), .unset, .unset, .unset] [(.int ((p2 &&& (2147483647 : Int32)) % (10 : Int32)))])) rfl (by rw [hml]; rfl) (argsL := [(.int ((p2 &&& (2147483647 : Int32)) % (10 : Int32)))]) (rest := []) (lenOf pd__28_I_29_I rfl) rfl (by show 2 * 0 + _ ≤ _; exact Nat.le_of_eq rfl) (hb hby at_13) (fun _ _ => ⟨rfl, e0, (by decide : 0 + 0 ≤ _), (by decide : 0 + 0 ≤ _)⟩)
    dsimp only [Pt.U, Pt.locs, Pt.cells, Pt.slots] at X61 l61 y61 z61 st61 hQ61
    subst l61 y61 z61
    obtain ⟨⟨pz61, rfl⟩, Nq61, e61⟩ := hQ61
    refine own_by st61 ?_
    have N61 := Fr.app N0 Nq61
    show own_Fin _ _ _ _ (T61.setTop (mkF m 16 #[.val (.int p1), .val (.int p2), .val (.int p3), .val (.int p4), .unset, .unset, .unset] [(.int pz61)]))
    refine own_go (XS.istore X61.here hx rfl (hb hby at_16) rfl (l' := #[.val (.int p1), .val (.int p2), .val (.int p3), .val (.int p4), .unset, .val (.int pz61), .unset]) rfl (Steps.refl _)) ?_
    show own_Fin _ _ _ _ (T61.setTop (mkF m 18 #[.val (.int p1), .val (.int p2), .val (.int p3), .val (.int p4), .unset, .val (.int pz61), .unset] []))
    refine own_go (XS.iloadN X61.here hx rfl (hb hby at_18) rfl (Steps.refl _)) ?_
    show own_Fin _ _ _ _ (T61.setTop (mkF m 19 #[.val (.int p1), .val (.int p2), .val (.int p3), .val (.int p4), .unset, .val (.int pz61), .unset] [(.int p3)]))
    refine own_by (X61.ldcInt hx hown (mvT hZ (hw _ (List.mem_of_getElem? (i := 0) rfl))) (g := (mkF m 19 #[.val (.int p1), .val (.int p2), .val (.int p3), .val (.int p4), .unset, .val (.int pz61), .unset] [(.int p3)])) rfl (hb hby at_19)) ?_
    show own_Fin _ _ _ _ (T61.setTop (mkF m 21 #[.val (.int p1), .val (.int p2), .val (.int p3), .val (.int p4), .unset, .val (.int pz61), .unset] [(.int (2147483647 : Int32)), (.int p3)]))
    refine own_go (XS.iand X61.here hx rfl (hb hby at_21) rfl (Steps.refl _)) ?_
    show own_Fin _ _ _ _ (T61.setTop (mkF m 22 #[.val (.int p1), .val (.int p2), .val (.int p3), .val (.int p4), .unset, .val (.int pz61), .unset] [(.int (p3 &&& (2147483647 : Int32)))]))
    refine own_go (XS.iconst X61.here hx rfl (hb hby at_22) (Steps.refl _)) ?_
    show own_Fin _ _ _ _ (T61.setTop (mkF m 23 #[.val (.int p1), .val (.int p2), .val (.int p3), .val (.int p4), .unset, .val (.int pz61), .unset] [(.int (3 : Int32)), (.int (p3 &&& (2147483647 : Int32)))]))
    refine own_go (iremM X61 hx rfl (hb hby at_23) rfl (by decide) (Steps.refl _)) ?_
    show own_Fin _ _ _ _ (T61.setTop (mkF m 24 #[.val (.int p1), .val (.int p2), .val (.int p3), .val (.int p4), .unset, .val (.int pz61), .unset] [(.int ((p3 &&& (2147483647 : Int32)) % (3 : Int32)))]))
    refine own_go (XS.iconst X61.here hx rfl (hb hby at_24) (Steps.refl _)) ?_
    show own_Fin _ _ _ _ (T61.setTop (mkF m 25 #[.val (.int p1), .val (.int p2), .val (.int p3), .val (.int p4), .unset, .val (.int pz61), .unset] [(.int (1 : Int32)), (.int ((p3 &&& (2147483647 : Int32)) % (3 : Int32)))]))
    refine own_go (XS.isub X61.here hx rfl (hb hby at_25) rfl (Steps.refl _)) ?_
    show own_Fin _ _ _ _ (T61.setTop (mkF m 26 #[.val (.int p1), .val (.int p2), .val (.int p3), .val (.int p4), .unset, .val (.int pz61), .unset] [(.int (((p3 &&& (2147483647 : Int32)) % (3 : Int32)) - (1 : Int32)))]))
    refine own_go (XS.istore X61.here hx rfl (hb hby at_26) rfl (l' := #[.val (.int p1), .val (.int p2), .val (.int p3), .val (.int p4), .unset, .val (.int pz61), .val (.int (((p3 &&& (2147483647 : Int32)) % (3 : Int32)) - (1 : Int32)))]) rfl (Steps.refl _)) ?_
    show own_Fin _ _ _ _ (T61.setTop (mkF m 28 #[.val (.int p1), .val (.int p2), .val (.int p3), .val (.int p4), .unset, .val (.int pz61), .val (.int (((p3 &&& (2147483647 : Int32)) % (3 : Int32)) - (1 : Int32)))] []))
    generalize hz_v6_62 : (((p3 &&& (2147483647 : Int32)) % (3 : Int32)) - (1 : Int32)) = v6_62
    refine own_go (XS.iload X61.here hx rfl (hb hby at_28) rfl (Steps.refl _)) ?_
    show own_Fin _ _ _ _ (T61.setTop (mkF m 30 #[.val (.int p1), .val (.int p2), .val (.int p3), .val (.int p4), .unset, .val (.int pz61), .val (.int v6_62)] [(.int pz61)]))
    refine own_go (XS.iload X61.here hx rfl (hb hby at_30) rfl (Steps.refl _)) ?_
    show own_Fin _ _ _ _ (T61.setTop (mkF m 32 #[.val (.int p1), .val (.int p2), .val (.int p3), .val (.int p4), .unset, .val (.int pz61), .val (.int v6_62)] [(.int v6_62), (.int pz61)]))
    refine own_go (XS.iadd X61.here hx rfl (hb hby at_32) rfl (Steps.refl _)) ?_
    show own_Fin _ _ _ _ (T61.setTop (mkF m 33 #[.val (.int p1), .val (.int p2), .val (.int p3), .val (.int p4), .unset, .val (.int pz61), .val (.int v6_62)] [(.int (pz61 + v6_62))]))
    refine own_go (XS.istore X61.here hx rfl (hb hby at_33) rfl (l' := #[.val (.int p1), .val (.int p2), .val (.int p3), .val (.int p4), .val (.int (pz61 + v6_62)), .val (.int pz61), .val (.int v6_62)]) rfl (Steps.refl _)) ?_
    show own_Fin _ _ _ _ (T61.setTop (mkF m 35 #[.val (.int p1), .val (.int p2), .val (.int p3), .val (.int p4), .val (.int (pz61 + v6_62)), .val (.int pz61), .val (.int v6_62)] []))
    generalize hz_v4_63 : (pz61 + v6_62) = v4_63
    refine own_go (XS.iload X61.here hx rfl (hb hby at_35) rfl (Steps.refl _)) ?_
    show own_Fin _ _ _ _ (T61.setTop (mkF m 37 #[.val (.int p1), .val (.int p2), .val (.int p3), .val (.int p4), .val (.int v4_63), .val (.int pz61), .val (.int v6_62)] [(.int v4_63)]))
    refine own_go (XS.iconst X61.here hx rfl (hb hby at_37) (Steps.refl _)) ?_
    show own_Fin _ _ _ _ (T61.setTop (mkF m 38 #[.val (.int p1), .val (.int p2), .val (.int p3), .val (.int p4), .val (.int v4_63), .val (.int pz61), .val (.int v6_62)] [(.int (1 : Int32)), (.int v4_63)]))
    by_cases c38_64 : v4_63 < (1 : Int32)
    · refine own_go (XS.icmpNo X61.here hx rfl (hb hby at_38) rfl (tlt c38_64).2.1 (Steps.refl _)) ?_
      show own_Fin _ _ _ _ (T61.setTop (mkF m 41 #[.val (.int p1), .val (.int p2), .val (.int p3), .val (.int p4), .val (.int v4_63), .val (.int pz61), .val (.int v6_62)] []))
      refine own_go (XS.iconst X61.here hx rfl (hb hby at_41) (Steps.refl _)) ?_
      show own_Fin _ _ _ _ (T61.setTop (mkF m 42 #[.val (.int p1), .val (.int p2), .val (.int p3), .val (.int p4), .val (.int v4_63), .val (.int pz61), .val (.int v6_62)] [(.int (1 : Int32))]))
      refine own_go (XS.istore X61.here hx rfl (hb hby at_42) rfl (l' := #[.val (.int p1), .val (.int p2), .val (.int p3), .val (.int p4), .val (.int (1 : Int32)), .val (.int pz61), .val (.int v6_62)]) rfl (Steps.refl _)) ?_
      show own_Fin _ _ _ _ (T61.setTop (mkF m 44 #[.val (.int p1), .val (.int p2), .val (.int p3), .val (.int p4), .val (.int (1 : Int32)), .val (.int pz61), .val (.int v6_62)] []))
      refine own_go (XS.goto X61.here hx rfl (pc0 := 44) (pc' := 62) rfl (hb hby at_44) (by decide) (by decide) (Steps.refl _)) ?_
      show own_Fin _ _ _ _ (T61.setTop (mkF m 62 #[.val (.int p1), .val (.int p2), .val (.int p3), .val (.int p4), .val (.int (1 : Int32)), .val (.int pz61), .val (.int v6_62)] []))
      refine own_go (XS.iload X61.here hx rfl (hb hby at_62) rfl (Steps.refl _)) ?_
      show own_Fin _ _ _ _ (T61.setTop (mkF m 64 #[.val (.int p1), .val (.int p2), .val (.int p3), .val (.int p4), .val (.int (1 : Int32)), .val (.int pz61), .val (.int v6_62)] [(.int (1 : Int32))]))
      obtain ⟨_, _, ⟨T65, L65, k65, n65⟩, -, X65, ⟨Lc65, hQ65, l65, y65, z65⟩, st65⟩ := Jvm.LawKit.callS X61 hx (y := (⟨"com/example/pricefence/pricefence/ranges/PriceBounds", "decimals", "(I)I"⟩ : MethodName)) hown (mvT hZ (hw _ (List.mem_of_getElem? (i := 5) rfl))) (mvT hZ (hw _ (List.mem_of_getElem? (i := 6) rfl))) (mvT hZ (hw _ (List.mem_of_getElem? (i := 7) rfl))) (mvT hZ (hw _ (List.mem_of_getElem? (i := 8) rfl))) (by decide) (backOf (W := 0) (rm2 l Z a0 hw [] (1 : Int32) h0 n0 Z0 (by decide)) hZ (hw _ (List.mem_of_getElem? (i := 8) rfl)) (hw _ (List.mem_of_getElem? (i := 7) rfl)) (by decide) (by decide)) (g := (mkF m 64 #[.val (.int p1), .val (.int p2), .val (.int p3), .val (.int p4), .val (.int (1 : Int32)), .val (.int pz61), .val (.int v6_62)] [(.int (1 : Int32))])) rfl (by rw [hml]; rfl) (argsL := [(.int (1 : Int32))]) (rest := []) (lenOf pd__28_I_29_I rfl) rfl (by show 2 * 0 + _ ≤ _; exact Nat.le_of_eq rfl) (hb hby at_64) (fun _ _ => ⟨rfl, e61, (by decide : 0 + 0 ≤ _), (by decide : 0 + 0 ≤ _)⟩)
      dsimp only [Pt.U, Pt.locs, Pt.cells, Pt.slots] at X65 l65 y65 z65 st65 hQ65
      subst l65 y65 z65
      obtain ⟨rfl, Nq65, e65⟩ := hQ65
      refine own_by st65 ?_
      have N65 := Fr.app N61 Nq65
      show own_Fin _ _ _ _ (T65.setTop (mkF m 67 #[.val (.int p1), .val (.int p2), .val (.int p3), .val (.int p4), .val (.int (1 : Int32)), .val (.int pz61), .val (.int v6_62)] [(.int (own_exp (1 : Int32)))]))
      refine own_go (XS.iload X65.here hx rfl (hb hby at_67) rfl (Steps.refl _)) ?_
      show own_Fin _ _ _ _ (T65.setTop (mkF m 69 #[.val (.int p1), .val (.int p2), .val (.int p3), .val (.int p4), .val (.int (1 : Int32)), .val (.int pz61), .val (.int v6_62)] [(.int (1 : Int32)), (.int (own_exp (1 : Int32)))]))
      obtain ⟨_, _, ⟨T66, L66, k66, n66⟩, -, X66, ⟨Lc66, hQ66, l66, y66, z66⟩, st66⟩ := Jvm.LawKit.callS X65 hx (y := (⟨"com/example/pricefence/pricefence/ranges/PriceBoundsDecimalsPinLaw", "expected", "(I)I"⟩ : MethodName)) hown (mvT hZ (hw _ (List.mem_of_getElem? (i := 10) rfl))) (mvT hZ (hw _ (List.mem_of_getElem? (i := 11) rfl))) (mvT hZ (hw _ (List.mem_of_getElem? (i := 3) rfl))) (mvT hZ (hw _ (List.mem_of_getElem? (i := 12) rfl))) (by decide) (backOf (W := 1) (rm3 l Z a0 hw [] (1 : Int32) h0 n0 Z0) hZ (hw _ (List.mem_of_getElem? (i := 12) rfl)) (hw _ (List.mem_of_getElem? (i := 3) rfl)) (by decide) (by decide)) (g := (mkF m 69 #[.val (.int p1), .val (.int p2), .val (.int p3), .val (.int p4), .val (.int (1 : Int32)), .val (.int pz61), .val (.int v6_62)] [(.int (1 : Int32)), (.int (own_exp (1 : Int32)))])) rfl (by rw [hml]; rfl) (argsL := [(.int (1 : Int32))]) (rest := [(.int (own_exp (1 : Int32)))]) (lenOf pd__28_I_29_I rfl) rfl (by show 2 * 0 + _ ≤ _; exact Nat.le_of_eq rfl) (hb hby at_69) (fun _ _ => ⟨rfl, e65, (by decide : 0 + 0 ≤ _), (by decide : 0 + 0 ≤ _)⟩)
      dsimp only [Pt.U, Pt.locs, Pt.cells, Pt.slots] at X66 l66 y66 z66 st66 hQ66
      subst l66 y66 z66
      obtain ⟨rfl, Nq66, e66⟩ := hQ66
      refine own_by st66 ?_
      have N66 := Fr.app N65 Nq66
      show own_Fin _ _ _ _ (T66.setTop (mkF m 72 #[.val (.int p1), .val (.int p2), .val (.int p3), .val (.int p4), .val (.int (1 : Int32)), .val (.int pz61), .val (.int v6_62)] [(.int (own_exp (1 : Int32))), (.int (own_exp (1 : Int32)))]))
      refine own_go (XS.icmpNo X66.here hx rfl (hb hby at_72) rfl (teq (rfl : (own_exp (1 : Int32)) = (own_exp (1 : Int32)))).2 (Steps.refl _)) ?_
      show own_Fin _ _ _ _ (T66.setTop (mkF m 75 #[.val (.int p1), .val (.int p2), .val (.int p3), .val (.int p4), .val (.int (1 : Int32)), .val (.int pz61), .val (.int v6_62)] []))
      refine own_go (XS.iconst X66.here hx rfl (hb hby at_75) (Steps.refl _)) ?_
      show own_Fin _ _ _ _ (T66.setTop (mkF m 76 #[.val (.int p1), .val (.int p2), .val (.int p3), .val (.int p4), .val (.int (1 : Int32)), .val (.int pz61), .val (.int v6_62)] [(.int (1 : Int32))]))
      refine own_go (XS.goto X66.here hx rfl (pc0 := 76) (pc' := 80) rfl (hb hby at_76) (by decide) (by decide) (Steps.refl _)) ?_
      show own_Fin _ _ _ _ (T66.setTop (mkF m 80 #[.val (.int p1), .val (.int p2), .val (.int p3), .val (.int p4), .val (.int (1 : Int32)), .val (.int pz61), .val (.int v6_62)] [(.int (1 : Int32))]))
      obtain ⟨fs67, hr67, hrun67, hended67, hW67, hsame67⟩ := X66.leave (v := some (.int (1 : Int32))) (fun h => by rw [Bd.returns] at h; cases h)
      refine own_done (retN X66 hx (t := .boolean) Bd.returns (by simp) (hb hby at_80) hr67) hrun67 hended67 ⟨_, _, rfl, ?_, ⟨_, rfl⟩, hW67, hsame67.mono (by decide) (by decide)⟩
      show Q0 Z p1 p2 p3 p4 h0 n0 _ T66.heap _
      rw [e66]
      exact ⟨rfl, N66⟩
    · refine own_go (XS.icmpYes X61.here hx rfl (pc0 := 38) (pc' := 44) rfl (hb hby at_38) rfl (flt c38_64).2.1 (by decide) (by decide) (Steps.refl _)) ?_
      show own_Fin _ _ _ _ (T61.setTop (mkF m 44 #[.val (.int p1), .val (.int p2), .val (.int p3), .val (.int p4), .val (.int v4_63), .val (.int pz61), .val (.int v6_62)] []))
      refine own_go (XS.goto X61.here hx rfl (pc0 := 44) (pc' := 62) rfl (hb hby at_44) (by decide) (by decide) (Steps.refl _)) ?_
      show own_Fin _ _ _ _ (T61.setTop (mkF m 62 #[.val (.int p1), .val (.int p2), .val (.int p3), .val (.int p4), .val (.int v4_63), .val (.int pz61), .val (.int v6_62)] []))
      refine own_go (XS.iload X61.here hx rfl (hb hby at_62) rfl (Steps.refl _)) ?_
      show own_Fin _ _ _ _ (T61.setTop (mkF m 64 #[.val (.int p1), .val (.int p2), .val (.int p3), .val (.int p4), .val (.int v4_63), .val (.int pz61), .val (.int v6_62)] [(.int v4_63)]))
      obtain ⟨_, _, ⟨T68, L68, k68, n68⟩, -, X68, ⟨Lc68, hQ68, l68, y68, z68⟩, st68⟩ := Jvm.LawKit.callS X61 hx (y := (⟨"com/example/pricefence/pricefence/ranges/PriceBounds", "decimals", "(I)I"⟩ : MethodName)) hown (mvT hZ (hw _ (List.mem_of_getElem? (i := 5) rfl))) (mvT hZ (hw _ (List.mem_of_getElem? (i := 6) rfl))) (mvT hZ (hw _ (List.mem_of_getElem? (i := 7) rfl))) (mvT hZ (hw _ (List.mem_of_getElem? (i := 8) rfl))) (by decide) (backOf (W := 0) (rm2 l Z a0 hw [] v4_63 h0 n0 Z0 c38_64) hZ (hw _ (List.mem_of_getElem? (i := 8) rfl)) (hw _ (List.mem_of_getElem? (i := 7) rfl)) (by decide) (by decide)) (g := (mkF m 64 #[.val (.int p1), .val (.int p2), .val (.int p3), .val (.int p4), .val (.int v4_63), .val (.int pz61), .val (.int v6_62)] [(.int v4_63)])) rfl (by rw [hml]; rfl) (argsL := [(.int v4_63)]) (rest := []) (lenOf pd__28_I_29_I rfl) rfl (by show 2 * 0 + _ ≤ _; exact Nat.le_of_eq rfl) (hb hby at_64) (fun _ _ => ⟨rfl, e61, (by decide : 0 + 0 ≤ _), (by decide : 0 + 0 ≤ _)⟩)
      dsimp only [Pt.U, Pt.locs, Pt.cells, Pt.slots] at X68 l68 y68 z68 st68 hQ68
      subst l68 y68 z68
      obtain ⟨rfl, Nq68, e68⟩ := hQ68
      refine own_by st68 ?_
      have N68 := Fr.app N61 Nq68
      show own_Fin _ _ _ _ (T68.setTop (mkF m 67 #[.val (.int p1), .val (.int p2), .val (.int p3), .val (.int p4), .val (.int v4_63), .val (.int pz61), .val (.int v6_62)] [(.int (own_exp v4_63))]))
      refine own_go (XS.iload X68.here hx rfl (hb hby at_67) rfl (Steps.refl _)) ?_
      show own_Fin _ _ _ _ (T68.setTop (mkF m 69 #[.val (.int p1), .val (.int p2), .val (.int p3), .val (.int p4), .val (.int v4_63), .val (.int pz61), .val (.int v6_62)] [(.int v4_63), (.int (own_exp v4_63))]))
      obtain ⟨_, _, ⟨T69, L69, k69, n69⟩, -, X69, ⟨Lc69, hQ69, l69, y69, z69⟩, st69⟩ := Jvm.LawKit.callS X68 hx (y := (⟨"com/example/pricefence/pricefence/ranges/PriceBoundsDecimalsPinLaw", "expected", "(I)I"⟩ : MethodName)) hown (mvT hZ (hw _ (List.mem_of_getElem? (i := 10) rfl))) (mvT hZ (hw _ (List.mem_of_getElem? (i := 11) rfl))) (mvT hZ (hw _ (List.mem_of_getElem? (i := 3) rfl))) (mvT hZ (hw _ (List.mem_of_getElem? (i := 12) rfl))) (by decide) (backOf (W := 1) (rm3 l Z a0 hw [] v4_63 h0 n0 Z0) hZ (hw _ (List.mem_of_getElem? (i := 12) rfl)) (hw _ (List.mem_of_getElem? (i := 3) rfl)) (by decide) (by decide)) (g := (mkF m 69 #[.val (.int p1), .val (.int p2), .val (.int p3), .val (.int p4), .val (.int v4_63), .val (.int pz61), .val (.int v6_62)] [(.int v4_63), (.int (own_exp v4_63))])) rfl (by rw [hml]; rfl) (argsL := [(.int v4_63)]) (rest := [(.int (own_exp v4_63))]) (lenOf pd__28_I_29_I rfl) rfl (by show 2 * 0 + _ ≤ _; exact Nat.le_of_eq rfl) (hb hby at_69) (fun _ _ => ⟨rfl, e68, (by decide : 0 + 0 ≤ _), (by decide : 0 + 0 ≤ _)⟩)
      dsimp only [Pt.U, Pt.locs, Pt.cells, Pt.slots] at X69 l69 y69 z69 st69 hQ69
      subst l69 y69 z69
      obtain ⟨rfl, Nq69, e69⟩ := hQ69
      refine own_by st69 ?_
      have N69 := Fr.app N68 Nq69
      show own_Fin _ _ _ _ (T69.setTop (mkF m 72 #[.val (.int p1), .val (.int p2), .val (.int p3), .val (.int p4), .val (.int v4_63), .val (.int pz61), .val (.int v6_62)] [(.int (own_exp v4_63)), (.int (own_exp v4_63))]))
      refine own_go (XS.icmpNo X69.here hx rfl (hb hby at_72) rfl (teq (rfl : (own_exp v4_63) = (own_exp v4_63))).2 (Steps.refl _)) ?_
      show own_Fin _ _ _ _ (T69.setTop (mkF m 75 #[.val (.int p1), .val (.int p2), .val (.int p3), .val (.int p4), .val (.int v4_63), .val (.int pz61), .val (.int v6_62)] []))
      refine own_go (XS.iconst X69.here hx rfl (hb hby at_75) (Steps.refl _)) ?_
      show own_Fin _ _ _ _ (T69.setTop (mkF m 76 #[.val (.int p1), .val (.int p2), .val (.int p3), .val (.int p4), .val (.int v4_63), .val (.int pz61), .val (.int v6_62)] [(.int (1 : Int32))]))
      refine own_go (XS.goto X69.here hx rfl (pc0 := 76) (pc' := 80) rfl (hb hby at_76) (by decide) (by decide) (Steps.refl _)) ?_
      show own_Fin _ _ _ _ (T69.setTop (mkF m 80 #[.val (.int p1), .val (.int p2), .val (.int p3), .val (.int p4), .val (.int v4_63), .val (.int pz61), .val (.int v6_62)] [(.int (1 : Int32))]))
      obtain ⟨fs70, hr70, hrun70, hended70, hW70, hsame70⟩ := X69.leave (v := some (.int (1 : Int32))) (fun h => by rw [Bd.returns] at h; cases h)
      refine own_done (retN X69 hx (t := .boolean) Bd.returns (by simp) (hb hby at_80) hr70) hrun70 hended70 ⟨_, _, rfl, ?_, ⟨_, rfl⟩, hW70, hsame70.mono (by decide) (by decide)⟩
      show Q0 Z p1 p2 p3 p4 h0 n0 _ T69.heap _
      rw [e69]
      exact ⟨rfl, N69⟩
set_option maxRecDepth 65536 in
set_option maxHeartbeats 40000000 in
theorem comes_1 {Post : Tables → Env → Array Value → State → Outcome → State → Prop} (hpost : ∀ tb e args s v u, (limb_1_1.after args s (.returned v) u = true ∧ limb_1_2.after args s (.returned v) u = true ∧ True) → FrameEnd s (.returned v) u (Jvm.fieldLocs frame_1_writes args s ++ Jvm.arrayLocs frame_1_arrays args s ++ Jvm.staticLocs frame_1_statics s) 0 0 → Post tb e args s (.returned v) u) :
    ArmFor flags0 classFile x code maxLocals ret World_1 tables_1 room_1 Calls_1 rest_1 Pre_1 Post := by
  intro l hfl _ _ p e ha hc hk s m args below hf hA hF happ hP
  obtain ⟨hcalls, hrest, hpre⟩ := hP
  obtain ⟨-, -, -, hnamed, -, -, -, hat⟩ := (Spec.applies_iff hf).mp happ
  obtain ⟨hg, hn⟩ := and_e (Cond.before_iff.mp (show (Jvm.Cond.and given_1 narrow_1).before args s = true from hpre))
  obtain ⟨gg1, gg2⟩ := and_e hg
  obtain ⟨gg3, gg4⟩ := and_e gg2
  obtain ⟨gg5, gg6⟩ := and_e gg4
  obtain ⟨gg7, gg8⟩ := and_e gg6
  obtain ⟨w0, w1, w2, w3, rfl⟩ : ∃ w0 w1 w2 w3 : Value, args = #[w0, w1, w2, w3] := by
    have hs : args.size = 4 := by simpa [Cond.value, given_1] using gg1
    obtain ⟨L⟩ := args
    match L, hs with
    | [w0, w1, w2, w3], _ => exact ⟨w0, w1, w2, w3, rfl⟩
  have hw := fun d (hd : d ∈ tables_1) => atoms_spec (ws := Jvm.Cond.code x code maxLocals ret :: tables_1) hat d (List.mem_cons_of_mem _ hd)
  obtain ⟨i0, ei0⟩ := is_v gg3
  obtain rfl : w0 = (.int i0) := Option.some.inj ei0
  obtain ⟨i1, ei1⟩ := is_v gg5
  obtain rfl : w1 = (.int i1) := Option.some.inj ei1
  obtain ⟨i2, ei2⟩ := is_v gg7
  obtain rfl : w2 = (.int i2) := Option.some.inj ei2
  obtain ⟨i3, ei3⟩ := is_v gg8
  obtain rfl : w3 = (.int i3) := Option.some.inj ei3
  obtain ⟨n, o, h1, h2, h3, _, L, rfl, ⟨rfl, N⟩, hq⟩ := rm0 l s _ hw tables_1 i0 i1 i2 i3  s.heap s.heap.size (Nat.le_refl _)  p e ha hc hk s m _ below hf ((Spec.applies_iff_loose hf).mp happ).1 ⟨rfl, State.Warmed39.refl s, rfl⟩ trivial
  refine ⟨n, _, h1, h2, h3, hpost _ _ _ _ _ _ ⟨Cond.after_iff.mpr rfl, Cond.after_iff.mpr (eq_i res_at (Term.int_eval (1)) rfl), trivial⟩ ⟨hq.1, hq.2.1, (hq.2.2.sift fun y hy => Or.inr (N y hy)).mono (by decide) (by decide)⟩⟩
theorem main_1_1 : Claimed_1_1 := comes_1 fun _ _ _ _ _ _ h hF => ⟨h.1, hF⟩
theorem main_1_2 : Claimed_1_2 := comes_1 fun _ _ _ _ _ _ h hF => ⟨h.2.1, hF⟩
end Jvm.Pilot.@@N@@
namespace Jvm.Pilot.@@N@@
open Jvm Jvm.ClassFile Sem Op Lib Jvm.Free Jvm.Stand Jvm.Pilot.@@N@@.Jvm.D
/-! MADE BY PROGRAM (witnessworld.py) out of the Statement's table words and the real class files: 9 classes; the members and pool entries that the words name. The judged class is class 1, her method 3. -/
namespace start1
open Jvm.ClassFile
def u (s : String) : CpInfo := .utf8 (stringToUtf16 s)
/-- a pool by its gaps: so many unusable entries, then the entry; so many at the end -/
def gap : Nat → List CpInfo → List CpInfo
  | 0, r => r
  | n + 1, r => .unusable :: gap n r
def poolList (es : List (Nat × CpInfo)) (last : Nat) : List CpInfo := es.foldr (fun e r => gap e.1 (e.2 :: r)) (gap last [])
def pool (es : List (Nat × CpInfo)) (last : Nat) : Array CpInfo := ⟨poolList es last⟩
def fileOf (pool : Array CpInfo) (this : Nat) (attrs : Array Attribute := #[]) (ms : Array MethodInfo := #[]) (fl : Nat := 33) (sup : Nat := 0) (ifs : Array Nat := #[]) (fds : Array FieldInfo := #[]) : ClassFile where
  minorVersion := 0
  majorVersion := 65
  constantPool := pool
  accessFlags := fl
  thisClass := this
  superClass := sup
  interfaces := ifs
  fields := fds
  methods := ms
  attributes := attrs
def plain (name : String) (sup : Option ClassId) : Class where
  name := name
  kind := .ordinary
  loader := none
  accessFlags := 33
  super := sup
  interfaces := #[]
  cf := none
  fields := #[]
  methods := #[]
  instanceTypes := #[]
  staticTypes := #[]
  resolved := #[]
  callSites := []
  init := .initialized
  statics := none
  mirror := none

def pool0 : Array CpInfo := pool [(5, u "<init>"), (0, u "()V"), (1, .class_ 10), (1, u "java/lang/Object")] 113

def k0m0 : Method := { name := "<init>", desc := "()V", sig := { parameters := [], returnType := none }, accessFlags := 1, code := none }
/-- java/lang/Object -/
def k0 : Class := { plain "java/lang/Object" none with
  accessFlags := 33
  interfaces := #[]
  cf := some (fileOf pool0 8 #[] #[{ accessFlags := 1, nameIndex := 5, descriptorIndex := 6, attributes := #[] }] 33 0 #[] #[])
  fields := #[]
  methods := #[k0m0]
  instanceTypes := #[]
  staticTypes := #[]
  resolved := Array.replicate 124 none
  statics := none }

def pool1 : Array CpInfo := pool [(2, .class_ 4), (1, u "java/lang/Object"), (0, u "<init>"), (0, u "()V"), (0, .integer 100000), (0, .integer 1000000), (0, .integer 10000000), (0, .integer 100000000), (0, .integer 1000000000), (0, .integer 2147483647), (0, .methodref 14 15), (0, .class_ 16), (0, .nameAndType 17 18), (0, u "com/example/pricefence/pricefence/ranges/PriceBoundsDecimalsPinLaw"), (0, u "pow10"), (0, u "(I)I"), (0, .methodref 20 21), (0, .class_ 22), (0, .nameAndType 23 18), (0, u "com/example/pricefence/pricefence/ranges/PriceBounds"), (0, u "decimals"), (0, .methodref 14 25), (0, .nameAndType 26 18), (0, u "expected"), (3, u "law"), (0, u "(IIII)Z")] 2

def k1m0 : Method := { name := "<init>", desc := "()V", sig := { parameters := [], returnType := none }, accessFlags := 2, code := none }
def k1c1 : Code := { maxStack := 2, maxLocals := 1, code := method_2_code, exceptionTable := #[], attributes := #[] }
def k1m1 : Method := { name := "expected", desc := "(I)I", sig := { parameters := [.int], returnType := some .int }, accessFlags := 10, code := some k1c1 }
def k1c2 : Code := { maxStack := 2, maxLocals := 1, code := method_3_code, exceptionTable := #[], attributes := #[] }
def k1m2 : Method := { name := "pow10", desc := "(I)I", sig := { parameters := [.int], returnType := some .int }, accessFlags := 10, code := some k1c2 }
def k1c3 : Code := { maxStack := 2, maxLocals := 7, code := code, exceptionTable := #[], attributes := #[] }
def k1m3 : Method := { name := "law", desc := "(IIII)Z", sig := { parameters := [.int, .int, .int, .int], returnType := some .boolean }, accessFlags := 9, code := some k1c3 }
/-- com/example/pricefence/pricefence/ranges/PriceBoundsDecimalsPinLaw -/
def k1 : Class := { plain "com/example/pricefence/pricefence/ranges/PriceBoundsDecimalsPinLaw" (some 0) with
  accessFlags := 49
  interfaces := #[]
  cf := some (fileOf pool1 14 #[] #[{ accessFlags := 2, nameIndex := 5, descriptorIndex := 6, attributes := #[] }, { accessFlags := 10, nameIndex := 26, descriptorIndex := 18, attributes := #[] }, { accessFlags := 10, nameIndex := 17, descriptorIndex := 18, attributes := #[] }, { accessFlags := 9, nameIndex := 30, descriptorIndex := 31, attributes := #[] }] 49 2 #[] #[])
  fields := #[]
  methods := #[k1m0, k1m1, k1m2, k1m3]
  instanceTypes := #[]
  staticTypes := #[]
  resolved := Array.replicate 34 none
  statics := none }

def pool2 : Array CpInfo := pool [(2, .class_ 4), (1, u "java/lang/Object"), (0, u "<init>"), (0, u "()V"), (9, .long 10), (13, .class_ 31), (0, u "com/example/pricefence/pricefence/ranges/PriceBounds"), (2, u "decimals"), (0, u "(I)I")] 20

def k2m0 : Method := { name := "<init>", desc := "()V", sig := { parameters := [], returnType := none }, accessFlags := 2, code := none }
def k2c1 : Code := { maxStack := 4, maxLocals := 4, code := prog_37_method_2_code, exceptionTable := #[], attributes := #[] }
def k2m1 : Method := { name := "decimals", desc := "(I)I", sig := { parameters := [.int], returnType := some .int }, accessFlags := 9, code := some k2c1 }
/-- com/example/pricefence/pricefence/ranges/PriceBounds -/
def k2 : Class := { plain "com/example/pricefence/pricefence/ranges/PriceBounds" (some 0) with
  accessFlags := 49
  interfaces := #[]
  cf := some (fileOf pool2 30 #[] #[{ accessFlags := 2, nameIndex := 5, descriptorIndex := 6, attributes := #[] }, { accessFlags := 9, nameIndex := 34, descriptorIndex := 35, attributes := #[] }] 49 2 #[] #[])
  fields := #[]
  methods := #[k2m0, k2m1]
  instanceTypes := #[]
  staticTypes := #[]
  resolved := Array.replicate 56 none
  statics := none }

def pool3 : Array CpInfo := pool [(1, u "java/lang/Cloneable"), (0, .class_ 1), (0, u "java/lang/Object"), (0, .class_ 3)] 3

/-- java/lang/Cloneable -/
def k3 : Class := { plain "java/lang/Cloneable" (some 0) with
  accessFlags := 1537
  interfaces := #[]
  cf := some (fileOf pool3 2 #[] #[] 1537 4 #[] #[])
  fields := #[]
  methods := #[]
  instanceTypes := #[]
  staticTypes := #[]
  resolved := Array.replicate 8 none
  statics := none }

def pool4 : Array CpInfo := pool [(1, u "java/io/Serializable"), (0, .class_ 1), (0, u "java/lang/Object"), (0, .class_ 3)] 3

/-- java/io/Serializable -/
def k4 : Class := { plain "java/io/Serializable" (some 0) with
  accessFlags := 1537
  interfaces := #[]
  cf := some (fileOf pool4 2 #[] #[] 1537 4 #[] #[])
  fields := #[]
  methods := #[]
  instanceTypes := #[]
  staticTypes := #[]
  resolved := Array.replicate 8 none
  statics := none }

/-- the primitive byte -/
def k5 : Class := { plain "byte" none with kind := .primitive 'B', accessFlags := 0x411 }
/-- [B -/
def k6 : Class := { plain "[B" (some 0) with kind := .array 5 .byte, interfaces := #[3, 4], accessFlags := 1041 }

/-- the primitive int -/
def k7 : Class := { plain "int" none with kind := .primitive 'I', accessFlags := 0x411 }
/-- [I -/
def k8 : Class := { plain "[I" (some 0) with kind := .array 7 .int, interfaces := #[3, 4], accessFlags := 1041 }

def heap : Heap := #[]
def classes : Array Class := #[k0, k1, k2, k3, k4, k5, k6, k7, k8]
def interned : List (Array UInt16 × Addr) := []
def slotsUsed : Nat := 0
def theMethod : MethodId := ⟨1, 3⟩
def args0 : Array Value := #[.int 5, .int 1, .int 2, .int 3]
def aboutOver (below : List Frame) : State where
  vm := { classes := classes, interned := interned.toArray }
  heap := heap
  slotsUsed := slotsUsed
  threads := #[{ frames := .invoking theMethod args0 :: below }]
def below0 : List Frame := [.native { method := ⟨0, 0⟩, args := #[] }]
def about1 : State := aboutOver below0
def p0 : Program := .bare "" "" ""
def e0 : Env := launch0.env 0 0 0
theorem w_frames : about1.frames = Frame.invoking theMethod args0 :: below0 := rfl
set_option maxRecDepth 65536 in
theorem w_args : argsFit about1.vm theMethod args0 = true := by decide +kernel
set_option maxRecDepth 65536 in
theorem w_heap : heapFits about1 = true := by decide +kernel
set_option maxRecDepth 65536 in
theorem w_runnable : about1.curStatus? = some .runnable := by decide +kernel
set_option maxRecDepth 65536 in
theorem w_alone : about1.alone = true := by decide +kernel
set_option maxRecDepth 65536 in
theorem w_named : about1.methodNamed? x = some theMethod := by decide +kernel
set_option maxRecDepth 65536 in
theorem w_hears : about1.hears theMethod below0 = true := by decide +kernel
set_option maxRecDepth 65536 in
theorem w_ripe : about1.ripe theMethod args0 below0 = true := by decide +kernel
theorem w_running : about1.status = .running := rfl
set_option maxRecDepth 65536 in
theorem w_room : about1.hasRoom e0.platform room_1 = true :=
  launch0.hasRoom_least _ room_1 (by decide +kernel) (by decide +kernel) (by decide +kernel) (by decide +kernel) (by decide +kernel) (by decide +kernel)
theorem allAtoms_all (ts : List Jvm.Cond) (a : Array Jvm.Value) (st : Jvm.State) : (allAtoms ts).before a st = ts.all (fun c => c.before a st) := by
  induction ts with
  | nil => rfl
  | cons c t ih =>
    show (Jvm.Cond.and c (allAtoms t)).before a st = _
    rw [Jvm.Cond.before_and, ih, List.all_cons]
def words1 : List Jvm.Cond := Jvm.Cond.code x code maxLocals ret :: tables_1
/-- a 'code' word, met by the world's own term for the bytes: nothing is compared byte by byte -/
theorem code_word {y : MethodName} {bytes : ByteArray} {mx : Nat} {rt : Option FieldType} {a : Array Value} {s : State} {m : MethodId} {meth : Method} {c : Code} (h1 : s.methodNamed? y = some m) (h2 : s.vm.method? m = some meth) (h3 : meth.code = some c) (h4 : c.code = bytes)
    (h5 : (c.maxLocals == mx && c.exceptionTable.isEmpty && decide (c.maxStack ≤ mostOperands) && decide (meth.sig.returnType = rt) && !meth.locks && decide (parseMethodDescriptor y.desc = some meth.sig)) = true) : (Jvm.Cond.code y bytes mx rt).before a s = true := by
  simp only [Bool.and_eq_true, beq_iff_eq, Bool.not_eq_true', decide_eq_true_eq] at h5
  obtain ⟨⟨⟨⟨⟨g1, g2⟩, g3⟩, g4⟩, g5⟩, g6⟩ := h5
  simp [Cond.before, Cond.holds, Cond.value, h1, h2, h3, h4, g1, g2, g3, g4, g5, g6]
def isCode : Jvm.Cond → Bool
  | .code _ _ _ _ => true
  | _ => false
theorem all_split {L : List Jvm.Cond} {P : Jvm.Cond → Bool} (h1 : L.all (fun c => isCode c || P c) = true) (h2 : ∀ c ∈ L.filter isCode, P c = true) : L.all P = true := by
  refine List.all_eq_true.mpr fun c hc => ?_
  have h := List.all_eq_true.mp h1 c hc
  rcases Bool.eq_false_or_eq_true (isCode c) with hi | hi
  · exact h2 c (List.mem_filter.mpr ⟨hc, hi⟩)
  · simpa [hi] using h
set_option maxRecDepth 65536 in
theorem w_c0 : (Jvm.Cond.code x code maxLocals ret).before args0 about1 = true := code_word (m := ⟨1, 3⟩) (meth := k1m3) (c := k1c3) (by decide +kernel) rfl rfl rfl (by decide +kernel)
set_option maxRecDepth 65536 in
theorem w_c1 : (Jvm.Cond.code ({ cls := "com/example/pricefence/pricefence/ranges/PriceBoundsDecimalsPinLaw", name := "pow10", desc := "(I)I" } : Jvm.MethodName) method_3_code (1 : Nat) (Option.some Jvm.ClassFile.FieldType.int)).before args0 about1 = true := code_word (m := ⟨1, 2⟩) (meth := k1m2) (c := k1c2) (by decide +kernel) rfl rfl rfl (by decide +kernel)
set_option maxRecDepth 65536 in
theorem w_c2 : (Jvm.Cond.code ({ cls := "com/example/pricefence/pricefence/ranges/PriceBounds", name := "decimals", desc := "(I)I" } : Jvm.MethodName) prog_37_method_2_code (4 : Nat) (Option.some Jvm.ClassFile.FieldType.int)).before args0 about1 = true := code_word (m := ⟨2, 1⟩) (meth := k2m1) (c := k2c1) (by decide +kernel) rfl rfl rfl (by decide +kernel)
set_option maxRecDepth 65536 in
theorem w_c3 : (Jvm.Cond.code ({ cls := "com/example/pricefence/pricefence/ranges/PriceBoundsDecimalsPinLaw", name := "expected", desc := "(I)I" } : Jvm.MethodName) method_2_code (1 : Nat) (Option.some Jvm.ClassFile.FieldType.int)).before args0 about1 = true := code_word (m := ⟨1, 1⟩) (meth := k1m1) (c := k1c1) (by decide +kernel) rfl rfl rfl (by decide +kernel)
def codes1 : List Jvm.Cond := [Jvm.Cond.code x code maxLocals ret, Jvm.Cond.code ({ cls := "com/example/pricefence/pricefence/ranges/PriceBoundsDecimalsPinLaw", name := "pow10", desc := "(I)I" } : Jvm.MethodName) method_3_code (1 : Nat) (Option.some Jvm.ClassFile.FieldType.int), Jvm.Cond.code ({ cls := "com/example/pricefence/pricefence/ranges/PriceBounds", name := "decimals", desc := "(I)I" } : Jvm.MethodName) prog_37_method_2_code (4 : Nat) (Option.some Jvm.ClassFile.FieldType.int), Jvm.Cond.code ({ cls := "com/example/pricefence/pricefence/ranges/PriceBoundsDecimalsPinLaw", name := "expected", desc := "(I)I" } : Jvm.MethodName) method_2_code (1 : Nat) (Option.some Jvm.ClassFile.FieldType.int)]
set_option maxRecDepth 65536 in
theorem codes_eq : words1.filter isCode = codes1 := rfl
theorem w_codes : ∀ c ∈ words1.filter isCode, c.before args0 about1 = true := by
  rw [codes_eq]
  intro c hc
  simp only [codes1, List.mem_cons, List.not_mem_nil, or_false] at hc
  rcases hc with rfl | rfl | rfl | rfl
  · exact w_c0
  · exact w_c1
  · exact w_c2
  · exact w_c3
set_option maxRecDepth 65536 in
theorem w_t1 : words1.all (fun c => isCode c || c.before args0 about1) = true := by decide +kernel
theorem w_tables : (allAtoms (Jvm.Cond.code x code maxLocals ret :: tables_1)).before args0 about1 = true := by
  rw [allAtoms_all]
  show words1.all (fun c => c.before args0 about1) = true
  refine all_split ?_ w_codes
  rw [w_t1]
set_option maxRecDepth 65536 in
theorem w_case : (Jvm.Cond.and given_1 narrow_1).before args0 about1 = true := by decide +kernel
theorem w_applies : (headSpec (Jvm.Cond.code x code maxLocals ret :: tables_1) room_1).applies x e0.platform about1 = true :=
  (Spec.applies_iff w_frames).mpr ⟨w_running, w_runnable, w_alone, w_named, w_hears, w_ripe, w_room, w_tables⟩
theorem atStart : AtStart classFile x code maxLocals ret World_1 tables_1 room_1 Calls_1 rest_1 Pre_1 launch0 p0 e0 about1 theMethod args0 below0 :=
  ⟨lists_1, trivial, launch0.admits_env _ _ _, launch0.least_env, fairChoices_fair.cas, fairChoices_fair.clock, w_frames, w_args, w_heap, w_applies, trivial, trivial, w_case⟩
end start1
theorem witness_1 : WitnessClaimed_1 := ⟨start1.p0, start1.e0, start1.about1, start1.theMethod, start1.args0, start1.below0, start1.atStart⟩
end Jvm.Pilot.@@N@@
