import JvmDerived
import JvmDerived.Pilot.@@N@@Statement
import JvmDerived.Pilot.@@N@@Code
set_option linter.unusedVariables false
set_option linter.unusedSimpArgs false
namespace Jvm.Pilot.@@N@@
open Jvm Jvm.ClassFile Sem Op Lib Jvm.Free Jvm.Stand Jvm.LawKit Jvm.RoadKit Bundle Jvm.Pilot.@@N@@.Jvm.D
/-- the run from S ends as G says -/
def own_Fin (p : Program) (e : Env) (below : List Frame) (G : Outcome → State → Prop) (S : State) : Prop :=
  ∃ t o, Steps p.tables e below S t ∧ t.status = .running ∧ Ended t below o ∧ G o t
theorem own_go {p : Program} {e : Env} {below : List Frame} {G : Outcome → State → Prop} {S S' : State} (h : Steps p.tables e below S S') (k : own_Fin p e below G S') : own_Fin p e below G S := by
  obtain ⟨t, o, h1, h2, h3, h4⟩ := k
  exact ⟨t, o, h.trans h1, h2, h3, h4⟩
theorem own_by {p : Program} {e : Env} {below : List Frame} {G : Outcome → State → Prop} {S S' : State} (h : ∀ t, Steps p.tables e below S' t → Steps p.tables e below S t) (k : own_Fin p e below G S') : own_Fin p e below G S := by
  obtain ⟨t, o, h1, h2, h3, h4⟩ := k
  exact ⟨t, o, h t h1, h2, h3, h4⟩
theorem own_done {p : Program} {e : Env} {below : List Frame} {G : Outcome → State → Prop} {S t : State} {o : Outcome} (h1 : Steps p.tables e below S t) (h2 : t.status = .running) (h3 : Ended t below o) (h4 : G o t) : own_Fin p e below G S := ⟨t, o, h1, h2, h3, h4⟩
def own_get (rs : List Int32) (j : Int32) : Int32 := rs.getD j.toNatClampNeg 0
theorem own_getD (rs : List Int32) (j : Int32) : (rs.map Value.int).getD j.toNatClampNeg (.int (0 : Int32)) = .int (own_get rs j) := by
  unfold own_get
  rw [List.getD_eq_getElem?_getD, List.getD_eq_getElem?_getD, List.getElem?_map]
  cases rs[j.toNatClampNeg]? <;> rfl
theorem own_retI {p : Program} {l : Launch} {e : Env} {R : Room} {s : State} {m : MethodId} {args : Array Value} {below : List Frame} {meth : Method} {c : Code} {T : State} {locs : List Loc} {cells slots : Nat} (X : Stand p l e R s m args below meth c T locs cells slots) (hx : p.tables.exec = Jvm.exec) {pc : Nat} {Ls : Array Slot} {z : Int32} {rest : List Value} (hret : meth.sig.returnType = some .int) (hd : decode c.code pc = .ok (.ireturn, 1)) {fs : List Frame}
    (hl : ∀ (f : JFrame) (acts : List Action), f.method = m → f.locked = none → f.entered = [] → (doReturn e (T.setTop f) acts (some (.int z))).1 = T.setFrames fs) : Steps p.tables e below (T.setTop (mkF m pc Ls (.int z :: rest))) (T.setFrames fs) :=
  retOut X hx hret rfl (Or.inl ⟨rfl, Or.inl rfl, z, rfl⟩) hd hl
def own_nt (c y : Int64) : Int64 := y * ((2 : Int64) - (c * y))
def own_inv (c : Int64) : Int64 := own_nt c (own_nt c (own_nt c (own_nt c (own_nt c c))))
def own_ush (x : Int64) (k : Int32) : Int64 := ((x.toUInt64 >>> (k &&& 0x3f).toInt64.toUInt64).toInt64)
def own_mix (v : Int64) : Int64 :=
  own_x ((own_x ((own_x v 30) * (-4658895280553007687 : Int64)) 27) * (-7723592293110705685 : Int64)) 31
where own_x (z : Int64) (k : Int32) : Int64 := z ^^^ own_ush z k
theorem own_bv (w : BitVec 64) (a : Nat) (h : 64 ≤ a + a + a) : (w ^^^ (w >>> a)) ^^^ ((w ^^^ (w >>> a)) >>> a) ^^^ ((w ^^^ (w >>> a)) >>> (a + a)) = w := by
  have h3 : w >>> (a + a + a) = 0#64 := by
    apply BitVec.eq_of_toNat_eq
    rw [BitVec.toNat_ushiftRight, Nat.shiftRight_eq_div_pow]
    have h1 : w.toNat < 2 ^ (a + a + a) := Nat.lt_of_lt_of_le w.isLt (Nat.pow_le_pow_right (by decide) h)
    simpa using Nat.div_eq_of_lt h1
  rw [BitVec.ushiftRight_xor_distrib, BitVec.ushiftRight_xor_distrib, ← BitVec.shiftRight_add, ← BitVec.shiftRight_add]
  have h4 : w >>> (a + (a + a)) = 0#64 := by rw [← Nat.add_assoc]; exact h3
  rw [h4, BitVec.xor_zero]
  generalize w >>> a = p
  generalize w >>> (a + a) = q
  have : w ^^^ p ^^^ (p ^^^ q) ^^^ q = w ^^^ (p ^^^ p) ^^^ (q ^^^ q) := by ac_rfl
  rw [this, BitVec.xor_self, BitVec.xor_self, BitVec.xor_zero, BitVec.xor_zero]
theorem own_ushB (x : Int64) (k : Int32) (n : Nat) (h : ((k &&& 0x3f).toInt64.toUInt64.toBitVec % 64#64).toNat = n) : (own_ush x k).toBitVec = x.toBitVec >>> n := by
  subst h; rfl
theorem own_un (w : Int64) (k k2 : Int32) (n : Nat) (h : ((k &&& 0x3f).toInt64.toUInt64.toBitVec % 64#64).toNat = n) (h2 : ((k2 &&& 0x3f).toInt64.toUInt64.toBitVec % 64#64).toNat = n + n) (h3 : 64 ≤ n + n + n) :
    (own_mix.own_x w k) ^^^ own_ush (own_mix.own_x w k) k ^^^ own_ush (own_mix.own_x w k) k2 = w := by
  apply Int64.toBitVec_inj.mp
  rw [Int64.toBitVec_xor, Int64.toBitVec_xor, own_ushB _ k n h, own_ushB _ k2 (n + n) h2]
  have e : (own_mix.own_x w k).toBitVec = w.toBitVec ^^^ (w.toBitVec >>> n) := by
    show (w ^^^ own_ush w k).toBitVec = _
    rw [Int64.toBitVec_xor, own_ushB _ k n h]
  rw [e]; exact own_bv _ n h3
theorem own_main (v : Int64) : (fun (m : Int64) => (fun (z1 : Int64) => (fun (z2 : Int64) => (z2 * own_inv (-4658895280553007687 : Int64)) ^^^ own_ush (z2 * own_inv (-4658895280553007687 : Int64)) 30 ^^^ own_ush (z2 * own_inv (-4658895280553007687 : Int64)) 60)
    ((z1 * own_inv (-7723592293110705685 : Int64)) ^^^ own_ush (z1 * own_inv (-7723592293110705685 : Int64)) 27 ^^^ own_ush (z1 * own_inv (-7723592293110705685 : Int64)) 54))
    (m ^^^ own_ush m 31 ^^^ own_ush m 62)) (own_mix v) = v := by
  have i1 : (-4658895280553007687 : Int64) * own_inv (-4658895280553007687 : Int64) = 1 := by decide +kernel
  have i2 : (-7723592293110705685 : Int64) * own_inv (-7723592293110705685 : Int64) = 1 := by decide +kernel
  show (fun (z1 : Int64) => _) (own_mix v ^^^ own_ush (own_mix v) 31 ^^^ own_ush (own_mix v) 62) = v
  have e1 : own_mix v ^^^ own_ush (own_mix v) 31 ^^^ own_ush (own_mix v) 62 = (own_mix.own_x ((own_mix.own_x v 30) * (-4658895280553007687 : Int64)) 27) * (-7723592293110705685 : Int64) := own_un _ 31 62 31 (by decide +kernel) (by decide +kernel) (by decide)
  rw [e1]
  show (fun (z2 : Int64) => _) _ = v
  rw [Int64.mul_assoc, i2, Int64.mul_one]
  rw [own_un _ 27 54 27 (by decide +kernel) (by decide +kernel) (by decide)]
  show _ ^^^ _ ^^^ _ = v
  rw [Int64.mul_assoc, i1, Int64.mul_one]
  exact own_un _ 30 60 30 (by decide +kernel) (by decide +kernel) (by decide)
theorem d1_0 : decode method_2_code 0 = .ok (.lload_n 0, 1) := by decide +kernel
theorem d1_1 : decode method_2_code 1 = .ok (.lstore_n 2, 1) := by decide +kernel
theorem d1_2 : decode method_2_code 2 = .ok (.lload_n 2, 1) := by decide +kernel
theorem d1_3 : decode method_2_code 3 = .ok (.ldc2_w 7, 3) := by decide +kernel
theorem d1_6 : decode method_2_code 6 = .ok (.lload_n 0, 1) := by decide +kernel
theorem d1_7 : decode method_2_code 7 = .ok (.lload_n 2, 1) := by decide +kernel
theorem d1_8 : decode method_2_code 8 = .ok (.lmul, 1) := by decide +kernel
theorem d1_9 : decode method_2_code 9 = .ok (.lsub, 1) := by decide +kernel
theorem d1_10 : decode method_2_code 10 = .ok (.lmul, 1) := by decide +kernel
theorem d1_11 : decode method_2_code 11 = .ok (.lstore_n 2, 1) := by decide +kernel
theorem d1_12 : decode method_2_code 12 = .ok (.lload_n 2, 1) := by decide +kernel
theorem d1_13 : decode method_2_code 13 = .ok (.ldc2_w 7, 3) := by decide +kernel
theorem d1_16 : decode method_2_code 16 = .ok (.lload_n 0, 1) := by decide +kernel
theorem d1_17 : decode method_2_code 17 = .ok (.lload_n 2, 1) := by decide +kernel
theorem d1_18 : decode method_2_code 18 = .ok (.lmul, 1) := by decide +kernel
theorem d1_19 : decode method_2_code 19 = .ok (.lsub, 1) := by decide +kernel
theorem d1_20 : decode method_2_code 20 = .ok (.lmul, 1) := by decide +kernel
theorem d1_21 : decode method_2_code 21 = .ok (.lstore_n 2, 1) := by decide +kernel
theorem d1_22 : decode method_2_code 22 = .ok (.lload_n 2, 1) := by decide +kernel
theorem d1_23 : decode method_2_code 23 = .ok (.ldc2_w 7, 3) := by decide +kernel
theorem d1_26 : decode method_2_code 26 = .ok (.lload_n 0, 1) := by decide +kernel
theorem d1_27 : decode method_2_code 27 = .ok (.lload_n 2, 1) := by decide +kernel
theorem d1_28 : decode method_2_code 28 = .ok (.lmul, 1) := by decide +kernel
theorem d1_29 : decode method_2_code 29 = .ok (.lsub, 1) := by decide +kernel
theorem d1_30 : decode method_2_code 30 = .ok (.lmul, 1) := by decide +kernel
theorem d1_31 : decode method_2_code 31 = .ok (.lstore_n 2, 1) := by decide +kernel
theorem d1_32 : decode method_2_code 32 = .ok (.lload_n 2, 1) := by decide +kernel
theorem d1_33 : decode method_2_code 33 = .ok (.ldc2_w 7, 3) := by decide +kernel
theorem d1_36 : decode method_2_code 36 = .ok (.lload_n 0, 1) := by decide +kernel
theorem d1_37 : decode method_2_code 37 = .ok (.lload_n 2, 1) := by decide +kernel
theorem d1_38 : decode method_2_code 38 = .ok (.lmul, 1) := by decide +kernel
theorem d1_39 : decode method_2_code 39 = .ok (.lsub, 1) := by decide +kernel
theorem d1_40 : decode method_2_code 40 = .ok (.lmul, 1) := by decide +kernel
theorem d1_41 : decode method_2_code 41 = .ok (.lstore_n 2, 1) := by decide +kernel
theorem d1_42 : decode method_2_code 42 = .ok (.lload_n 2, 1) := by decide +kernel
theorem d1_43 : decode method_2_code 43 = .ok (.ldc2_w 7, 3) := by decide +kernel
theorem d1_46 : decode method_2_code 46 = .ok (.lload_n 0, 1) := by decide +kernel
theorem d1_47 : decode method_2_code 47 = .ok (.lload_n 2, 1) := by decide +kernel
theorem d1_48 : decode method_2_code 48 = .ok (.lmul, 1) := by decide +kernel
theorem d1_49 : decode method_2_code 49 = .ok (.lsub, 1) := by decide +kernel
theorem d1_50 : decode method_2_code 50 = .ok (.lmul, 1) := by decide +kernel
theorem d1_51 : decode method_2_code 51 = .ok (.lstore_n 2, 1) := by decide +kernel
theorem d1_52 : decode method_2_code 52 = .ok (.lload_n 2, 1) := by decide +kernel
theorem d1_53 : decode method_2_code 53 = .ok (.lreturn, 1) := by decide +kernel
theorem pn_com_example_tidewalk_tidewalk_problems_RandomStreamMix64PinLaw : plainName "com/example/tidewalk/tidewalk/problems/RandomStreamMix64PinLaw" = true := by first | (simp [plainName, overriddenIn]; done) | decide +kernel
theorem ef_1 (m : MethodId) (x0 : Int64) : entryFrame m #[(.long x0)] 4 = mkF m 0 #[.val (.long x0), .second, .unset, .unset] [] := by first | (simp [entryFrame, mkF, argsToLocals, Value.category]; done) | rfl
def Q1 (Z : State) (q1 : Int64) (h0 : Heap) (n0 : Nat) (v : Option Value) (h : Heap) (L : List Loc) : Prop := v = some (.long (own_inv q1)) ∧ Fr n0 L ∧ h = h0
abbrev G1 (Z : State) (q1 : Int64) (h0 : Heap) (n0 : Nat) (s : State) : Outcome → State → Prop := fun o U' => ∃ v L, o = .returned v ∧ Q1 Z q1 h0 n0 v U'.heap L ∧ FrameEnd s o U' L ({ frames := 0, cells := 0, slots := 0, locals := 0 } : Room).cells ({ frames := 0, cells := 0, slots := 0, locals := 0 } : Room).slots
set_option maxRecDepth 65536 in
set_option maxHeartbeats 40000000 in
theorem rm1 (l : Launch) (Z : State) (a0 : Array Value) (hw : ∀ d ∈ tables_1, d.before a0 Z = true) (ws : List Jvm.Cond) (q1 : Int64) (h0 : Heap) (n0 : Nat) (Z0 : n0 ≤ h0.size)  :
    MetFree l (⟨"com/example/tidewalk/tidewalk/problems/RandomStreamMix64PinLaw", "inverseOdd", "(J)J"⟩ : MethodName) (head1 (Jvm.Cond.code (⟨"com/example/tidewalk/tidewalk/problems/RandomStreamMix64PinLaw", "inverseOdd", "(J)J"⟩ : MethodName) method_2_code 4 (some .long) :: ws) ({ frames := 0, cells := 0, slots := 0, locals := 0 } : Room)) (fun a U => a = #[(.long q1)] ∧ Z.Warmed39 U.vm ∧ U.heap = h0) (fun _ _ _ _ _ => True) (fun _ U o U' => ∃ v L, o = .returned v ∧ Q1 Z q1 h0 n0 v U'.heap L ∧ FrameEnd U o U' L ({ frames := 0, cells := 0, slots := 0, locals := 0 } : Room).cells ({ frames := 0, cells := 0, slots := 0, locals := 0 } : Room).slots) := by
  refine MetFree.of_bodySF (plainFor_of_name pn_com_example_tidewalk_tidewalk_problems_RandomStreamMix64PinLaw) hisR ?_
  intro p e s m args below meth c s₁ Bd hml0 hP hK
  obtain ⟨rfl, hZ, hh⟩ := hP
  have hx := Bd.exec
  have hby := Bd.bytes
  have hml : c.maxLocals = 4 := hml0
  have hown : s.vm.findClass "com/example/tidewalk/tidewalk/problems/RandomStreamMix64PinLaw" = some m.cls := findClass_of_methodNamed Bd.named
  have hnm := (name_of_methodNamed Bd.named Bd.method).1
  have X0 : Stand p l e ({ frames := 0, cells := 0, slots := 0, locals := 0 } : Room) s m #[(.long q1)] below meth c s₁ [] 0 0 := Stand.of_body Bd
  have e0 : s₁.heap = h0 := by rw [← hh, Bd.state]; rfl
  have es0 : s.heap = h0 := hh
  have N0 := Fr.nil n0
  show own_Fin p e below (G1 Z q1 h0 n0 s) (s₁.setTop (entryFrame m #[(.long q1)] 4))
  rw [ef_1 m q1]
  refine own_go (XS.lloadN X0.here hx rfl (hb hby d1_0) rfl (Steps.refl _)) ?_
  show own_Fin _ _ _ _ (s₁.setTop (mkF m 1 #[.val (.long q1), .second, .unset, .unset] [(.long q1)]))
  refine own_go (XS.lstoreN X0.here hx rfl (hb hby d1_1) rfl (l' := #[.val (.long q1), .second, .val (.long q1), .second]) rfl (Steps.refl _)) ?_
  show own_Fin _ _ _ _ (s₁.setTop (mkF m 2 #[.val (.long q1), .second, .val (.long q1), .second] []))
  refine own_go (XS.lloadN X0.here hx rfl (hb hby d1_2) rfl (Steps.refl _)) ?_
  show own_Fin _ _ _ _ (s₁.setTop (mkF m 3 #[.val (.long q1), .second, .val (.long q1), .second] [(.long q1)]))
  refine own_by (X0.ldc2Long hx hown (mvT hZ (hw _ (List.mem_of_getElem? (i := 6) rfl))) (g := (mkF m 3 #[.val (.long q1), .second, .val (.long q1), .second] [(.long q1)])) rfl (hb hby d1_3)) ?_
  show own_Fin _ _ _ _ (s₁.setTop (mkF m 6 #[.val (.long q1), .second, .val (.long q1), .second] [(.long (2 : Int64)), (.long q1)]))
  refine own_go (XS.lloadN X0.here hx rfl (hb hby d1_6) rfl (Steps.refl _)) ?_
  show own_Fin _ _ _ _ (s₁.setTop (mkF m 7 #[.val (.long q1), .second, .val (.long q1), .second] [(.long q1), (.long (2 : Int64)), (.long q1)]))
  refine own_go (XS.lloadN X0.here hx rfl (hb hby d1_7) rfl (Steps.refl _)) ?_
  show own_Fin _ _ _ _ (s₁.setTop (mkF m 8 #[.val (.long q1), .second, .val (.long q1), .second] [(.long q1), (.long q1), (.long (2 : Int64)), (.long q1)]))
  refine own_go (XS.lmul X0.here hx rfl (hb hby d1_8) rfl (Steps.refl _)) ?_
  show own_Fin _ _ _ _ (s₁.setTop (mkF m 9 #[.val (.long q1), .second, .val (.long q1), .second] [(.long (q1 * q1)), (.long (2 : Int64)), (.long q1)]))
  refine own_go (XS.lsub X0.here hx rfl (hb hby d1_9) rfl (Steps.refl _)) ?_
  show own_Fin _ _ _ _ (s₁.setTop (mkF m 10 #[.val (.long q1), .second, .val (.long q1), .second] [(.long ((2 : Int64) - (q1 * q1))), (.long q1)]))
  refine own_go (XS.lmul X0.here hx rfl (hb hby d1_10) rfl (Steps.refl _)) ?_
  show own_Fin _ _ _ _ (s₁.setTop (mkF m 11 #[.val (.long q1), .second, .val (.long q1), .second] [(.long (q1 * ((2 : Int64) - (q1 * q1))))]))
  refine own_go (XS.lstoreN X0.here hx rfl (hb hby d1_11) rfl (l' := #[.val (.long q1), .second, .val (.long (q1 * ((2 : Int64) - (q1 * q1)))), .second]) rfl (Steps.refl _)) ?_
  show own_Fin _ _ _ _ (s₁.setTop (mkF m 12 #[.val (.long q1), .second, .val (.long (q1 * ((2 : Int64) - (q1 * q1)))), .second] []))
  generalize hz_v2_1 : (q1 * ((2 : Int64) - (q1 * q1))) = v2_1
  refine own_go (XS.lloadN X0.here hx rfl (hb hby d1_12) rfl (Steps.refl _)) ?_
  show own_Fin _ _ _ _ (s₁.setTop (mkF m 13 #[.val (.long q1), .second, .val (.long v2_1), .second] [(.long v2_1)]))
  refine own_by (X0.ldc2Long hx hown (mvT hZ (hw _ (List.mem_of_getElem? (i := 6) rfl))) (g := (mkF m 13 #[.val (.long q1), .second, .val (.long v2_1), .second] [(.long v2_1)])) rfl (hb hby d1_13)) ?_
  show own_Fin _ _ _ _ (s₁.setTop (mkF m 16 #[.val (.long q1), .second, .val (.long v2_1), .second] [(.long (2 : Int64)), (.long v2_1)]))
  refine own_go (XS.lloadN X0.here hx rfl (hb hby d1_16) rfl (Steps.refl _)) ?_
  show own_Fin _ _ _ _ (s₁.setTop (mkF m 17 #[.val (.long q1), .second, .val (.long v2_1), .second] [(.long q1), (.long (2 : Int64)), (.long v2_1)]))
  refine own_go (XS.lloadN X0.here hx rfl (hb hby d1_17) rfl (Steps.refl _)) ?_
  show own_Fin _ _ _ _ (s₁.setTop (mkF m 18 #[.val (.long q1), .second, .val (.long v2_1), .second] [(.long v2_1), (.long q1), (.long (2 : Int64)), (.long v2_1)]))
  refine own_go (XS.lmul X0.here hx rfl (hb hby d1_18) rfl (Steps.refl _)) ?_
  show own_Fin _ _ _ _ (s₁.setTop (mkF m 19 #[.val (.long q1), .second, .val (.long v2_1), .second] [(.long (q1 * v2_1)), (.long (2 : Int64)), (.long v2_1)]))
  refine own_go (XS.lsub X0.here hx rfl (hb hby d1_19) rfl (Steps.refl _)) ?_
  show own_Fin _ _ _ _ (s₁.setTop (mkF m 20 #[.val (.long q1), .second, .val (.long v2_1), .second] [(.long ((2 : Int64) - (q1 * v2_1))), (.long v2_1)]))
  refine own_go (XS.lmul X0.here hx rfl (hb hby d1_20) rfl (Steps.refl _)) ?_
  show own_Fin _ _ _ _ (s₁.setTop (mkF m 21 #[.val (.long q1), .second, .val (.long v2_1), .second] [(.long (v2_1 * ((2 : Int64) - (q1 * v2_1))))]))
  refine own_go (XS.lstoreN X0.here hx rfl (hb hby d1_21) rfl (l' := #[.val (.long q1), .second, .val (.long (v2_1 * ((2 : Int64) - (q1 * v2_1)))), .second]) rfl (Steps.refl _)) ?_
  show own_Fin _ _ _ _ (s₁.setTop (mkF m 22 #[.val (.long q1), .second, .val (.long (v2_1 * ((2 : Int64) - (q1 * v2_1)))), .second] []))
  generalize hz_v2_2 : (v2_1 * ((2 : Int64) - (q1 * v2_1))) = v2_2
  refine own_go (XS.lloadN X0.here hx rfl (hb hby d1_22) rfl (Steps.refl _)) ?_
  show own_Fin _ _ _ _ (s₁.setTop (mkF m 23 #[.val (.long q1), .second, .val (.long v2_2), .second] [(.long v2_2)]))
  refine own_by (X0.ldc2Long hx hown (mvT hZ (hw _ (List.mem_of_getElem? (i := 6) rfl))) (g := (mkF m 23 #[.val (.long q1), .second, .val (.long v2_2), .second] [(.long v2_2)])) rfl (hb hby d1_23)) ?_
  show own_Fin _ _ _ _ (s₁.setTop (mkF m 26 #[.val (.long q1), .second, .val (.long v2_2), .second] [(.long (2 : Int64)), (.long v2_2)]))
  refine own_go (XS.lloadN X0.here hx rfl (hb hby d1_26) rfl (Steps.refl _)) ?_
  show own_Fin _ _ _ _ (s₁.setTop (mkF m 27 #[.val (.long q1), .second, .val (.long v2_2), .second] [(.long q1), (.long (2 : Int64)), (.long v2_2)]))
  refine own_go (XS.lloadN X0.here hx rfl (hb hby d1_27) rfl (Steps.refl _)) ?_
  show own_Fin _ _ _ _ (s₁.setTop (mkF m 28 #[.val (.long q1), .second, .val (.long v2_2), .second] [(.long v2_2), (.long q1), (.long (2 : Int64)), (.long v2_2)]))
  refine own_go (XS.lmul X0.here hx rfl (hb hby d1_28) rfl (Steps.refl _)) ?_
  show own_Fin _ _ _ _ (s₁.setTop (mkF m 29 #[.val (.long q1), .second, .val (.long v2_2), .second] [(.long (q1 * v2_2)), (.long (2 : Int64)), (.long v2_2)]))
  refine own_go (XS.lsub X0.here hx rfl (hb hby d1_29) rfl (Steps.refl _)) ?_
  show own_Fin _ _ _ _ (s₁.setTop (mkF m 30 #[.val (.long q1), .second, .val (.long v2_2), .second] [(.long ((2 : Int64) - (q1 * v2_2))), (.long v2_2)]))
  refine own_go (XS.lmul X0.here hx rfl (hb hby d1_30) rfl (Steps.refl _)) ?_
  show own_Fin _ _ _ _ (s₁.setTop (mkF m 31 #[.val (.long q1), .second, .val (.long v2_2), .second] [(.long (v2_2 * ((2 : Int64) - (q1 * v2_2))))]))
  refine own_go (XS.lstoreN X0.here hx rfl (hb hby d1_31) rfl (l' := #[.val (.long q1), .second, .val (.long (v2_2 * ((2 : Int64) - (q1 * v2_2)))), .second]) rfl (Steps.refl _)) ?_
  show own_Fin _ _ _ _ (s₁.setTop (mkF m 32 #[.val (.long q1), .second, .val (.long (v2_2 * ((2 : Int64) - (q1 * v2_2)))), .second] []))
  generalize hz_v2_3 : (v2_2 * ((2 : Int64) - (q1 * v2_2))) = v2_3
  refine own_go (XS.lloadN X0.here hx rfl (hb hby d1_32) rfl (Steps.refl _)) ?_
  show own_Fin _ _ _ _ (s₁.setTop (mkF m 33 #[.val (.long q1), .second, .val (.long v2_3), .second] [(.long v2_3)]))
  refine own_by (X0.ldc2Long hx hown (mvT hZ (hw _ (List.mem_of_getElem? (i := 6) rfl))) (g := (mkF m 33 #[.val (.long q1), .second, .val (.long v2_3), .second] [(.long v2_3)])) rfl (hb hby d1_33)) ?_
  show own_Fin _ _ _ _ (s₁.setTop (mkF m 36 #[.val (.long q1), .second, .val (.long v2_3), .second] [(.long (2 : Int64)), (.long v2_3)]))
  refine own_go (XS.lloadN X0.here hx rfl (hb hby d1_36) rfl (Steps.refl _)) ?_
  show own_Fin _ _ _ _ (s₁.setTop (mkF m 37 #[.val (.long q1), .second, .val (.long v2_3), .second] [(.long q1), (.long (2 : Int64)), (.long v2_3)]))
  refine own_go (XS.lloadN X0.here hx rfl (hb hby d1_37) rfl (Steps.refl _)) ?_
  show own_Fin _ _ _ _ (s₁.setTop (mkF m 38 #[.val (.long q1), .second, .val (.long v2_3), .second] [(.long v2_3), (.long q1), (.long (2 : Int64)), (.long v2_3)]))
  refine own_go (XS.lmul X0.here hx rfl (hb hby d1_38) rfl (Steps.refl _)) ?_
  show own_Fin _ _ _ _ (s₁.setTop (mkF m 39 #[.val (.long q1), .second, .val (.long v2_3), .second] [(.long (q1 * v2_3)), (.long (2 : Int64)), (.long v2_3)]))
  refine own_go (XS.lsub X0.here hx rfl (hb hby d1_39) rfl (Steps.refl _)) ?_
  show own_Fin _ _ _ _ (s₁.setTop (mkF m 40 #[.val (.long q1), .second, .val (.long v2_3), .second] [(.long ((2 : Int64) - (q1 * v2_3))), (.long v2_3)]))
  refine own_go (XS.lmul X0.here hx rfl (hb hby d1_40) rfl (Steps.refl _)) ?_
  show own_Fin _ _ _ _ (s₁.setTop (mkF m 41 #[.val (.long q1), .second, .val (.long v2_3), .second] [(.long (v2_3 * ((2 : Int64) - (q1 * v2_3))))]))
  refine own_go (XS.lstoreN X0.here hx rfl (hb hby d1_41) rfl (l' := #[.val (.long q1), .second, .val (.long (v2_3 * ((2 : Int64) - (q1 * v2_3)))), .second]) rfl (Steps.refl _)) ?_
  show own_Fin _ _ _ _ (s₁.setTop (mkF m 42 #[.val (.long q1), .second, .val (.long (v2_3 * ((2 : Int64) - (q1 * v2_3)))), .second] []))
  generalize hz_v2_4 : (v2_3 * ((2 : Int64) - (q1 * v2_3))) = v2_4
  refine own_go (XS.lloadN X0.here hx rfl (hb hby d1_42) rfl (Steps.refl _)) ?_
  show own_Fin _ _ _ _ (s₁.setTop (mkF m 43 #[.val (.long q1), .second, .val (.long v2_4), .second] [(.long v2_4)]))
  refine own_by (X0.ldc2Long hx hown (mvT hZ (hw _ (List.mem_of_getElem? (i := 6) rfl))) (g := (mkF m 43 #[.val (.long q1), .second, .val (.long v2_4), .second] [(.long v2_4)])) rfl (hb hby d1_43)) ?_
  show own_Fin _ _ _ _ (s₁.setTop (mkF m 46 #[.val (.long q1), .second, .val (.long v2_4), .second] [(.long (2 : Int64)), (.long v2_4)]))
  refine own_go (XS.lloadN X0.here hx rfl (hb hby d1_46) rfl (Steps.refl _)) ?_
  show own_Fin _ _ _ _ (s₁.setTop (mkF m 47 #[.val (.long q1), .second, .val (.long v2_4), .second] [(.long q1), (.long (2 : Int64)), (.long v2_4)]))
  refine own_go (XS.lloadN X0.here hx rfl (hb hby d1_47) rfl (Steps.refl _)) ?_
  show own_Fin _ _ _ _ (s₁.setTop (mkF m 48 #[.val (.long q1), .second, .val (.long v2_4), .second] [(.long v2_4), (.long q1), (.long (2 : Int64)), (.long v2_4)]))
  refine own_go (XS.lmul X0.here hx rfl (hb hby d1_48) rfl (Steps.refl _)) ?_
  show own_Fin _ _ _ _ (s₁.setTop (mkF m 49 #[.val (.long q1), .second, .val (.long v2_4), .second] [(.long (q1 * v2_4)), (.long (2 : Int64)), (.long v2_4)]))
  refine own_go (XS.lsub X0.here hx rfl (hb hby d1_49) rfl (Steps.refl _)) ?_
  show own_Fin _ _ _ _ (s₁.setTop (mkF m 50 #[.val (.long q1), .second, .val (.long v2_4), .second] [(.long ((2 : Int64) - (q1 * v2_4))), (.long v2_4)]))
  refine own_go (XS.lmul X0.here hx rfl (hb hby d1_50) rfl (Steps.refl _)) ?_
  show own_Fin _ _ _ _ (s₁.setTop (mkF m 51 #[.val (.long q1), .second, .val (.long v2_4), .second] [(.long (v2_4 * ((2 : Int64) - (q1 * v2_4))))]))
  refine own_go (XS.lstoreN X0.here hx rfl (hb hby d1_51) rfl (l' := #[.val (.long q1), .second, .val (.long (v2_4 * ((2 : Int64) - (q1 * v2_4)))), .second]) rfl (Steps.refl _)) ?_
  show own_Fin _ _ _ _ (s₁.setTop (mkF m 52 #[.val (.long q1), .second, .val (.long (v2_4 * ((2 : Int64) - (q1 * v2_4)))), .second] []))
  generalize hz_v2_5 : (v2_4 * ((2 : Int64) - (q1 * v2_4))) = v2_5
  refine own_go (XS.lloadN X0.here hx rfl (hb hby d1_52) rfl (Steps.refl _)) ?_
  show own_Fin _ _ _ _ (s₁.setTop (mkF m 53 #[.val (.long q1), .second, .val (.long v2_5), .second] [(.long v2_5)]))
  obtain ⟨fs6, hr6, hrun6, hended6, hW6, hsame6⟩ := X0.leave (v := some (.long v2_5)) (fun h => by rw [Bd.returns] at h; cases h)
  refine own_done (retOut X0 hx Bd.returns rfl (Or.inr (Or.inl ⟨rfl, rfl, _, rfl⟩)) (hb hby d1_53) hr6) hrun6 hended6 ⟨_, _, rfl, ?_, ⟨_, rfl⟩, hW6, hsame6.mono (by decide) (by decide)⟩
  show Q1 Z q1 h0 n0 _ s₁.heap _
  rw [e0]
  exact ⟨by subst_vars; rfl, N0, rfl⟩
theorem d2_0 : decode prog_40_method_7_code 0 = .ok (.lload_n 0, 1) := by decide +kernel
theorem d2_1 : decode prog_40_method_7_code 1 = .ok (.lstore_n 2, 1) := by decide +kernel
theorem d2_2 : decode prog_40_method_7_code 2 = .ok (.lload_n 2, 1) := by decide +kernel
theorem d2_3 : decode prog_40_method_7_code 3 = .ok (.lload_n 2, 1) := by decide +kernel
theorem d2_4 : decode prog_40_method_7_code 4 = .ok (.bipush 30, 2) := by decide +kernel
theorem d2_6 : decode prog_40_method_7_code 6 = .ok (.lushr, 1) := by decide +kernel
theorem d2_7 : decode prog_40_method_7_code 7 = .ok (.lxor, 1) := by decide +kernel
theorem d2_8 : decode prog_40_method_7_code 8 = .ok (.ldc2_w 62, 3) := by decide +kernel
theorem d2_11 : decode prog_40_method_7_code 11 = .ok (.lmul, 1) := by decide +kernel
theorem d2_12 : decode prog_40_method_7_code 12 = .ok (.lstore_n 2, 1) := by decide +kernel
theorem d2_13 : decode prog_40_method_7_code 13 = .ok (.lload_n 2, 1) := by decide +kernel
theorem d2_14 : decode prog_40_method_7_code 14 = .ok (.lload_n 2, 1) := by decide +kernel
theorem d2_15 : decode prog_40_method_7_code 15 = .ok (.bipush 27, 2) := by decide +kernel
theorem d2_17 : decode prog_40_method_7_code 17 = .ok (.lushr, 1) := by decide +kernel
theorem d2_18 : decode prog_40_method_7_code 18 = .ok (.lxor, 1) := by decide +kernel
theorem d2_19 : decode prog_40_method_7_code 19 = .ok (.ldc2_w 64, 3) := by decide +kernel
theorem d2_22 : decode prog_40_method_7_code 22 = .ok (.lmul, 1) := by decide +kernel
theorem d2_23 : decode prog_40_method_7_code 23 = .ok (.lstore_n 2, 1) := by decide +kernel
theorem d2_24 : decode prog_40_method_7_code 24 = .ok (.lload_n 2, 1) := by decide +kernel
theorem d2_25 : decode prog_40_method_7_code 25 = .ok (.lload_n 2, 1) := by decide +kernel
theorem d2_26 : decode prog_40_method_7_code 26 = .ok (.bipush 31, 2) := by decide +kernel
theorem d2_28 : decode prog_40_method_7_code 28 = .ok (.lushr, 1) := by decide +kernel
theorem d2_29 : decode prog_40_method_7_code 29 = .ok (.lxor, 1) := by decide +kernel
theorem d2_30 : decode prog_40_method_7_code 30 = .ok (.lreturn, 1) := by decide +kernel
theorem pn_com_example_tidewalk_tidewalk_problems_RandomStream : plainName "com/example/tidewalk/tidewalk/problems/RandomStream" = true := by first | (simp [plainName, overriddenIn]; done) | decide +kernel
theorem ef_2 (m : MethodId) (x0 : Int64) : entryFrame m #[(.long x0)] 4 = mkF m 0 #[.val (.long x0), .second, .unset, .unset] [] := by first | (simp [entryFrame, mkF, argsToLocals, Value.category]; done) | rfl
def Q2 (Z : State) (q1 : Int64) (h0 : Heap) (n0 : Nat) (v : Option Value) (h : Heap) (L : List Loc) : Prop := v = some (.long (own_mix q1)) ∧ Fr n0 L ∧ h = h0
abbrev G2 (Z : State) (q1 : Int64) (h0 : Heap) (n0 : Nat) (s : State) : Outcome → State → Prop := fun o U' => ∃ v L, o = .returned v ∧ Q2 Z q1 h0 n0 v U'.heap L ∧ FrameEnd s o U' L ({ frames := 0, cells := 0, slots := 0, locals := 0 } : Room).cells ({ frames := 0, cells := 0, slots := 0, locals := 0 } : Room).slots
set_option maxRecDepth 65536 in
set_option maxHeartbeats 40000000 in
theorem rm2 (l : Launch) (Z : State) (a0 : Array Value) (hw : ∀ d ∈ tables_1, d.before a0 Z = true) (ws : List Jvm.Cond) (q1 : Int64) (h0 : Heap) (n0 : Nat) (Z0 : n0 ≤ h0.size)  :
    MetFree l (⟨"com/example/tidewalk/tidewalk/problems/RandomStream", "mix64", "(J)J"⟩ : MethodName) (head1 (Jvm.Cond.code (⟨"com/example/tidewalk/tidewalk/problems/RandomStream", "mix64", "(J)J"⟩ : MethodName) prog_40_method_7_code 4 (some .long) :: ws) ({ frames := 0, cells := 0, slots := 0, locals := 0 } : Room)) (fun a U => a = #[(.long q1)] ∧ Z.Warmed39 U.vm ∧ U.heap = h0) (fun _ _ _ _ _ => True) (fun _ U o U' => ∃ v L, o = .returned v ∧ Q2 Z q1 h0 n0 v U'.heap L ∧ FrameEnd U o U' L ({ frames := 0, cells := 0, slots := 0, locals := 0 } : Room).cells ({ frames := 0, cells := 0, slots := 0, locals := 0 } : Room).slots) := by
  refine MetFree.of_bodySF (plainFor_of_name pn_com_example_tidewalk_tidewalk_problems_RandomStream) hisR ?_
  intro p e s m args below meth c s₁ Bd hml0 hP hK
  obtain ⟨rfl, hZ, hh⟩ := hP
  have hx := Bd.exec
  have hby := Bd.bytes
  have hml : c.maxLocals = 4 := hml0
  have hown : s.vm.findClass "com/example/tidewalk/tidewalk/problems/RandomStream" = some m.cls := findClass_of_methodNamed Bd.named
  have hnm := (name_of_methodNamed Bd.named Bd.method).1
  have X0 : Stand p l e ({ frames := 0, cells := 0, slots := 0, locals := 0 } : Room) s m #[(.long q1)] below meth c s₁ [] 0 0 := Stand.of_body Bd
  have e0 : s₁.heap = h0 := by rw [← hh, Bd.state]; rfl
  have es0 : s.heap = h0 := hh
  have N0 := Fr.nil n0
  show own_Fin p e below (G2 Z q1 h0 n0 s) (s₁.setTop (entryFrame m #[(.long q1)] 4))
  rw [ef_2 m q1]
  refine own_go (XS.lloadN X0.here hx rfl (hb hby d2_0) rfl (Steps.refl _)) ?_
  show own_Fin _ _ _ _ (s₁.setTop (mkF m 1 #[.val (.long q1), .second, .unset, .unset] [(.long q1)]))
  refine own_go (XS.lstoreN X0.here hx rfl (hb hby d2_1) rfl (l' := #[.val (.long q1), .second, .val (.long q1), .second]) rfl (Steps.refl _)) ?_
  show own_Fin _ _ _ _ (s₁.setTop (mkF m 2 #[.val (.long q1), .second, .val (.long q1), .second] []))
  refine own_go (XS.lloadN X0.here hx rfl (hb hby d2_2) rfl (Steps.refl _)) ?_
  show own_Fin _ _ _ _ (s₁.setTop (mkF m 3 #[.val (.long q1), .second, .val (.long q1), .second] [(.long q1)]))
  refine own_go (XS.lloadN X0.here hx rfl (hb hby d2_3) rfl (Steps.refl _)) ?_
  show own_Fin _ _ _ _ (s₁.setTop (mkF m 4 #[.val (.long q1), .second, .val (.long q1), .second] [(.long q1), (.long q1)]))
  refine own_go (XS.bipush X0.here hx rfl (hb hby d2_4) (Steps.refl _)) ?_
  show own_Fin _ _ _ _ (s₁.setTop (mkF m 6 #[.val (.long q1), .second, .val (.long q1), .second] [(.int (30 : Int32)), (.long q1), (.long q1)]))
  refine own_go (XS.lushr X0.here hx rfl (hb hby d2_6) rfl (Steps.refl _)) ?_
  show own_Fin _ _ _ _ (s₁.setTop (mkF m 7 #[.val (.long q1), .second, .val (.long q1), .second] [(.long ((q1.toUInt64 >>> ((30 : Int32) &&& 0x3f).toInt64.toUInt64).toInt64)), (.long q1)]))
  refine own_go (XS.lxor X0.here hx rfl (hb hby d2_7) rfl (Steps.refl _)) ?_
  show own_Fin _ _ _ _ (s₁.setTop (mkF m 8 #[.val (.long q1), .second, .val (.long q1), .second] [(.long (q1 ^^^ ((q1.toUInt64 >>> ((30 : Int32) &&& 0x3f).toInt64.toUInt64).toInt64)))]))
  refine own_by (X0.ldc2Long hx hown (mvT hZ (hw _ (List.mem_of_getElem? (i := 11) rfl))) (g := (mkF m 8 #[.val (.long q1), .second, .val (.long q1), .second] [(.long (q1 ^^^ ((q1.toUInt64 >>> ((30 : Int32) &&& 0x3f).toInt64.toUInt64).toInt64)))])) rfl (hb hby d2_8)) ?_
  show own_Fin _ _ _ _ (s₁.setTop (mkF m 11 #[.val (.long q1), .second, .val (.long q1), .second] [(.long (-4658895280553007687 : Int64)), (.long (q1 ^^^ ((q1.toUInt64 >>> ((30 : Int32) &&& 0x3f).toInt64.toUInt64).toInt64)))]))
  refine own_go (XS.lmul X0.here hx rfl (hb hby d2_11) rfl (Steps.refl _)) ?_
  show own_Fin _ _ _ _ (s₁.setTop (mkF m 12 #[.val (.long q1), .second, .val (.long q1), .second] [(.long ((q1 ^^^ ((q1.toUInt64 >>> ((30 : Int32) &&& 0x3f).toInt64.toUInt64).toInt64)) * (-4658895280553007687 : Int64)))]))
  refine own_go (XS.lstoreN X0.here hx rfl (hb hby d2_12) rfl (l' := #[.val (.long q1), .second, .val (.long ((q1 ^^^ ((q1.toUInt64 >>> ((30 : Int32) &&& 0x3f).toInt64.toUInt64).toInt64)) * (-4658895280553007687 : Int64))), .second]) rfl (Steps.refl _)) ?_
  show own_Fin _ _ _ _ (s₁.setTop (mkF m 13 #[.val (.long q1), .second, .val (.long ((q1 ^^^ ((q1.toUInt64 >>> ((30 : Int32) &&& 0x3f).toInt64.toUInt64).toInt64)) * (-4658895280553007687 : Int64))), .second] []))
  generalize hz_v2_7 : ((q1 ^^^ ((q1.toUInt64 >>> ((30 : Int32) &&& 0x3f).toInt64.toUInt64).toInt64)) * (-4658895280553007687 : Int64)) = v2_7
  refine own_go (XS.lloadN X0.here hx rfl (hb hby d2_13) rfl (Steps.refl _)) ?_
  show own_Fin _ _ _ _ (s₁.setTop (mkF m 14 #[.val (.long q1), .second, .val (.long v2_7), .second] [(.long v2_7)]))
  refine own_go (XS.lloadN X0.here hx rfl (hb hby d2_14) rfl (Steps.refl _)) ?_
  show own_Fin _ _ _ _ (s₁.setTop (mkF m 15 #[.val (.long q1), .second, .val (.long v2_7), .second] [(.long v2_7), (.long v2_7)]))
  refine own_go (XS.bipush X0.here hx rfl (hb hby d2_15) (Steps.refl _)) ?_
  show own_Fin _ _ _ _ (s₁.setTop (mkF m 17 #[.val (.long q1), .second, .val (.long v2_7), .second] [(.int (27 : Int32)), (.long v2_7), (.long v2_7)]))
  refine own_go (XS.lushr X0.here hx rfl (hb hby d2_17) rfl (Steps.refl _)) ?_
  show own_Fin _ _ _ _ (s₁.setTop (mkF m 18 #[.val (.long q1), .second, .val (.long v2_7), .second] [(.long ((v2_7.toUInt64 >>> ((27 : Int32) &&& 0x3f).toInt64.toUInt64).toInt64)), (.long v2_7)]))
  refine own_go (XS.lxor X0.here hx rfl (hb hby d2_18) rfl (Steps.refl _)) ?_
  show own_Fin _ _ _ _ (s₁.setTop (mkF m 19 #[.val (.long q1), .second, .val (.long v2_7), .second] [(.long (v2_7 ^^^ ((v2_7.toUInt64 >>> ((27 : Int32) &&& 0x3f).toInt64.toUInt64).toInt64)))]))
  refine own_by (X0.ldc2Long hx hown (mvT hZ (hw _ (List.mem_of_getElem? (i := 12) rfl))) (g := (mkF m 19 #[.val (.long q1), .second, .val (.long v2_7), .second] [(.long (v2_7 ^^^ ((v2_7.toUInt64 >>> ((27 : Int32) &&& 0x3f).toInt64.toUInt64).toInt64)))])) rfl (hb hby d2_19)) ?_
  show own_Fin _ _ _ _ (s₁.setTop (mkF m 22 #[.val (.long q1), .second, .val (.long v2_7), .second] [(.long (-7723592293110705685 : Int64)), (.long (v2_7 ^^^ ((v2_7.toUInt64 >>> ((27 : Int32) &&& 0x3f).toInt64.toUInt64).toInt64)))]))
  refine own_go (XS.lmul X0.here hx rfl (hb hby d2_22) rfl (Steps.refl _)) ?_
  show own_Fin _ _ _ _ (s₁.setTop (mkF m 23 #[.val (.long q1), .second, .val (.long v2_7), .second] [(.long ((v2_7 ^^^ ((v2_7.toUInt64 >>> ((27 : Int32) &&& 0x3f).toInt64.toUInt64).toInt64)) * (-7723592293110705685 : Int64)))]))
  refine own_go (XS.lstoreN X0.here hx rfl (hb hby d2_23) rfl (l' := #[.val (.long q1), .second, .val (.long ((v2_7 ^^^ ((v2_7.toUInt64 >>> ((27 : Int32) &&& 0x3f).toInt64.toUInt64).toInt64)) * (-7723592293110705685 : Int64))), .second]) rfl (Steps.refl _)) ?_
  show own_Fin _ _ _ _ (s₁.setTop (mkF m 24 #[.val (.long q1), .second, .val (.long ((v2_7 ^^^ ((v2_7.toUInt64 >>> ((27 : Int32) &&& 0x3f).toInt64.toUInt64).toInt64)) * (-7723592293110705685 : Int64))), .second] []))
  generalize hz_v2_8 : ((v2_7 ^^^ ((v2_7.toUInt64 >>> ((27 : Int32) &&& 0x3f).toInt64.toUInt64).toInt64)) * (-7723592293110705685 : Int64)) = v2_8
  refine own_go (XS.lloadN X0.here hx rfl (hb hby d2_24) rfl (Steps.refl _)) ?_
  show own_Fin _ _ _ _ (s₁.setTop (mkF m 25 #[.val (.long q1), .second, .val (.long v2_8), .second] [(.long v2_8)]))
  refine own_go (XS.lloadN X0.here hx rfl (hb hby d2_25) rfl (Steps.refl _)) ?_
  show own_Fin _ _ _ _ (s₁.setTop (mkF m 26 #[.val (.long q1), .second, .val (.long v2_8), .second] [(.long v2_8), (.long v2_8)]))
  refine own_go (XS.bipush X0.here hx rfl (hb hby d2_26) (Steps.refl _)) ?_
  show own_Fin _ _ _ _ (s₁.setTop (mkF m 28 #[.val (.long q1), .second, .val (.long v2_8), .second] [(.int (31 : Int32)), (.long v2_8), (.long v2_8)]))
  refine own_go (XS.lushr X0.here hx rfl (hb hby d2_28) rfl (Steps.refl _)) ?_
  show own_Fin _ _ _ _ (s₁.setTop (mkF m 29 #[.val (.long q1), .second, .val (.long v2_8), .second] [(.long ((v2_8.toUInt64 >>> ((31 : Int32) &&& 0x3f).toInt64.toUInt64).toInt64)), (.long v2_8)]))
  refine own_go (XS.lxor X0.here hx rfl (hb hby d2_29) rfl (Steps.refl _)) ?_
  show own_Fin _ _ _ _ (s₁.setTop (mkF m 30 #[.val (.long q1), .second, .val (.long v2_8), .second] [(.long (v2_8 ^^^ ((v2_8.toUInt64 >>> ((31 : Int32) &&& 0x3f).toInt64.toUInt64).toInt64)))]))
  obtain ⟨fs9, hr9, hrun9, hended9, hW9, hsame9⟩ := X0.leave (v := some (.long (v2_8 ^^^ ((v2_8.toUInt64 >>> ((31 : Int32) &&& 0x3f).toInt64.toUInt64).toInt64)))) (fun h => by rw [Bd.returns] at h; cases h)
  refine own_done (retOut X0 hx Bd.returns rfl (Or.inr (Or.inl ⟨rfl, rfl, _, rfl⟩)) (hb hby d2_30) hr9) hrun9 hended9 ⟨_, _, rfl, ?_, ⟨_, rfl⟩, hW9, hsame9.mono (by decide) (by decide)⟩
  show Q2 Z q1 h0 n0 _ s₁.heap _
  rw [e0]
  exact ⟨by subst_vars; rfl, N0, rfl⟩
theorem ef_0 (m : MethodId) (x0 : Int64) : entryFrame m #[(.long x0)] maxLocals = mkF m 0 #[.val (.long x0), .second, .unset, .unset, .unset, .unset, .unset, .unset, .unset, .unset, .unset, .unset, .unset, .unset, .unset] [] := by first | (simp [entryFrame, mkF, argsToLocals, Value.category, maxLocals]; done) | rfl
def Q0 (Z : State) (q1 : Int64) (h0 : Heap) (n0 : Nat) (v : Option Value) (h : Heap) (L : List Loc) : Prop := v = some (.int 1) ∧ Fr n0 L
abbrev G0 (Z : State) (q1 : Int64) (h0 : Heap) (n0 : Nat) (s : State) : Outcome → State → Prop := fun o U' => ∃ v L, o = .returned v ∧ Q0 Z q1 h0 n0 v U'.heap L ∧ FrameEnd s o U' L 0 0
theorem pd__28_J_29_J : parseMethodDescriptor "(J)J" = some ⟨[.long], some .long⟩ := by decide +kernel
set_option maxRecDepth 65536 in
set_option maxHeartbeats 40000000 in
theorem rm0 (l : Launch) (Z : State) (a0 : Array Value) (hw : ∀ d ∈ tables_1, d.before a0 Z = true) (ws : List Jvm.Cond) (q1 : Int64) (h0 : Heap) (n0 : Nat) (Z0 : n0 ≤ h0.size)  :
    MetFree l x (head1 (Jvm.Cond.code x code maxLocals ret :: ws) room_1) (fun a U => a = #[(.long q1)] ∧ Z.Warmed39 U.vm ∧ U.heap = h0) (fun _ _ _ _ _ => True) (fun _ U o U' => ∃ v L, o = .returned v ∧ Q0 Z q1 h0 n0 v U'.heap L ∧ FrameEnd U o U' L 0 0) := by
  refine MetFree.of_bodySF (plainFor_of_name pn_com_example_tidewalk_tidewalk_problems_RandomStreamMix64PinLaw) hisR ?_
  intro p e s m args below meth c s₁ Bd hml0 hP hK
  obtain ⟨rfl, hZ, hh⟩ := hP
  have hx := Bd.exec
  have hby := Bd.bytes
  have hml : c.maxLocals = 15 := hml0
  have hown : s.vm.findClass "com/example/tidewalk/tidewalk/problems/RandomStreamMix64PinLaw" = some m.cls := findClass_of_methodNamed Bd.named
  have hnm := (name_of_methodNamed Bd.named Bd.method).1
  have X0 : Stand p l e room_1 s m #[(.long q1)] below meth c s₁ [] 0 0 := Stand.of_body Bd
  have e0 : s₁.heap = h0 := by rw [← hh, Bd.state]; rfl
  have es0 : s.heap = h0 := hh
  have N0 := Fr.nil n0
  show own_Fin p e below (G0 Z q1 h0 n0 s) (s₁.setTop (entryFrame m #[(.long q1)] maxLocals))
  rw [ef_0 m q1]
  refine own_by (X0.ldc2Long hx hown (mvT hZ (hw _ (List.mem_of_getElem? (i := 0) rfl))) (g := (mkF m 0 #[.val (.long q1), .second, .unset, .unset, .unset, .unset, .unset, .unset, .unset, .unset, .unset, .unset, .unset, .unset, .unset] [])) rfl (hb hby at_0)) ?_
  show own_Fin _ _ _ _ (s₁.setTop (mkF m 3 #[.val (.long q1), .second, .unset, .unset, .unset, .unset, .unset, .unset, .unset, .unset, .unset, .unset, .unset, .unset, .unset] [(.long (-4658895280553007687 : Int64))]))
  refine own_go (XS.lstoreN X0.here hx rfl (hb hby at_3) rfl (l' := #[.val (.long q1), .second, .val (.long (-4658895280553007687 : Int64)), .second, .unset, .unset, .unset, .unset, .unset, .unset, .unset, .unset, .unset, .unset, .unset]) rfl (Steps.refl _)) ?_
  show own_Fin _ _ _ _ (s₁.setTop (mkF m 4 #[.val (.long q1), .second, .val (.long (-4658895280553007687 : Int64)), .second, .unset, .unset, .unset, .unset, .unset, .unset, .unset, .unset, .unset, .unset, .unset] []))
  refine own_by (X0.ldc2Long hx hown (mvT hZ (hw _ (List.mem_of_getElem? (i := 1) rfl))) (g := (mkF m 4 #[.val (.long q1), .second, .val (.long (-4658895280553007687 : Int64)), .second, .unset, .unset, .unset, .unset, .unset, .unset, .unset, .unset, .unset, .unset, .unset] [])) rfl (hb hby at_4)) ?_
  show own_Fin _ _ _ _ (s₁.setTop (mkF m 7 #[.val (.long q1), .second, .val (.long (-4658895280553007687 : Int64)), .second, .unset, .unset, .unset, .unset, .unset, .unset, .unset, .unset, .unset, .unset, .unset] [(.long (-7723592293110705685 : Int64))]))
  refine own_go (XS.lstore X0.here hx rfl (hb hby at_7) rfl (l' := #[.val (.long q1), .second, .val (.long (-4658895280553007687 : Int64)), .second, .val (.long (-7723592293110705685 : Int64)), .second, .unset, .unset, .unset, .unset, .unset, .unset, .unset, .unset, .unset]) rfl (Steps.refl _)) ?_
  show own_Fin _ _ _ _ (s₁.setTop (mkF m 9 #[.val (.long q1), .second, .val (.long (-4658895280553007687 : Int64)), .second, .val (.long (-7723592293110705685 : Int64)), .second, .unset, .unset, .unset, .unset, .unset, .unset, .unset, .unset, .unset] []))
  refine own_go (XS.lloadN X0.here hx rfl (hb hby at_9) rfl (Steps.refl _)) ?_
  show own_Fin _ _ _ _ (s₁.setTop (mkF m 10 #[.val (.long q1), .second, .val (.long (-4658895280553007687 : Int64)), .second, .val (.long (-7723592293110705685 : Int64)), .second, .unset, .unset, .unset, .unset, .unset, .unset, .unset, .unset, .unset] [(.long (-4658895280553007687 : Int64))]))
  obtain ⟨_, _, ⟨T10, L10, k10, n10⟩, -, X10, ⟨Lc10, hQ10, l10, y10, z10⟩, st10⟩ := Jvm.LawKit.callS X0 hx (y := (⟨"com/example/tidewalk/tidewalk/problems/RandomStreamMix64PinLaw", "inverseOdd", "(J)J"⟩ : MethodName)) hown (mvT hZ (hw _ (List.mem_of_getElem? (i := 2) rfl))) (mvT hZ (hw _ (List.mem_of_getElem? (i := 3) rfl))) (mvT hZ (hw _ (List.mem_of_getElem? (i := 4) rfl))) (mvT hZ (hw _ (List.mem_of_getElem? (i := 5) rfl))) (by decide) (backOf (W := 0) (rm1 l Z a0 hw [] (-4658895280553007687 : Int64) h0 n0 Z0) hZ (hw _ (List.mem_of_getElem? (i := 5) rfl)) (hw _ (List.mem_of_getElem? (i := 4) rfl)) (by decide) (by decide)) (g := (mkF m 10 #[.val (.long q1), .second, .val (.long (-4658895280553007687 : Int64)), .second, .val (.long (-7723592293110705685 : Int64)), .second, .unset, .unset, .unset, .unset, .unset, .unset, .unset, .unset, .unset] [(.long (-4658895280553007687 : Int64))])) rfl (by rw [hml]; rfl) (argsL := [(.long (-4658895280553007687 : Int64))]) (rest := []) (lenOf pd__28_J_29_J rfl) rfl (by show 2 * 0 + _ ≤ _; exact Nat.le_of_eq rfl) (hb hby at_10) (fun _ _ => ⟨rfl, e0, (by decide : 0 + 0 ≤ _), (by decide : 0 + 0 ≤ _)⟩)
  dsimp only [Pt.U, Pt.locs, Pt.cells, Pt.slots] at X10 l10 y10 z10 st10 hQ10
  subst l10 y10 z10
  obtain ⟨rfl, Nq10, e10⟩ := hQ10
  refine own_by st10 ?_
  have N10 := Fr.app N0 Nq10
  show own_Fin _ _ _ _ (T10.setTop (mkF m 13 #[.val (.long q1), .second, .val (.long (-4658895280553007687 : Int64)), .second, .val (.long (-7723592293110705685 : Int64)), .second, .unset, .unset, .unset, .unset, .unset, .unset, .unset, .unset, .unset] [(.long (own_inv (-4658895280553007687 : Int64)))]))
  refine own_go (XS.lstore X10.here hx rfl (hb hby at_13) rfl (l' := #[.val (.long q1), .second, .val (.long (-4658895280553007687 : Int64)), .second, .val (.long (-7723592293110705685 : Int64)), .second, .val (.long (own_inv (-4658895280553007687 : Int64))), .second, .unset, .unset, .unset, .unset, .unset, .unset, .unset]) rfl (Steps.refl _)) ?_
  show own_Fin _ _ _ _ (T10.setTop (mkF m 15 #[.val (.long q1), .second, .val (.long (-4658895280553007687 : Int64)), .second, .val (.long (-7723592293110705685 : Int64)), .second, .val (.long (own_inv (-4658895280553007687 : Int64))), .second, .unset, .unset, .unset, .unset, .unset, .unset, .unset] []))
  generalize hz_v6_11 : (own_inv (-4658895280553007687 : Int64)) = v6_11
  refine own_go (XS.lload X10.here hx rfl (hb hby at_15) rfl (Steps.refl _)) ?_
  show own_Fin _ _ _ _ (T10.setTop (mkF m 17 #[.val (.long q1), .second, .val (.long (-4658895280553007687 : Int64)), .second, .val (.long (-7723592293110705685 : Int64)), .second, .val (.long v6_11), .second, .unset, .unset, .unset, .unset, .unset, .unset, .unset] [(.long (-7723592293110705685 : Int64))]))
  obtain ⟨_, _, ⟨T12, L12, k12, n12⟩, -, X12, ⟨Lc12, hQ12, l12, y12, z12⟩, st12⟩ := Jvm.LawKit.callS X10 hx (y := (⟨"com/example/tidewalk/tidewalk/problems/RandomStreamMix64PinLaw", "inverseOdd", "(J)J"⟩ : MethodName)) hown (mvT hZ (hw _ (List.mem_of_getElem? (i := 2) rfl))) (mvT hZ (hw _ (List.mem_of_getElem? (i := 3) rfl))) (mvT hZ (hw _ (List.mem_of_getElem? (i := 4) rfl))) (mvT hZ (hw _ (List.mem_of_getElem? (i := 5) rfl))) (by decide) (backOf (W := 0) (rm1 l Z a0 hw [] (-7723592293110705685 : Int64) h0 n0 Z0) hZ (hw _ (List.mem_of_getElem? (i := 5) rfl)) (hw _ (List.mem_of_getElem? (i := 4) rfl)) (by decide) (by decide)) (g := (mkF m 17 #[.val (.long q1), .second, .val (.long (-4658895280553007687 : Int64)), .second, .val (.long (-7723592293110705685 : Int64)), .second, .val (.long v6_11), .second, .unset, .unset, .unset, .unset, .unset, .unset, .unset] [(.long (-7723592293110705685 : Int64))])) rfl (by rw [hml]; rfl) (argsL := [(.long (-7723592293110705685 : Int64))]) (rest := []) (lenOf pd__28_J_29_J rfl) rfl (by show 2 * 0 + _ ≤ _; exact Nat.le_of_eq rfl) (hb hby at_17) (fun _ _ => ⟨rfl, e10, (by decide : 0 + 0 ≤ _), (by decide : 0 + 0 ≤ _)⟩)
  dsimp only [Pt.U, Pt.locs, Pt.cells, Pt.slots] at X12 l12 y12 z12 st12 hQ12
  subst l12 y12 z12
  obtain ⟨rfl, Nq12, e12⟩ := hQ12
  refine own_by st12 ?_
  have N12 := Fr.app N10 Nq12
  show own_Fin _ _ _ _ (T12.setTop (mkF m 20 #[.val (.long q1), .second, .val (.long (-4658895280553007687 : Int64)), .second, .val (.long (-7723592293110705685 : Int64)), .second, .val (.long v6_11), .second, .unset, .unset, .unset, .unset, .unset, .unset, .unset] [(.long (own_inv (-7723592293110705685 : Int64)))]))
  refine own_go (XS.lstore X12.here hx rfl (hb hby at_20) rfl (l' := #[.val (.long q1), .second, .val (.long (-4658895280553007687 : Int64)), .second, .val (.long (-7723592293110705685 : Int64)), .second, .val (.long v6_11), .second, .val (.long (own_inv (-7723592293110705685 : Int64))), .second, .unset, .unset, .unset, .unset, .unset]) rfl (Steps.refl _)) ?_
  show own_Fin _ _ _ _ (T12.setTop (mkF m 22 #[.val (.long q1), .second, .val (.long (-4658895280553007687 : Int64)), .second, .val (.long (-7723592293110705685 : Int64)), .second, .val (.long v6_11), .second, .val (.long (own_inv (-7723592293110705685 : Int64))), .second, .unset, .unset, .unset, .unset, .unset] []))
  generalize hz_v8_13 : (own_inv (-7723592293110705685 : Int64)) = v8_13
  refine own_go (XS.lloadN X12.here hx rfl (hb hby at_22) rfl (Steps.refl _)) ?_
  show own_Fin _ _ _ _ (T12.setTop (mkF m 23 #[.val (.long q1), .second, .val (.long (-4658895280553007687 : Int64)), .second, .val (.long (-7723592293110705685 : Int64)), .second, .val (.long v6_11), .second, .val (.long v8_13), .second, .unset, .unset, .unset, .unset, .unset] [(.long (-4658895280553007687 : Int64))]))
  refine own_go (XS.lload X12.here hx rfl (hb hby at_23) rfl (Steps.refl _)) ?_
  show own_Fin _ _ _ _ (T12.setTop (mkF m 25 #[.val (.long q1), .second, .val (.long (-4658895280553007687 : Int64)), .second, .val (.long (-7723592293110705685 : Int64)), .second, .val (.long v6_11), .second, .val (.long v8_13), .second, .unset, .unset, .unset, .unset, .unset] [(.long v6_11), (.long (-4658895280553007687 : Int64))]))
  refine own_go (XS.lmul X12.here hx rfl (hb hby at_25) rfl (Steps.refl _)) ?_
  show own_Fin _ _ _ _ (T12.setTop (mkF m 26 #[.val (.long q1), .second, .val (.long (-4658895280553007687 : Int64)), .second, .val (.long (-7723592293110705685 : Int64)), .second, .val (.long v6_11), .second, .val (.long v8_13), .second, .unset, .unset, .unset, .unset, .unset] [(.long ((-4658895280553007687 : Int64) * v6_11))]))
  refine own_go (XS.lconst X12.here hx rfl (hb hby at_26) (Steps.refl _)) ?_
  show own_Fin _ _ _ _ (T12.setTop (mkF m 27 #[.val (.long q1), .second, .val (.long (-4658895280553007687 : Int64)), .second, .val (.long (-7723592293110705685 : Int64)), .second, .val (.long v6_11), .second, .val (.long v8_13), .second, .unset, .unset, .unset, .unset, .unset] [(.long (1 : Int64)), (.long ((-4658895280553007687 : Int64) * v6_11))]))
  refine own_go (XS.lcmp X12.here hx rfl (hb hby at_27) rfl (Steps.refl _)) ?_
  show own_Fin _ _ _ _ (T12.setTop (mkF m 28 #[.val (.long q1), .second, .val (.long (-4658895280553007687 : Int64)), .second, .val (.long (-7723592293110705685 : Int64)), .second, .val (.long v6_11), .second, .val (.long v8_13), .second, .unset, .unset, .unset, .unset, .unset] [(.int (lcmpW ((-4658895280553007687 : Int64) * v6_11) (1 : Int64)))]))
  refine own_go (XS.ifNo X12.here hx rfl (hb hby at_28) rfl ((if0 _ _).trans (teq (show (lcmpW ((-4658895280553007687 : Int64) * v6_11) (1 : Int64)) = (0 : Int32) from (lw_eq _ _).2 (by subst_vars; decide +kernel))).2) (Steps.refl _)) ?_
  show own_Fin _ _ _ _ (T12.setTop (mkF m 31 #[.val (.long q1), .second, .val (.long (-4658895280553007687 : Int64)), .second, .val (.long (-7723592293110705685 : Int64)), .second, .val (.long v6_11), .second, .val (.long v8_13), .second, .unset, .unset, .unset, .unset, .unset] []))
  refine own_go (XS.lload X12.here hx rfl (hb hby at_31) rfl (Steps.refl _)) ?_
  show own_Fin _ _ _ _ (T12.setTop (mkF m 33 #[.val (.long q1), .second, .val (.long (-4658895280553007687 : Int64)), .second, .val (.long (-7723592293110705685 : Int64)), .second, .val (.long v6_11), .second, .val (.long v8_13), .second, .unset, .unset, .unset, .unset, .unset] [(.long (-7723592293110705685 : Int64))]))
  refine own_go (XS.lload X12.here hx rfl (hb hby at_33) rfl (Steps.refl _)) ?_
  show own_Fin _ _ _ _ (T12.setTop (mkF m 35 #[.val (.long q1), .second, .val (.long (-4658895280553007687 : Int64)), .second, .val (.long (-7723592293110705685 : Int64)), .second, .val (.long v6_11), .second, .val (.long v8_13), .second, .unset, .unset, .unset, .unset, .unset] [(.long v8_13), (.long (-7723592293110705685 : Int64))]))
  refine own_go (XS.lmul X12.here hx rfl (hb hby at_35) rfl (Steps.refl _)) ?_
  show own_Fin _ _ _ _ (T12.setTop (mkF m 36 #[.val (.long q1), .second, .val (.long (-4658895280553007687 : Int64)), .second, .val (.long (-7723592293110705685 : Int64)), .second, .val (.long v6_11), .second, .val (.long v8_13), .second, .unset, .unset, .unset, .unset, .unset] [(.long ((-7723592293110705685 : Int64) * v8_13))]))
  refine own_go (XS.lconst X12.here hx rfl (hb hby at_36) (Steps.refl _)) ?_
  show own_Fin _ _ _ _ (T12.setTop (mkF m 37 #[.val (.long q1), .second, .val (.long (-4658895280553007687 : Int64)), .second, .val (.long (-7723592293110705685 : Int64)), .second, .val (.long v6_11), .second, .val (.long v8_13), .second, .unset, .unset, .unset, .unset, .unset] [(.long (1 : Int64)), (.long ((-7723592293110705685 : Int64) * v8_13))]))
  refine own_go (XS.lcmp X12.here hx rfl (hb hby at_37) rfl (Steps.refl _)) ?_
  show own_Fin _ _ _ _ (T12.setTop (mkF m 38 #[.val (.long q1), .second, .val (.long (-4658895280553007687 : Int64)), .second, .val (.long (-7723592293110705685 : Int64)), .second, .val (.long v6_11), .second, .val (.long v8_13), .second, .unset, .unset, .unset, .unset, .unset] [(.int (lcmpW ((-7723592293110705685 : Int64) * v8_13) (1 : Int64)))]))
  refine own_go (XS.ifNo X12.here hx rfl (hb hby at_38) rfl ((if0 _ _).trans (teq (show (lcmpW ((-7723592293110705685 : Int64) * v8_13) (1 : Int64)) = (0 : Int32) from (lw_eq _ _).2 (by subst_vars; decide +kernel))).2) (Steps.refl _)) ?_
  show own_Fin _ _ _ _ (T12.setTop (mkF m 41 #[.val (.long q1), .second, .val (.long (-4658895280553007687 : Int64)), .second, .val (.long (-7723592293110705685 : Int64)), .second, .val (.long v6_11), .second, .val (.long v8_13), .second, .unset, .unset, .unset, .unset, .unset] []))
  refine own_go (XS.iconst X12.here hx rfl (hb hby at_41) (Steps.refl _)) ?_
  show own_Fin _ _ _ _ (T12.setTop (mkF m 42 #[.val (.long q1), .second, .val (.long (-4658895280553007687 : Int64)), .second, .val (.long (-7723592293110705685 : Int64)), .second, .val (.long v6_11), .second, .val (.long v8_13), .second, .unset, .unset, .unset, .unset, .unset] [(.int (1 : Int32))]))
  refine own_go (XS.goto X12.here hx rfl (pc0 := 42) (pc' := 46) rfl (hb hby at_42) (by decide) (by decide) (Steps.refl _)) ?_
  show own_Fin _ _ _ _ (T12.setTop (mkF m 46 #[.val (.long q1), .second, .val (.long (-4658895280553007687 : Int64)), .second, .val (.long (-7723592293110705685 : Int64)), .second, .val (.long v6_11), .second, .val (.long v8_13), .second, .unset, .unset, .unset, .unset, .unset] [(.int (1 : Int32))]))
  refine own_go (XS.istore X12.here hx rfl (hb hby at_46) rfl (l' := #[.val (.long q1), .second, .val (.long (-4658895280553007687 : Int64)), .second, .val (.long (-7723592293110705685 : Int64)), .second, .val (.long v6_11), .second, .val (.long v8_13), .second, .val (.int (1 : Int32)), .unset, .unset, .unset, .unset]) rfl (Steps.refl _)) ?_
  show own_Fin _ _ _ _ (T12.setTop (mkF m 48 #[.val (.long q1), .second, .val (.long (-4658895280553007687 : Int64)), .second, .val (.long (-7723592293110705685 : Int64)), .second, .val (.long v6_11), .second, .val (.long v8_13), .second, .val (.int (1 : Int32)), .unset, .unset, .unset, .unset] []))
  refine own_go (XS.lloadN X12.here hx rfl (hb hby at_48) rfl (Steps.refl _)) ?_
  show own_Fin _ _ _ _ (T12.setTop (mkF m 49 #[.val (.long q1), .second, .val (.long (-4658895280553007687 : Int64)), .second, .val (.long (-7723592293110705685 : Int64)), .second, .val (.long v6_11), .second, .val (.long v8_13), .second, .val (.int (1 : Int32)), .unset, .unset, .unset, .unset] [(.long q1)]))
  obtain ⟨_, _, ⟨T14, L14, k14, n14⟩, -, X14, ⟨Lc14, hQ14, l14, y14, z14⟩, st14⟩ := Jvm.LawKit.callS X12 hx (y := (⟨"com/example/tidewalk/tidewalk/problems/RandomStream", "mix64", "(J)J"⟩ : MethodName)) hown (mvT hZ (hw _ (List.mem_of_getElem? (i := 7) rfl))) (mvT hZ (hw _ (List.mem_of_getElem? (i := 8) rfl))) (mvT hZ (hw _ (List.mem_of_getElem? (i := 9) rfl))) (mvT hZ (hw _ (List.mem_of_getElem? (i := 10) rfl))) (by decide) (backOf (W := 0) (rm2 l Z a0 hw [] q1 h0 n0 Z0) hZ (hw _ (List.mem_of_getElem? (i := 10) rfl)) (hw _ (List.mem_of_getElem? (i := 9) rfl)) (by decide) (by decide)) (g := (mkF m 49 #[.val (.long q1), .second, .val (.long (-4658895280553007687 : Int64)), .second, .val (.long (-7723592293110705685 : Int64)), .second, .val (.long v6_11), .second, .val (.long v8_13), .second, .val (.int (1 : Int32)), .unset, .unset, .unset, .unset] [(.long q1)])) rfl (by rw [hml]; rfl) (argsL := [(.long q1)]) (rest := []) (lenOf pd__28_J_29_J rfl) rfl (by show 2 * 0 + _ ≤ _; exact Nat.le_of_eq rfl) (hb hby at_49) (fun _ _ => ⟨rfl, e12, (by decide : 0 + 0 ≤ _), (by decide : 0 + 0 ≤ _)⟩)
  dsimp only [Pt.U, Pt.locs, Pt.cells, Pt.slots] at X14 l14 y14 z14 st14 hQ14
  subst l14 y14 z14
  obtain ⟨rfl, Nq14, e14⟩ := hQ14
  refine own_by st14 ?_
  have N14 := Fr.app N12 Nq14
  show own_Fin _ _ _ _ (T14.setTop (mkF m 52 #[.val (.long q1), .second, .val (.long (-4658895280553007687 : Int64)), .second, .val (.long (-7723592293110705685 : Int64)), .second, .val (.long v6_11), .second, .val (.long v8_13), .second, .val (.int (1 : Int32)), .unset, .unset, .unset, .unset] [(.long (own_mix q1))]))
  refine own_go (XS.lstore X14.here hx rfl (hb hby at_52) rfl (l' := #[.val (.long q1), .second, .val (.long (-4658895280553007687 : Int64)), .second, .val (.long (-7723592293110705685 : Int64)), .second, .val (.long v6_11), .second, .val (.long v8_13), .second, .val (.int (1 : Int32)), .val (.long (own_mix q1)), .second, .unset, .unset]) rfl (Steps.refl _)) ?_
  show own_Fin _ _ _ _ (T14.setTop (mkF m 54 #[.val (.long q1), .second, .val (.long (-4658895280553007687 : Int64)), .second, .val (.long (-7723592293110705685 : Int64)), .second, .val (.long v6_11), .second, .val (.long v8_13), .second, .val (.int (1 : Int32)), .val (.long (own_mix q1)), .second, .unset, .unset] []))
  generalize hz_v11_15 : (own_mix q1) = v11_15
  refine own_go (XS.lload X14.here hx rfl (hb hby at_54) rfl (Steps.refl _)) ?_
  show own_Fin _ _ _ _ (T14.setTop (mkF m 56 #[.val (.long q1), .second, .val (.long (-4658895280553007687 : Int64)), .second, .val (.long (-7723592293110705685 : Int64)), .second, .val (.long v6_11), .second, .val (.long v8_13), .second, .val (.int (1 : Int32)), .val (.long v11_15), .second, .unset, .unset] [(.long v11_15)]))
  refine own_go (XS.lload X14.here hx rfl (hb hby at_56) rfl (Steps.refl _)) ?_
  show own_Fin _ _ _ _ (T14.setTop (mkF m 58 #[.val (.long q1), .second, .val (.long (-4658895280553007687 : Int64)), .second, .val (.long (-7723592293110705685 : Int64)), .second, .val (.long v6_11), .second, .val (.long v8_13), .second, .val (.int (1 : Int32)), .val (.long v11_15), .second, .unset, .unset] [(.long v11_15), (.long v11_15)]))
  refine own_go (XS.bipush X14.here hx rfl (hb hby at_58) (Steps.refl _)) ?_
  show own_Fin _ _ _ _ (T14.setTop (mkF m 60 #[.val (.long q1), .second, .val (.long (-4658895280553007687 : Int64)), .second, .val (.long (-7723592293110705685 : Int64)), .second, .val (.long v6_11), .second, .val (.long v8_13), .second, .val (.int (1 : Int32)), .val (.long v11_15), .second, .unset, .unset] [(.int (31 : Int32)), (.long v11_15), (.long v11_15)]))
  refine own_go (XS.lushr X14.here hx rfl (hb hby at_60) rfl (Steps.refl _)) ?_
  show own_Fin _ _ _ _ (T14.setTop (mkF m 61 #[.val (.long q1), .second, .val (.long (-4658895280553007687 : Int64)), .second, .val (.long (-7723592293110705685 : Int64)), .second, .val (.long v6_11), .second, .val (.long v8_13), .second, .val (.int (1 : Int32)), .val (.long v11_15), .second, .unset, .unset] [(.long ((v11_15.toUInt64 >>> ((31 : Int32) &&& 0x3f).toInt64.toUInt64).toInt64)), (.long v11_15)]))
  refine own_go (XS.lxor X14.here hx rfl (hb hby at_61) rfl (Steps.refl _)) ?_
  show own_Fin _ _ _ _ (T14.setTop (mkF m 62 #[.val (.long q1), .second, .val (.long (-4658895280553007687 : Int64)), .second, .val (.long (-7723592293110705685 : Int64)), .second, .val (.long v6_11), .second, .val (.long v8_13), .second, .val (.int (1 : Int32)), .val (.long v11_15), .second, .unset, .unset] [(.long (v11_15 ^^^ ((v11_15.toUInt64 >>> ((31 : Int32) &&& 0x3f).toInt64.toUInt64).toInt64)))]))
  refine own_go (XS.lload X14.here hx rfl (hb hby at_62) rfl (Steps.refl _)) ?_
  show own_Fin _ _ _ _ (T14.setTop (mkF m 64 #[.val (.long q1), .second, .val (.long (-4658895280553007687 : Int64)), .second, .val (.long (-7723592293110705685 : Int64)), .second, .val (.long v6_11), .second, .val (.long v8_13), .second, .val (.int (1 : Int32)), .val (.long v11_15), .second, .unset, .unset] [(.long v11_15), (.long (v11_15 ^^^ ((v11_15.toUInt64 >>> ((31 : Int32) &&& 0x3f).toInt64.toUInt64).toInt64)))]))
  refine own_go (XS.bipush X14.here hx rfl (hb hby at_64) (Steps.refl _)) ?_
  show own_Fin _ _ _ _ (T14.setTop (mkF m 66 #[.val (.long q1), .second, .val (.long (-4658895280553007687 : Int64)), .second, .val (.long (-7723592293110705685 : Int64)), .second, .val (.long v6_11), .second, .val (.long v8_13), .second, .val (.int (1 : Int32)), .val (.long v11_15), .second, .unset, .unset] [(.int (62 : Int32)), (.long v11_15), (.long (v11_15 ^^^ ((v11_15.toUInt64 >>> ((31 : Int32) &&& 0x3f).toInt64.toUInt64).toInt64)))]))
  refine own_go (XS.lushr X14.here hx rfl (hb hby at_66) rfl (Steps.refl _)) ?_
  show own_Fin _ _ _ _ (T14.setTop (mkF m 67 #[.val (.long q1), .second, .val (.long (-4658895280553007687 : Int64)), .second, .val (.long (-7723592293110705685 : Int64)), .second, .val (.long v6_11), .second, .val (.long v8_13), .second, .val (.int (1 : Int32)), .val (.long v11_15), .second, .unset, .unset] [(.long ((v11_15.toUInt64 >>> ((62 : Int32) &&& 0x3f).toInt64.toUInt64).toInt64)), (.long (v11_15 ^^^ ((v11_15.toUInt64 >>> ((31 : Int32) &&& 0x3f).toInt64.toUInt64).toInt64)))]))
  refine own_go (XS.lxor X14.here hx rfl (hb hby at_67) rfl (Steps.refl _)) ?_
  show own_Fin _ _ _ _ (T14.setTop (mkF m 68 #[.val (.long q1), .second, .val (.long (-4658895280553007687 : Int64)), .second, .val (.long (-7723592293110705685 : Int64)), .second, .val (.long v6_11), .second, .val (.long v8_13), .second, .val (.int (1 : Int32)), .val (.long v11_15), .second, .unset, .unset] [(.long ((v11_15 ^^^ ((v11_15.toUInt64 >>> ((31 : Int32) &&& 0x3f).toInt64.toUInt64).toInt64)) ^^^ ((v11_15.toUInt64 >>> ((62 : Int32) &&& 0x3f).toInt64.toUInt64).toInt64)))]))
  refine own_go (XS.lstore X14.here hx rfl (hb hby at_68) rfl (l' := #[.val (.long q1), .second, .val (.long (-4658895280553007687 : Int64)), .second, .val (.long (-7723592293110705685 : Int64)), .second, .val (.long v6_11), .second, .val (.long v8_13), .second, .val (.int (1 : Int32)), .val (.long v11_15), .second, .val (.long ((v11_15 ^^^ ((v11_15.toUInt64 >>> ((31 : Int32) &&& 0x3f).toInt64.toUInt64).toInt64)) ^^^ ((v11_15.toUInt64 >>> ((62 : Int32) &&& 0x3f).toInt64.toUInt64).toInt64))), .second]) rfl (Steps.refl _)) ?_
  show own_Fin _ _ _ _ (T14.setTop (mkF m 70 #[.val (.long q1), .second, .val (.long (-4658895280553007687 : Int64)), .second, .val (.long (-7723592293110705685 : Int64)), .second, .val (.long v6_11), .second, .val (.long v8_13), .second, .val (.int (1 : Int32)), .val (.long v11_15), .second, .val (.long ((v11_15 ^^^ ((v11_15.toUInt64 >>> ((31 : Int32) &&& 0x3f).toInt64.toUInt64).toInt64)) ^^^ ((v11_15.toUInt64 >>> ((62 : Int32) &&& 0x3f).toInt64.toUInt64).toInt64))), .second] []))
  generalize hz_v13_16 : ((v11_15 ^^^ ((v11_15.toUInt64 >>> ((31 : Int32) &&& 0x3f).toInt64.toUInt64).toInt64)) ^^^ ((v11_15.toUInt64 >>> ((62 : Int32) &&& 0x3f).toInt64.toUInt64).toInt64)) = v13_16
  refine own_go (XS.lload X14.here hx rfl (hb hby at_70) rfl (Steps.refl _)) ?_
  show own_Fin _ _ _ _ (T14.setTop (mkF m 72 #[.val (.long q1), .second, .val (.long (-4658895280553007687 : Int64)), .second, .val (.long (-7723592293110705685 : Int64)), .second, .val (.long v6_11), .second, .val (.long v8_13), .second, .val (.int (1 : Int32)), .val (.long v11_15), .second, .val (.long v13_16), .second] [(.long v13_16)]))
  refine own_go (XS.lload X14.here hx rfl (hb hby at_72) rfl (Steps.refl _)) ?_
  show own_Fin _ _ _ _ (T14.setTop (mkF m 74 #[.val (.long q1), .second, .val (.long (-4658895280553007687 : Int64)), .second, .val (.long (-7723592293110705685 : Int64)), .second, .val (.long v6_11), .second, .val (.long v8_13), .second, .val (.int (1 : Int32)), .val (.long v11_15), .second, .val (.long v13_16), .second] [(.long v8_13), (.long v13_16)]))
  refine own_go (XS.lmul X14.here hx rfl (hb hby at_74) rfl (Steps.refl _)) ?_
  show own_Fin _ _ _ _ (T14.setTop (mkF m 75 #[.val (.long q1), .second, .val (.long (-4658895280553007687 : Int64)), .second, .val (.long (-7723592293110705685 : Int64)), .second, .val (.long v6_11), .second, .val (.long v8_13), .second, .val (.int (1 : Int32)), .val (.long v11_15), .second, .val (.long v13_16), .second] [(.long (v13_16 * v8_13))]))
  refine own_go (XS.lstore X14.here hx rfl (hb hby at_75) rfl (l' := #[.val (.long q1), .second, .val (.long (-4658895280553007687 : Int64)), .second, .val (.long (-7723592293110705685 : Int64)), .second, .val (.long v6_11), .second, .val (.long v8_13), .second, .val (.int (1 : Int32)), .val (.long v11_15), .second, .val (.long (v13_16 * v8_13)), .second]) rfl (Steps.refl _)) ?_
  show own_Fin _ _ _ _ (T14.setTop (mkF m 77 #[.val (.long q1), .second, .val (.long (-4658895280553007687 : Int64)), .second, .val (.long (-7723592293110705685 : Int64)), .second, .val (.long v6_11), .second, .val (.long v8_13), .second, .val (.int (1 : Int32)), .val (.long v11_15), .second, .val (.long (v13_16 * v8_13)), .second] []))
  generalize hz_v13_17 : (v13_16 * v8_13) = v13_17
  refine own_go (XS.lload X14.here hx rfl (hb hby at_77) rfl (Steps.refl _)) ?_
  show own_Fin _ _ _ _ (T14.setTop (mkF m 79 #[.val (.long q1), .second, .val (.long (-4658895280553007687 : Int64)), .second, .val (.long (-7723592293110705685 : Int64)), .second, .val (.long v6_11), .second, .val (.long v8_13), .second, .val (.int (1 : Int32)), .val (.long v11_15), .second, .val (.long v13_17), .second] [(.long v13_17)]))
  refine own_go (XS.lload X14.here hx rfl (hb hby at_79) rfl (Steps.refl _)) ?_
  show own_Fin _ _ _ _ (T14.setTop (mkF m 81 #[.val (.long q1), .second, .val (.long (-4658895280553007687 : Int64)), .second, .val (.long (-7723592293110705685 : Int64)), .second, .val (.long v6_11), .second, .val (.long v8_13), .second, .val (.int (1 : Int32)), .val (.long v11_15), .second, .val (.long v13_17), .second] [(.long v13_17), (.long v13_17)]))
  refine own_go (XS.bipush X14.here hx rfl (hb hby at_81) (Steps.refl _)) ?_
  show own_Fin _ _ _ _ (T14.setTop (mkF m 83 #[.val (.long q1), .second, .val (.long (-4658895280553007687 : Int64)), .second, .val (.long (-7723592293110705685 : Int64)), .second, .val (.long v6_11), .second, .val (.long v8_13), .second, .val (.int (1 : Int32)), .val (.long v11_15), .second, .val (.long v13_17), .second] [(.int (27 : Int32)), (.long v13_17), (.long v13_17)]))
  refine own_go (XS.lushr X14.here hx rfl (hb hby at_83) rfl (Steps.refl _)) ?_
  show own_Fin _ _ _ _ (T14.setTop (mkF m 84 #[.val (.long q1), .second, .val (.long (-4658895280553007687 : Int64)), .second, .val (.long (-7723592293110705685 : Int64)), .second, .val (.long v6_11), .second, .val (.long v8_13), .second, .val (.int (1 : Int32)), .val (.long v11_15), .second, .val (.long v13_17), .second] [(.long ((v13_17.toUInt64 >>> ((27 : Int32) &&& 0x3f).toInt64.toUInt64).toInt64)), (.long v13_17)]))
  refine own_go (XS.lxor X14.here hx rfl (hb hby at_84) rfl (Steps.refl _)) ?_
  show own_Fin _ _ _ _ (T14.setTop (mkF m 85 #[.val (.long q1), .second, .val (.long (-4658895280553007687 : Int64)), .second, .val (.long (-7723592293110705685 : Int64)), .second, .val (.long v6_11), .second, .val (.long v8_13), .second, .val (.int (1 : Int32)), .val (.long v11_15), .second, .val (.long v13_17), .second] [(.long (v13_17 ^^^ ((v13_17.toUInt64 >>> ((27 : Int32) &&& 0x3f).toInt64.toUInt64).toInt64)))]))
  refine own_go (XS.lload X14.here hx rfl (hb hby at_85) rfl (Steps.refl _)) ?_
  show own_Fin _ _ _ _ (T14.setTop (mkF m 87 #[.val (.long q1), .second, .val (.long (-4658895280553007687 : Int64)), .second, .val (.long (-7723592293110705685 : Int64)), .second, .val (.long v6_11), .second, .val (.long v8_13), .second, .val (.int (1 : Int32)), .val (.long v11_15), .second, .val (.long v13_17), .second] [(.long v13_17), (.long (v13_17 ^^^ ((v13_17.toUInt64 >>> ((27 : Int32) &&& 0x3f).toInt64.toUInt64).toInt64)))]))
  refine own_go (XS.bipush X14.here hx rfl (hb hby at_87) (Steps.refl _)) ?_
  show own_Fin _ _ _ _ (T14.setTop (mkF m 89 #[.val (.long q1), .second, .val (.long (-4658895280553007687 : Int64)), .second, .val (.long (-7723592293110705685 : Int64)), .second, .val (.long v6_11), .second, .val (.long v8_13), .second, .val (.int (1 : Int32)), .val (.long v11_15), .second, .val (.long v13_17), .second] [(.int (54 : Int32)), (.long v13_17), (.long (v13_17 ^^^ ((v13_17.toUInt64 >>> ((27 : Int32) &&& 0x3f).toInt64.toUInt64).toInt64)))]))
  refine own_go (XS.lushr X14.here hx rfl (hb hby at_89) rfl (Steps.refl _)) ?_
  show own_Fin _ _ _ _ (T14.setTop (mkF m 90 #[.val (.long q1), .second, .val (.long (-4658895280553007687 : Int64)), .second, .val (.long (-7723592293110705685 : Int64)), .second, .val (.long v6_11), .second, .val (.long v8_13), .second, .val (.int (1 : Int32)), .val (.long v11_15), .second, .val (.long v13_17), .second] [(.long ((v13_17.toUInt64 >>> ((54 : Int32) &&& 0x3f).toInt64.toUInt64).toInt64)), (.long (v13_17 ^^^ ((v13_17.toUInt64 >>> ((27 : Int32) &&& 0x3f).toInt64.toUInt64).toInt64)))]))
  refine own_go (XS.lxor X14.here hx rfl (hb hby at_90) rfl (Steps.refl _)) ?_
  show own_Fin _ _ _ _ (T14.setTop (mkF m 91 #[.val (.long q1), .second, .val (.long (-4658895280553007687 : Int64)), .second, .val (.long (-7723592293110705685 : Int64)), .second, .val (.long v6_11), .second, .val (.long v8_13), .second, .val (.int (1 : Int32)), .val (.long v11_15), .second, .val (.long v13_17), .second] [(.long ((v13_17 ^^^ ((v13_17.toUInt64 >>> ((27 : Int32) &&& 0x3f).toInt64.toUInt64).toInt64)) ^^^ ((v13_17.toUInt64 >>> ((54 : Int32) &&& 0x3f).toInt64.toUInt64).toInt64)))]))
  refine own_go (XS.lstore X14.here hx rfl (hb hby at_91) rfl (l' := #[.val (.long q1), .second, .val (.long (-4658895280553007687 : Int64)), .second, .val (.long (-7723592293110705685 : Int64)), .second, .val (.long v6_11), .second, .val (.long v8_13), .second, .val (.int (1 : Int32)), .val (.long v11_15), .second, .val (.long ((v13_17 ^^^ ((v13_17.toUInt64 >>> ((27 : Int32) &&& 0x3f).toInt64.toUInt64).toInt64)) ^^^ ((v13_17.toUInt64 >>> ((54 : Int32) &&& 0x3f).toInt64.toUInt64).toInt64))), .second]) rfl (Steps.refl _)) ?_
  show own_Fin _ _ _ _ (T14.setTop (mkF m 93 #[.val (.long q1), .second, .val (.long (-4658895280553007687 : Int64)), .second, .val (.long (-7723592293110705685 : Int64)), .second, .val (.long v6_11), .second, .val (.long v8_13), .second, .val (.int (1 : Int32)), .val (.long v11_15), .second, .val (.long ((v13_17 ^^^ ((v13_17.toUInt64 >>> ((27 : Int32) &&& 0x3f).toInt64.toUInt64).toInt64)) ^^^ ((v13_17.toUInt64 >>> ((54 : Int32) &&& 0x3f).toInt64.toUInt64).toInt64))), .second] []))
  generalize hz_v13_18 : ((v13_17 ^^^ ((v13_17.toUInt64 >>> ((27 : Int32) &&& 0x3f).toInt64.toUInt64).toInt64)) ^^^ ((v13_17.toUInt64 >>> ((54 : Int32) &&& 0x3f).toInt64.toUInt64).toInt64)) = v13_18
  refine own_go (XS.lload X14.here hx rfl (hb hby at_93) rfl (Steps.refl _)) ?_
  show own_Fin _ _ _ _ (T14.setTop (mkF m 95 #[.val (.long q1), .second, .val (.long (-4658895280553007687 : Int64)), .second, .val (.long (-7723592293110705685 : Int64)), .second, .val (.long v6_11), .second, .val (.long v8_13), .second, .val (.int (1 : Int32)), .val (.long v11_15), .second, .val (.long v13_18), .second] [(.long v13_18)]))
  refine own_go (XS.lload X14.here hx rfl (hb hby at_95) rfl (Steps.refl _)) ?_
  show own_Fin _ _ _ _ (T14.setTop (mkF m 97 #[.val (.long q1), .second, .val (.long (-4658895280553007687 : Int64)), .second, .val (.long (-7723592293110705685 : Int64)), .second, .val (.long v6_11), .second, .val (.long v8_13), .second, .val (.int (1 : Int32)), .val (.long v11_15), .second, .val (.long v13_18), .second] [(.long v6_11), (.long v13_18)]))
  refine own_go (XS.lmul X14.here hx rfl (hb hby at_97) rfl (Steps.refl _)) ?_
  show own_Fin _ _ _ _ (T14.setTop (mkF m 98 #[.val (.long q1), .second, .val (.long (-4658895280553007687 : Int64)), .second, .val (.long (-7723592293110705685 : Int64)), .second, .val (.long v6_11), .second, .val (.long v8_13), .second, .val (.int (1 : Int32)), .val (.long v11_15), .second, .val (.long v13_18), .second] [(.long (v13_18 * v6_11))]))
  refine own_go (XS.lstore X14.here hx rfl (hb hby at_98) rfl (l' := #[.val (.long q1), .second, .val (.long (-4658895280553007687 : Int64)), .second, .val (.long (-7723592293110705685 : Int64)), .second, .val (.long v6_11), .second, .val (.long v8_13), .second, .val (.int (1 : Int32)), .val (.long v11_15), .second, .val (.long (v13_18 * v6_11)), .second]) rfl (Steps.refl _)) ?_
  show own_Fin _ _ _ _ (T14.setTop (mkF m 100 #[.val (.long q1), .second, .val (.long (-4658895280553007687 : Int64)), .second, .val (.long (-7723592293110705685 : Int64)), .second, .val (.long v6_11), .second, .val (.long v8_13), .second, .val (.int (1 : Int32)), .val (.long v11_15), .second, .val (.long (v13_18 * v6_11)), .second] []))
  generalize hz_v13_19 : (v13_18 * v6_11) = v13_19
  refine own_go (XS.lload X14.here hx rfl (hb hby at_100) rfl (Steps.refl _)) ?_
  show own_Fin _ _ _ _ (T14.setTop (mkF m 102 #[.val (.long q1), .second, .val (.long (-4658895280553007687 : Int64)), .second, .val (.long (-7723592293110705685 : Int64)), .second, .val (.long v6_11), .second, .val (.long v8_13), .second, .val (.int (1 : Int32)), .val (.long v11_15), .second, .val (.long v13_19), .second] [(.long v13_19)]))
  refine own_go (XS.lload X14.here hx rfl (hb hby at_102) rfl (Steps.refl _)) ?_
  show own_Fin _ _ _ _ (T14.setTop (mkF m 104 #[.val (.long q1), .second, .val (.long (-4658895280553007687 : Int64)), .second, .val (.long (-7723592293110705685 : Int64)), .second, .val (.long v6_11), .second, .val (.long v8_13), .second, .val (.int (1 : Int32)), .val (.long v11_15), .second, .val (.long v13_19), .second] [(.long v13_19), (.long v13_19)]))
  refine own_go (XS.bipush X14.here hx rfl (hb hby at_104) (Steps.refl _)) ?_
  show own_Fin _ _ _ _ (T14.setTop (mkF m 106 #[.val (.long q1), .second, .val (.long (-4658895280553007687 : Int64)), .second, .val (.long (-7723592293110705685 : Int64)), .second, .val (.long v6_11), .second, .val (.long v8_13), .second, .val (.int (1 : Int32)), .val (.long v11_15), .second, .val (.long v13_19), .second] [(.int (30 : Int32)), (.long v13_19), (.long v13_19)]))
  refine own_go (XS.lushr X14.here hx rfl (hb hby at_106) rfl (Steps.refl _)) ?_
  show own_Fin _ _ _ _ (T14.setTop (mkF m 107 #[.val (.long q1), .second, .val (.long (-4658895280553007687 : Int64)), .second, .val (.long (-7723592293110705685 : Int64)), .second, .val (.long v6_11), .second, .val (.long v8_13), .second, .val (.int (1 : Int32)), .val (.long v11_15), .second, .val (.long v13_19), .second] [(.long ((v13_19.toUInt64 >>> ((30 : Int32) &&& 0x3f).toInt64.toUInt64).toInt64)), (.long v13_19)]))
  refine own_go (XS.lxor X14.here hx rfl (hb hby at_107) rfl (Steps.refl _)) ?_
  show own_Fin _ _ _ _ (T14.setTop (mkF m 108 #[.val (.long q1), .second, .val (.long (-4658895280553007687 : Int64)), .second, .val (.long (-7723592293110705685 : Int64)), .second, .val (.long v6_11), .second, .val (.long v8_13), .second, .val (.int (1 : Int32)), .val (.long v11_15), .second, .val (.long v13_19), .second] [(.long (v13_19 ^^^ ((v13_19.toUInt64 >>> ((30 : Int32) &&& 0x3f).toInt64.toUInt64).toInt64)))]))
  refine own_go (XS.lload X14.here hx rfl (hb hby at_108) rfl (Steps.refl _)) ?_
  show own_Fin _ _ _ _ (T14.setTop (mkF m 110 #[.val (.long q1), .second, .val (.long (-4658895280553007687 : Int64)), .second, .val (.long (-7723592293110705685 : Int64)), .second, .val (.long v6_11), .second, .val (.long v8_13), .second, .val (.int (1 : Int32)), .val (.long v11_15), .second, .val (.long v13_19), .second] [(.long v13_19), (.long (v13_19 ^^^ ((v13_19.toUInt64 >>> ((30 : Int32) &&& 0x3f).toInt64.toUInt64).toInt64)))]))
  refine own_go (XS.bipush X14.here hx rfl (hb hby at_110) (Steps.refl _)) ?_
  show own_Fin _ _ _ _ (T14.setTop (mkF m 112 #[.val (.long q1), .second, .val (.long (-4658895280553007687 : Int64)), .second, .val (.long (-7723592293110705685 : Int64)), .second, .val (.long v6_11), .second, .val (.long v8_13), .second, .val (.int (1 : Int32)), .val (.long v11_15), .second, .val (.long v13_19), .second] [(.int (60 : Int32)), (.long v13_19), (.long (v13_19 ^^^ ((v13_19.toUInt64 >>> ((30 : Int32) &&& 0x3f).toInt64.toUInt64).toInt64)))]))
  refine own_go (XS.lushr X14.here hx rfl (hb hby at_112) rfl (Steps.refl _)) ?_
  show own_Fin _ _ _ _ (T14.setTop (mkF m 113 #[.val (.long q1), .second, .val (.long (-4658895280553007687 : Int64)), .second, .val (.long (-7723592293110705685 : Int64)), .second, .val (.long v6_11), .second, .val (.long v8_13), .second, .val (.int (1 : Int32)), .val (.long v11_15), .second, .val (.long v13_19), .second] [(.long ((v13_19.toUInt64 >>> ((60 : Int32) &&& 0x3f).toInt64.toUInt64).toInt64)), (.long (v13_19 ^^^ ((v13_19.toUInt64 >>> ((30 : Int32) &&& 0x3f).toInt64.toUInt64).toInt64)))]))
  refine own_go (XS.lxor X14.here hx rfl (hb hby at_113) rfl (Steps.refl _)) ?_
  show own_Fin _ _ _ _ (T14.setTop (mkF m 114 #[.val (.long q1), .second, .val (.long (-4658895280553007687 : Int64)), .second, .val (.long (-7723592293110705685 : Int64)), .second, .val (.long v6_11), .second, .val (.long v8_13), .second, .val (.int (1 : Int32)), .val (.long v11_15), .second, .val (.long v13_19), .second] [(.long ((v13_19 ^^^ ((v13_19.toUInt64 >>> ((30 : Int32) &&& 0x3f).toInt64.toUInt64).toInt64)) ^^^ ((v13_19.toUInt64 >>> ((60 : Int32) &&& 0x3f).toInt64.toUInt64).toInt64)))]))
  refine own_go (XS.lstore X14.here hx rfl (hb hby at_114) rfl (l' := #[.val (.long q1), .second, .val (.long (-4658895280553007687 : Int64)), .second, .val (.long (-7723592293110705685 : Int64)), .second, .val (.long v6_11), .second, .val (.long v8_13), .second, .val (.int (1 : Int32)), .val (.long v11_15), .second, .val (.long ((v13_19 ^^^ ((v13_19.toUInt64 >>> ((30 : Int32) &&& 0x3f).toInt64.toUInt64).toInt64)) ^^^ ((v13_19.toUInt64 >>> ((60 : Int32) &&& 0x3f).toInt64.toUInt64).toInt64))), .second]) rfl (Steps.refl _)) ?_
  show own_Fin _ _ _ _ (T14.setTop (mkF m 116 #[.val (.long q1), .second, .val (.long (-4658895280553007687 : Int64)), .second, .val (.long (-7723592293110705685 : Int64)), .second, .val (.long v6_11), .second, .val (.long v8_13), .second, .val (.int (1 : Int32)), .val (.long v11_15), .second, .val (.long ((v13_19 ^^^ ((v13_19.toUInt64 >>> ((30 : Int32) &&& 0x3f).toInt64.toUInt64).toInt64)) ^^^ ((v13_19.toUInt64 >>> ((60 : Int32) &&& 0x3f).toInt64.toUInt64).toInt64))), .second] []))
  generalize hz_v13_20 : ((v13_19 ^^^ ((v13_19.toUInt64 >>> ((30 : Int32) &&& 0x3f).toInt64.toUInt64).toInt64)) ^^^ ((v13_19.toUInt64 >>> ((60 : Int32) &&& 0x3f).toInt64.toUInt64).toInt64)) = v13_20
  refine own_go (XS.iload X14.here hx rfl (hb hby at_116) rfl (Steps.refl _)) ?_
  show own_Fin _ _ _ _ (T14.setTop (mkF m 118 #[.val (.long q1), .second, .val (.long (-4658895280553007687 : Int64)), .second, .val (.long (-7723592293110705685 : Int64)), .second, .val (.long v6_11), .second, .val (.long v8_13), .second, .val (.int (1 : Int32)), .val (.long v11_15), .second, .val (.long v13_20), .second] [(.int (1 : Int32))]))
  refine own_go (XS.ifNo X14.here hx rfl (hb hby at_118) rfl ((if0 _ _).trans (feq (by decide : ¬ ((1 : Int32) = (0 : Int32)))).1) (Steps.refl _)) ?_
  show own_Fin _ _ _ _ (T14.setTop (mkF m 121 #[.val (.long q1), .second, .val (.long (-4658895280553007687 : Int64)), .second, .val (.long (-7723592293110705685 : Int64)), .second, .val (.long v6_11), .second, .val (.long v8_13), .second, .val (.int (1 : Int32)), .val (.long v11_15), .second, .val (.long v13_20), .second] []))
  refine own_go (XS.lload X14.here hx rfl (hb hby at_121) rfl (Steps.refl _)) ?_
  show own_Fin _ _ _ _ (T14.setTop (mkF m 123 #[.val (.long q1), .second, .val (.long (-4658895280553007687 : Int64)), .second, .val (.long (-7723592293110705685 : Int64)), .second, .val (.long v6_11), .second, .val (.long v8_13), .second, .val (.int (1 : Int32)), .val (.long v11_15), .second, .val (.long v13_20), .second] [(.long v13_20)]))
  refine own_go (XS.lloadN X14.here hx rfl (hb hby at_123) rfl (Steps.refl _)) ?_
  show own_Fin _ _ _ _ (T14.setTop (mkF m 124 #[.val (.long q1), .second, .val (.long (-4658895280553007687 : Int64)), .second, .val (.long (-7723592293110705685 : Int64)), .second, .val (.long v6_11), .second, .val (.long v8_13), .second, .val (.int (1 : Int32)), .val (.long v11_15), .second, .val (.long v13_20), .second] [(.long q1), (.long v13_20)]))
  refine own_go (XS.lcmp X14.here hx rfl (hb hby at_124) rfl (Steps.refl _)) ?_
  show own_Fin _ _ _ _ (T14.setTop (mkF m 125 #[.val (.long q1), .second, .val (.long (-4658895280553007687 : Int64)), .second, .val (.long (-7723592293110705685 : Int64)), .second, .val (.long v6_11), .second, .val (.long v8_13), .second, .val (.int (1 : Int32)), .val (.long v11_15), .second, .val (.long v13_20), .second] [(.int (lcmpW v13_20 q1))]))
  refine own_go (XS.ifNo X14.here hx rfl (hb hby at_125) rfl ((if0 _ _).trans (teq (show (lcmpW v13_20 q1) = (0 : Int32) from (lw_eq _ _).2 (by subst_vars; exact own_main _))).2) (Steps.refl _)) ?_
  show own_Fin _ _ _ _ (T14.setTop (mkF m 128 #[.val (.long q1), .second, .val (.long (-4658895280553007687 : Int64)), .second, .val (.long (-7723592293110705685 : Int64)), .second, .val (.long v6_11), .second, .val (.long v8_13), .second, .val (.int (1 : Int32)), .val (.long v11_15), .second, .val (.long v13_20), .second] []))
  refine own_go (XS.iconst X14.here hx rfl (hb hby at_128) (Steps.refl _)) ?_
  show own_Fin _ _ _ _ (T14.setTop (mkF m 129 #[.val (.long q1), .second, .val (.long (-4658895280553007687 : Int64)), .second, .val (.long (-7723592293110705685 : Int64)), .second, .val (.long v6_11), .second, .val (.long v8_13), .second, .val (.int (1 : Int32)), .val (.long v11_15), .second, .val (.long v13_20), .second] [(.int (1 : Int32))]))
  refine own_go (XS.goto X14.here hx rfl (pc0 := 129) (pc' := 133) rfl (hb hby at_129) (by decide) (by decide) (Steps.refl _)) ?_
  show own_Fin _ _ _ _ (T14.setTop (mkF m 133 #[.val (.long q1), .second, .val (.long (-4658895280553007687 : Int64)), .second, .val (.long (-7723592293110705685 : Int64)), .second, .val (.long v6_11), .second, .val (.long v8_13), .second, .val (.int (1 : Int32)), .val (.long v11_15), .second, .val (.long v13_20), .second] [(.int (1 : Int32))]))
  obtain ⟨fs21, hr21, hrun21, hended21, hW21, hsame21⟩ := X14.leave (v := some (.int (1 : Int32))) (fun h => by rw [Bd.returns] at h; cases h)
  refine own_done (retN X14 hx (t := .boolean) Bd.returns (by simp) (hb hby at_133) hr21) hrun21 hended21 ⟨_, _, rfl, ?_, ⟨_, rfl⟩, hW21, hsame21.mono (by decide) (by decide)⟩
  show Q0 Z q1 h0 n0 _ T14.heap _
  rw [e14]
  exact ⟨rfl, N14⟩
set_option maxRecDepth 65536 in
set_option maxHeartbeats 40000000 in
theorem comes_1 {Post : Tables → Env → Array Value → State → Outcome → State → Prop} (hpost : ∀ tb e args s v u, (limb_1_1.after args s (.returned v) u = true ∧ limb_1_2.after args s (.returned v) u = true ∧ True) → FrameEnd s (.returned v) u (Jvm.fieldLocs frame_1_writes args s ++ Jvm.arrayLocs frame_1_arrays args s ++ Jvm.staticLocs frame_1_statics s) 0 0 → Post tb e args s (.returned v) u) :
    ArmFor flags0 classFile x code maxLocals ret World_1 tables_1 room_1 Calls_1 rest_1 Pre_1 Post := by
  intro l hfl _ _ p e ha hc hk s m args below hf hA hF happ hP
  obtain ⟨hcalls, hrest, hpre⟩ := hP
  obtain ⟨-, -, -, hnamed, -, -, -, hat⟩ := (Spec.applies_iff hf).mp happ
  obtain ⟨hg, hn⟩ := and_e (Cond.before_iff.mp (show (Jvm.Cond.and given_1 narrow_1).before args s = true from hpre))
  obtain ⟨gg1, gg2⟩ := and_e hg
  obtain ⟨w0, rfl⟩ : ∃ w0 : Value, args = #[w0] := by
    have hs : args.size = 1 := by simpa [Cond.value, given_1] using gg1
    obtain ⟨L⟩ := args
    match L, hs with
    | [w0], _ => exact ⟨w0, rfl⟩
  have hw := fun d (hd : d ∈ tables_1) => atoms_spec (ws := Jvm.Cond.code x code maxLocals ret :: tables_1) hat d (List.mem_cons_of_mem _ hd)
  obtain ⟨i0, ei0⟩ := isL_v gg2
  obtain rfl : w0 = (.long i0) := Option.some.inj ei0
  obtain ⟨n, o, h1, h2, h3, _, L, rfl, ⟨rfl, N⟩, hq⟩ := rm0 l s _ hw tables_1 i0  s.heap s.heap.size (Nat.le_refl _)  p e ha hc hk s m _ below hf ((Spec.applies_iff_loose hf).mp happ).1 ⟨rfl, State.Warmed39.refl s, rfl⟩ trivial
  refine ⟨n, _, h1, h2, h3, hpost _ _ _ _ _ _ ⟨Cond.after_iff.mpr rfl, Cond.after_iff.mpr (eq_i res_at (Term.int_eval (1)) rfl), trivial⟩ ⟨hq.1, hq.2.1, (hq.2.2.sift fun y hy => Or.inr (N y hy)).mono (by decide) (by decide)⟩⟩
theorem main_1_1 : Claimed_1_1 := comes_1 fun _ _ _ _ _ _ h hF => ⟨h.1, hF⟩
theorem main_1_2 : Claimed_1_2 := comes_1 fun _ _ _ _ _ _ h hF => ⟨h.2.1, hF⟩
end Jvm.Pilot.@@N@@
namespace Jvm.Pilot.@@N@@
open Jvm Jvm.ClassFile Sem Op Lib Jvm.Free Jvm.Stand Jvm.Pilot.@@N@@.Jvm.D
/-! MADE BY PROGRAM (witnessworld.py) out of the Statement's table words and the real class files: 9 classes; the members and pool entries that the words name. The judged class is class 1, her method 2. -/
namespace start1
open Jvm.ClassFile
def u (s : String) : CpInfo := .utf8 (stringToUtf16 s)
/-- a pool by its gaps: so many unusable entries, then the entry; so many at the end -/
def gap : Nat → List CpInfo → List CpInfo
  | 0, r => r
  | n + 1, r => .unusable :: gap n r
def poolList (es : List (Nat × CpInfo)) (last : Nat) : List CpInfo := es.foldr (fun e r => gap e.1 (e.2 :: r)) (gap last [])
def pool (es : List (Nat × CpInfo)) (last : Nat) : Array CpInfo := ⟨poolList es last⟩
def fileOf (pool : Array CpInfo) (this : Nat) (attrs : Array Attribute := #[]) (ms : Array MethodInfo := #[]) (fl : Nat := 33) (sup : Nat := 0) (ifs : Array Nat := #[]) (fds : Array FieldInfo := #[]) : ClassFile where
  minorVersion := 0
  majorVersion := 65
  constantPool := pool
  accessFlags := fl
  thisClass := this
  superClass := sup
  interfaces := ifs
  fields := fds
  methods := ms
  attributes := attrs
def plain (name : String) (sup : Option ClassId) : Class where
  name := name
  kind := .ordinary
  loader := none
  accessFlags := 33
  super := sup
  interfaces := #[]
  cf := none
  fields := #[]
  methods := #[]
  instanceTypes := #[]
  staticTypes := #[]
  resolved := #[]
  callSites := []
  init := .initialized
  statics := none
  mirror := none

def pool0 : Array CpInfo := pool [(5, u "<init>"), (0, u "()V"), (1, .class_ 10), (1, u "java/lang/Object")] 113

def k0m0 : Method := { name := "<init>", desc := "()V", sig := { parameters := [], returnType := none }, accessFlags := 1, code := none }
/-- java/lang/Object -/
def k0 : Class := { plain "java/lang/Object" none with
  accessFlags := 33
  interfaces := #[]
  cf := some (fileOf pool0 8 #[] #[{ accessFlags := 1, nameIndex := 5, descriptorIndex := 6, attributes := #[] }] 33 0 #[] #[])
  fields := #[]
  methods := #[k0m0]
  instanceTypes := #[]
  staticTypes := #[]
  resolved := Array.replicate 124 none
  statics := none }

def pool1 : Array CpInfo := pool [(2, .class_ 4), (1, u "java/lang/Object"), (0, u "<init>"), (0, u "()V"), (0, .long 2), (1, .long 13787848793156543929), (1, .long 10723151780598845931), (1, .methodref 14 15), (0, .class_ 16), (0, .nameAndType 17 18), (0, u "com/example/tidewalk/tidewalk/problems/RandomStreamMix64PinLaw"), (0, u "inverseOdd"), (0, u "(J)J"), (0, .methodref 20 21), (0, .class_ 22), (0, .nameAndType 23 18), (0, u "com/example/tidewalk/tidewalk/problems/RandomStream"), (0, u "mix64"), (2, u "law"), (0, u "(J)Z")] 3

def k1m0 : Method := { name := "<init>", desc := "()V", sig := { parameters := [], returnType := none }, accessFlags := 1, code := none }
def k1c1 : Code := { maxStack := 8, maxLocals := 4, code := method_2_code, exceptionTable := #[], attributes := #[] }
def k1m1 : Method := { name := "inverseOdd", desc := "(J)J", sig := { parameters := [.long], returnType := some .long }, accessFlags := 10, code := some k1c1 }
def k1c2 : Code := { maxStack := 5, maxLocals := 15, code := code, exceptionTable := #[], attributes := #[] }
def k1m2 : Method := { name := "law", desc := "(J)Z", sig := { parameters := [.long], returnType := some .boolean }, accessFlags := 9, code := some k1c2 }
/-- com/example/tidewalk/tidewalk/problems/RandomStreamMix64PinLaw -/
def k1 : Class := { plain "com/example/tidewalk/tidewalk/problems/RandomStreamMix64PinLaw" (some 0) with
  accessFlags := 49
  interfaces := #[]
  cf := some (fileOf pool1 14 #[] #[{ accessFlags := 1, nameIndex := 5, descriptorIndex := 6, attributes := #[] }, { accessFlags := 10, nameIndex := 17, descriptorIndex := 18, attributes := #[] }, { accessFlags := 9, nameIndex := 26, descriptorIndex := 27, attributes := #[] }] 49 2 #[] #[])
  fields := #[]
  methods := #[k1m0, k1m1, k1m2]
  instanceTypes := #[]
  staticTypes := #[]
  resolved := Array.replicate 31 none
  statics := none }

def pool2 : Array CpInfo := pool [(2, .class_ 4), (1, u "java/lang/Object"), (3, .class_ 10), (1, u "com/example/tidewalk/tidewalk/problems/RandomStream"), (0, u "state"), (0, u "J"), (4, u "mix64"), (0, u "(J)J"), (43, .long 13787848793156543929), (1, .long 10723151780598845931), (1, u "GOLDEN_GAMMA"), (1, u "INT_RANGE")] 26

def k2c0 : Code := { maxStack := 5, maxLocals := 4, code := prog_40_method_7_code, exceptionTable := #[], attributes := #[] }
def k2m0 : Method := { name := "mix64", desc := "(J)J", sig := { parameters := [.long], returnType := some .long }, accessFlags := 8, code := some k2c0 }
/-- com/example/tidewalk/tidewalk/problems/RandomStream -/
def k2 : Class := { plain "com/example/tidewalk/tidewalk/problems/RandomStream" (some 0) with
  accessFlags := 49
  interfaces := #[]
  cf := some (fileOf pool2 8 #[] #[{ accessFlags := 8, nameIndex := 17, descriptorIndex := 18, attributes := #[] }] 49 2 #[] #[{ accessFlags := 26, nameIndex := 66, descriptorIndex := 12, attributes := #[] }, { accessFlags := 26, nameIndex := 68, descriptorIndex := 12, attributes := #[] }, { accessFlags := 2, nameIndex := 11, descriptorIndex := 12, attributes := #[] }])
  fields := #[{ name := "GOLDEN_GAMMA", type := .long, accessFlags := 26, slot := 0, constantValue := 0 }, { name := "INT_RANGE", type := .long, accessFlags := 26, slot := 1, constantValue := 0 }, { name := "state", type := .long, accessFlags := 2, slot := 0, constantValue := 0 }]
  methods := #[k2m0]
  instanceTypes := #[.long]
  staticTypes := #[.long, .long]
  resolved := Array.replicate 95 none
  statics := none }

def pool3 : Array CpInfo := pool [(1, u "java/lang/Cloneable"), (0, .class_ 1), (0, u "java/lang/Object"), (0, .class_ 3)] 3

/-- java/lang/Cloneable -/
def k3 : Class := { plain "java/lang/Cloneable" (some 0) with
  accessFlags := 1537
  interfaces := #[]
  cf := some (fileOf pool3 2 #[] #[] 1537 4 #[] #[])
  fields := #[]
  methods := #[]
  instanceTypes := #[]
  staticTypes := #[]
  resolved := Array.replicate 8 none
  statics := none }

def pool4 : Array CpInfo := pool [(1, u "java/io/Serializable"), (0, .class_ 1), (0, u "java/lang/Object"), (0, .class_ 3)] 3

/-- java/io/Serializable -/
def k4 : Class := { plain "java/io/Serializable" (some 0) with
  accessFlags := 1537
  interfaces := #[]
  cf := some (fileOf pool4 2 #[] #[] 1537 4 #[] #[])
  fields := #[]
  methods := #[]
  instanceTypes := #[]
  staticTypes := #[]
  resolved := Array.replicate 8 none
  statics := none }

/-- the primitive byte -/
def k5 : Class := { plain "byte" none with kind := .primitive 'B', accessFlags := 0x411 }
/-- [B -/
def k6 : Class := { plain "[B" (some 0) with kind := .array 5 .byte, interfaces := #[3, 4], accessFlags := 1041 }

/-- the primitive int -/
def k7 : Class := { plain "int" none with kind := .primitive 'I', accessFlags := 0x411 }
/-- [I -/
def k8 : Class := { plain "[I" (some 0) with kind := .array 7 .int, interfaces := #[3, 4], accessFlags := 1041 }

def heap : Heap := #[]
def classes : Array Class := #[k0, k1, k2, k3, k4, k5, k6, k7, k8]
def interned : List (Array UInt16 × Addr) := []
def slotsUsed : Nat := 0
def theMethod : MethodId := ⟨1, 2⟩
def args0 : Array Value := #[.long 5]
def aboutOver (below : List Frame) : State where
  vm := { classes := classes, interned := interned.toArray }
  heap := heap
  slotsUsed := slotsUsed
  threads := #[{ frames := .invoking theMethod args0 :: below }]
def below0 : List Frame := [.native { method := ⟨0, 0⟩, args := #[] }]
def about1 : State := aboutOver below0
def p0 : Program := .bare "" "" ""
def e0 : Env := launch0.env 0 0 0
theorem w_frames : about1.frames = Frame.invoking theMethod args0 :: below0 := rfl
set_option maxRecDepth 65536 in
theorem w_args : argsFit about1.vm theMethod args0 = true := by decide +kernel
set_option maxRecDepth 65536 in
theorem w_heap : heapFits about1 = true := by decide +kernel
set_option maxRecDepth 65536 in
theorem w_runnable : about1.curStatus? = some .runnable := by decide +kernel
set_option maxRecDepth 65536 in
theorem w_alone : about1.alone = true := by decide +kernel
set_option maxRecDepth 65536 in
theorem w_named : about1.methodNamed? x = some theMethod := by decide +kernel
set_option maxRecDepth 65536 in
theorem w_hears : about1.hears theMethod below0 = true := by decide +kernel
set_option maxRecDepth 65536 in
theorem w_ripe : about1.ripe theMethod args0 below0 = true := by decide +kernel
theorem w_running : about1.status = .running := rfl
set_option maxRecDepth 65536 in
theorem w_room : about1.hasRoom e0.platform room_1 = true :=
  launch0.hasRoom_least _ room_1 (by decide +kernel) (by decide +kernel) (by decide +kernel) (by decide +kernel) (by decide +kernel) (by decide +kernel)
theorem allAtoms_all (ts : List Jvm.Cond) (a : Array Jvm.Value) (st : Jvm.State) : (allAtoms ts).before a st = ts.all (fun c => c.before a st) := by
  induction ts with
  | nil => rfl
  | cons c t ih =>
    show (Jvm.Cond.and c (allAtoms t)).before a st = _
    rw [Jvm.Cond.before_and, ih, List.all_cons]
def words1 : List Jvm.Cond := Jvm.Cond.code x code maxLocals ret :: tables_1
/-- a 'code' word, met by the world's own term for the bytes: nothing is compared byte by byte -/
theorem code_word {y : MethodName} {bytes : ByteArray} {mx : Nat} {rt : Option FieldType} {a : Array Value} {s : State} {m : MethodId} {meth : Method} {c : Code} (h1 : s.methodNamed? y = some m) (h2 : s.vm.method? m = some meth) (h3 : meth.code = some c) (h4 : c.code = bytes)
    (h5 : (c.maxLocals == mx && c.exceptionTable.isEmpty && decide (c.maxStack ≤ mostOperands) && decide (meth.sig.returnType = rt) && !meth.locks && decide (parseMethodDescriptor y.desc = some meth.sig)) = true) : (Jvm.Cond.code y bytes mx rt).before a s = true := by
  simp only [Bool.and_eq_true, beq_iff_eq, Bool.not_eq_true', decide_eq_true_eq] at h5
  obtain ⟨⟨⟨⟨⟨g1, g2⟩, g3⟩, g4⟩, g5⟩, g6⟩ := h5
  simp [Cond.before, Cond.holds, Cond.value, h1, h2, h3, h4, g1, g2, g3, g4, g5, g6]
def isCode : Jvm.Cond → Bool
  | .code _ _ _ _ => true
  | _ => false
theorem all_split {L : List Jvm.Cond} {P : Jvm.Cond → Bool} (h1 : L.all (fun c => isCode c || P c) = true) (h2 : ∀ c ∈ L.filter isCode, P c = true) : L.all P = true := by
  refine List.all_eq_true.mpr fun c hc => ?_
  have h := List.all_eq_true.mp h1 c hc
  rcases Bool.eq_false_or_eq_true (isCode c) with hi | hi
  · exact h2 c (List.mem_filter.mpr ⟨hc, hi⟩)
  · simpa [hi] using h
set_option maxRecDepth 65536 in
theorem w_c0 : (Jvm.Cond.code x code maxLocals ret).before args0 about1 = true := code_word (m := ⟨1, 2⟩) (meth := k1m2) (c := k1c2) (by decide +kernel) rfl rfl rfl (by decide +kernel)
set_option maxRecDepth 65536 in
theorem w_c1 : (Jvm.Cond.code ({ cls := "com/example/tidewalk/tidewalk/problems/RandomStreamMix64PinLaw", name := "inverseOdd", desc := "(J)J" } : Jvm.MethodName) method_2_code (4 : Nat) (Option.some Jvm.ClassFile.FieldType.long)).before args0 about1 = true := code_word (m := ⟨1, 1⟩) (meth := k1m1) (c := k1c1) (by decide +kernel) rfl rfl rfl (by decide +kernel)
set_option maxRecDepth 65536 in
theorem w_c2 : (Jvm.Cond.code ({ cls := "com/example/tidewalk/tidewalk/problems/RandomStream", name := "mix64", desc := "(J)J" } : Jvm.MethodName) prog_40_method_7_code (4 : Nat) (Option.some Jvm.ClassFile.FieldType.long)).before args0 about1 = true := code_word (m := ⟨2, 0⟩) (meth := k2m0) (c := k2c0) (by decide +kernel) rfl rfl rfl (by decide +kernel)
def codes1 : List Jvm.Cond := [Jvm.Cond.code x code maxLocals ret, Jvm.Cond.code ({ cls := "com/example/tidewalk/tidewalk/problems/RandomStreamMix64PinLaw", name := "inverseOdd", desc := "(J)J" } : Jvm.MethodName) method_2_code (4 : Nat) (Option.some Jvm.ClassFile.FieldType.long), Jvm.Cond.code ({ cls := "com/example/tidewalk/tidewalk/problems/RandomStream", name := "mix64", desc := "(J)J" } : Jvm.MethodName) prog_40_method_7_code (4 : Nat) (Option.some Jvm.ClassFile.FieldType.long)]
set_option maxRecDepth 65536 in
theorem codes_eq : words1.filter isCode = codes1 := rfl
theorem w_codes : ∀ c ∈ words1.filter isCode, c.before args0 about1 = true := by
  rw [codes_eq]
  intro c hc
  simp only [codes1, List.mem_cons, List.not_mem_nil, or_false] at hc
  rcases hc with rfl | rfl | rfl
  · exact w_c0
  · exact w_c1
  · exact w_c2
set_option maxRecDepth 65536 in
theorem w_t1 : words1.all (fun c => isCode c || c.before args0 about1) = true := by decide +kernel
theorem w_tables : (allAtoms (Jvm.Cond.code x code maxLocals ret :: tables_1)).before args0 about1 = true := by
  rw [allAtoms_all]
  show words1.all (fun c => c.before args0 about1) = true
  refine all_split ?_ w_codes
  rw [w_t1]
set_option maxRecDepth 65536 in
theorem w_case : (Jvm.Cond.and given_1 narrow_1).before args0 about1 = true := by decide +kernel
theorem w_applies : (headSpec (Jvm.Cond.code x code maxLocals ret :: tables_1) room_1).applies x e0.platform about1 = true :=
  (Spec.applies_iff w_frames).mpr ⟨w_running, w_runnable, w_alone, w_named, w_hears, w_ripe, w_room, w_tables⟩
theorem atStart : AtStart classFile x code maxLocals ret World_1 tables_1 room_1 Calls_1 rest_1 Pre_1 launch0 p0 e0 about1 theMethod args0 below0 :=
  ⟨lists_1, trivial, launch0.admits_env _ _ _, launch0.least_env, fairChoices_fair.cas, fairChoices_fair.clock, w_frames, w_args, w_heap, w_applies, trivial, trivial, w_case⟩
end start1
theorem witness_1 : WitnessClaimed_1 := ⟨start1.p0, start1.e0, start1.about1, start1.theMethod, start1.args0, start1.below0, start1.atStart⟩
end Jvm.Pilot.@@N@@
