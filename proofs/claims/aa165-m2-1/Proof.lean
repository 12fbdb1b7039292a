import JvmDerived
import JvmDerived.Pilot.@@N@@Statement
import JvmDerived.Pilot.@@N@@Code
set_option linter.unusedVariables false
set_option linter.unusedSimpArgs false
namespace Jvm.Pilot.@@N@@
open Jvm Jvm.ClassFile Sem Op Lib Jvm.Free Jvm.Stand Jvm.LawKit Jvm.RoadKit Bundle Jvm.Pilot.@@N@@.Jvm.D
/-- the run from S ends as G says -/
def own_Fin (p : Program) (e : Env) (below : List Frame) (G : Outcome → State → Prop) (S : State) : Prop :=
  ∃ t o, Steps p.tables e below S t ∧ t.status = .running ∧ Ended t below o ∧ G o t
theorem own_go {p : Program} {e : Env} {below : List Frame} {G : Outcome → State → Prop} {S S' : State} (h : Steps p.tables e below S S') (k : own_Fin p e below G S') : own_Fin p e below G S := by
  obtain ⟨t, o, h1, h2, h3, h4⟩ := k
  exact ⟨t, o, h.trans h1, h2, h3, h4⟩
theorem own_by {p : Program} {e : Env} {below : List Frame} {G : Outcome → State → Prop} {S S' : State} (h : ∀ t, Steps p.tables e below S' t → Steps p.tables e below S t) (k : own_Fin p e below G S') : own_Fin p e below G S := by
  obtain ⟨t, o, h1, h2, h3, h4⟩ := k
  exact ⟨t, o, h t h1, h2, h3, h4⟩
theorem own_done {p : Program} {e : Env} {below : List Frame} {G : Outcome → State → Prop} {S t : State} {o : Outcome} (h1 : Steps p.tables e below S t) (h2 : t.status = .running) (h3 : Ended t below o) (h4 : G o t) : own_Fin p e below G S := ⟨t, o, h1, h2, h3, h4⟩
def own_get (rs : List Int32) (j : Int32) : Int32 := rs.getD j.toNatClampNeg 0
theorem own_getD (rs : List Int32) (j : Int32) : (rs.map Value.int).getD j.toNatClampNeg (.int (0 : Int32)) = .int (own_get rs j) := by
  unfold own_get
  rw [List.getD_eq_getElem?_getD, List.getD_eq_getElem?_getD, List.getElem?_map]
  cases rs[j.toNatClampNeg]? <;> rfl
theorem own_retI {p : Program} {l : Launch} {e : Env} {R : Room} {s : State} {m : MethodId} {args : Array Value} {below : List Frame} {meth : Method} {c : Code} {T : State} {locs : List Loc} {cells slots : Nat} (X : Stand p l e R s m args below meth c T locs cells slots) (hx : p.tables.exec = Jvm.exec) {pc : Nat} {Ls : Array Slot} {z : Int32} {rest : List Value} (hret : meth.sig.returnType = some .int) (hd : decode c.code pc = .ok (.ireturn, 1)) {fs : List Frame}
    (hl : ∀ (f : JFrame) (acts : List Action), f.method = m → f.locked = none → f.entered = [] → (doReturn e (T.setTop f) acts (some (.int z))).1 = T.setFrames fs) : Steps p.tables e below (T.setTop (mkF m pc Ls (.int z :: rest))) (T.setFrames fs) :=
  retOut X hx hret rfl (Or.inl ⟨rfl, Or.inl rfl, z, rfl⟩) hd hl
open Jvm.Free.Fl Jvm.Free.Fl.Abs
section OwnH
open Jvm.FP Jvm.Free.Fl
def own_h (a : Int64) : UInt64 := FP.ddiv (FP.l2d a) 4611686018427387904
theorem own_zd {s : Bool} {c : Nat} {q : Int} (hf : Core.fits Core.b64 (.fin s c q)) (hc : 4503599627370496 ≤ c) (hq : -52 ≤ q) : Core.quotient Core.b64 (.fin s c q) (Core.val64 4611686018427387904) = .fin s c (q - 1) := by
  rw [show Core.val64 4611686018427387904 = .fin false 4503599627370496 (-51) from by decide +kernel]
  have q1 : Core.b64.qmin = -1074 := by decide
  have q2 : Core.b64.qmax = 971 := by decide
  obtain ⟨f1, f2, f3, f4⟩ := hf
  show (if (4503599627370496 : Nat) = 0 then (if c = 0 then Core.Datum.nan else .inf (s != false)) else Core.roundRatio Core.b64 (s != false) c 4503599627370496 (q - -51)) = _
  rw [if_neg (by decide)]
  have e : (s != false) = s := by cases s <;> rfl
  rw [e]
  refine Core.roundRatio_exact Core.good_b64 (by decide) ⟨f1, by omega, by omega, Or.inr hc⟩ ?_
  rw [show (q - -51 - (q - 1)).toNat = 52 by omega, show (q - 1 - (q - -51)).toNat = 0 by omega]
  simp
theorem own_norm {a : Int64} (ha : ¬ a = 0) : ∃ s c q, Core.val64 (FP.l2d a) = .fin s c q ∧ 4503599627370496 ≤ c ∧ -52 ≤ q := by
  have h := l2d_big ha
  obtain ⟨h1, h2⟩ := h
  generalize hx : FP.l2d a = x at h1 h2 ⊢
  show ∃ s c q, Core.decode Core.b64 x.toNat = _ ∧ _
  have hE : Core.fieldE Core.b64 x.toNat = x.toNat % 9223372036854775808 / 4503599627370496 := by
    show x.toNat / 2 ^ 52 % 2 ^ 11 = _
    omega
  unfold Core.decode
  rw [hE]
  have t1 : Core.b64.exps = 2048 := by decide
  have t2 : Core.b64.tails = 4503599627370496 := by decide
  have t3 : Core.b64.qmin = -1074 := by decide
  rw [if_neg (by omega), if_neg (by omega)]
  exact ⟨_, _, _, rfl, by omega, by omega⟩
theorem own_hv {a : Int64} (ha : ¬ a = 0) : ∃ s c q, Core.val64 (FP.l2d a) = .fin s c q ∧ Core.val64 (own_h a) = .fin s c (q - 1) := by
  obtain ⟨s, c, q, h1, h2, h3⟩ := own_norm ha
  refine ⟨s, c, q, h1, ?_⟩
  show Core.val64 (Core.ddiv (Core.l2d a) 4611686018427387904) = _
  rw [Core.val64_ddiv, show Core.val64 (Core.l2d a) = _ from h1]
  exact own_zd (by rw [← h1]; exact Core.val64_fits _) h2 h3
theorem own_h0 : Core.val64 (own_h 0) = .fin false 0 (-1074) := by decide +kernel
theorem own_l0 : Core.val64 (FP.l2d 0) = .fin false 0 (-1074) := by decide +kernel
theorem own_ord1 {s t : Bool} {c d : Nat} {q r : Int} : Core.order (.fin s c (q - 1)) (.fin t d (r - 1)) = Core.order (.fin s c q) (.fin t d r) := by
  show some (compare (Core.signed s (c * 2 ^ (q - 1 - min (q - 1) (r - 1)).toNat)) (Core.signed t (d * 2 ^ (r - 1 - min (q - 1) (r - 1)).toNat))) = some (compare (Core.signed s (c * 2 ^ (q - min q r).toNat)) (Core.signed t (d * 2 ^ (r - min q r).toNat)))
  rw [show (q - 1 - min (q - 1) (r - 1)) = q - min q r by omega, show (r - 1 - min (q - 1) (r - 1)) = r - min q r by omega]
theorem own_gt {x : Int} (h : 0 < x) : compare x 0 = .gt := by
  show compareOfLessAndEq x 0 = .gt
  unfold compareOfLessAndEq
  rw [if_neg (by omega), if_neg (by omega)]
theorem own_lt0 {x : Int} (h : x < 0) : compare x 0 = .lt := by
  show compareOfLessAndEq x 0 = .lt
  unfold compareOfLessAndEq
  rw [if_pos h]
theorem own_sg (s : Bool) (c : Nat) (k : Nat) : compare (Core.signed s (c * 2 ^ k)) 0 = compare (Core.signed s c) 0 := by
  have h : 0 < 2 ^ k := Nat.two_pow_pos k
  generalize 2 ^ k = z at h
  by_cases hc : c = 0
  · subst hc; simp
  · have h1 : 0 < c * z := Nat.mul_pos (by omega) h
    cases s
    · show compare (((c * z : Nat)) : Int) 0 = compare ((c : Nat) : Int) 0
      rw [own_gt (by omega), own_gt (by omega)]
    · show compare (-((c * z : Nat) : Int)) 0 = compare (-((c : Nat) : Int)) 0
      rw [own_lt0 (by omega), own_lt0 (by omega)]
theorem own_ordz {s : Bool} {c : Nat} {q q' r : Int} : Core.order (.fin s c q) (.fin false 0 r) = Core.order (.fin s c q') (.fin false 0 r) := by
  show some (compare (Core.signed s (c * 2 ^ (q - min q r).toNat)) (Core.signed false (0 * 2 ^ (r - min q r).toNat))) = some (compare (Core.signed s (c * 2 ^ (q' - min q' r).toNat)) (Core.signed false (0 * 2 ^ (r - min q' r).toNat)))
  simp only [Nat.zero_mul, show Core.signed false 0 = 0 from rfl, own_sg]
theorem own_hc (a b : Int64) : FP.dcmp (own_h a) (own_h b) = FP.dcmp (FP.l2d a) (FP.l2d b) := by
  show Core.order (Core.val64 (own_h a)) (Core.val64 (own_h b)) = Core.order (Core.val64 (FP.l2d a)) (Core.val64 (FP.l2d b))
  by_cases ha : a = 0
  · by_cases hb : b = 0
    · subst ha hb; rw [own_h0, own_l0]
    · obtain ⟨s, c, q, e1, e2⟩ := own_hv hb
      subst ha
      rw [own_h0, own_l0, e1, e2, Core.order_swap (.fin s c (q - 1)), Core.order_swap (.fin s c q), own_ordz]
  · obtain ⟨s, c, q, e1, e2⟩ := own_hv ha
    by_cases hb : b = 0
    · subst hb
      rw [own_h0, own_l0, e1, e2]; exact own_ordz
    · obtain ⟨t, d, r, e3, e4⟩ := own_hv hb
      rw [e1, e2, e3, e4]; exact own_ord1
theorem own_hm (a : Int64) : Mag64 1091 (own_h a) := by
  have h := ddiv_mag (l2d_mag a) (show Big64 1024 4611686018427387904 from ⟨by decide +kernel, by decide +kernel⟩) (by decide) (by decide)
  have h' : Mag64 1088 (own_h a) := h
  unfold Mag64 at h' ⊢; omega
theorem own_hs (a b : Int64) : Fin64 (FP.dsub (own_h a) (own_h b)) := by
  have h := dsub_mag (own_hm a) (own_hm b) (by decide)
  rw [fin64_iff]; unfold Mag64 at h; omega
theorem own_hn (a : Int64) : NoNaN64 (own_h a) := by
  have h := own_hm a
  refine Fin64.noNaN ?_
  rw [fin64_iff]; unfold Mag64 at h; omega
end OwnH
def own_R (x : Int64) : Prop := -34359738368 ≤ x.toInt ∧ x.toInt ≤ 34359738368
theorem own_rb {x : Int64} (h : own_R x) : B53 x := ⟨by have := h.1; omega, by have := h.2; omega⟩
theorem own_hcmp {x y : Int64} (hx : own_R x) (hy : own_R y) (o : CmpOp) : cmpValue (FP.dcmp (own_h x) (own_h y)) o = lcmpW x y := by rw [own_hc]; exact dcmpV_w (own_rb hx) (own_rb hy) o
theorem own_isf {x : UInt64} (h : Fin64 x) : ¬ (0 : Int32) < cmpValue (FP.dcmp (x &&& 0x7fffffffffffffff) 9218868437227405311) .g := by
  rcases (FP.Core.le_max (noNaN64_no.mp h.noNaN)).mpr (fin64_core.mp h) with q | q <;> rw [show FP.dcmp (x &&& 0x7fffffffffffffff) 9218868437227405311 = _ from q] <;> decide
def own_in (lo hi x : Int64) : Int32 := if x < lo then (0 : Int32) else if hi < x then (0 : Int32) else (1 : Int32)
def own_ex (lo hi x : Int64) : Int32 := if (0 : Int32) < lcmpW lo x then (0 : Int32) else if (0 : Int32) < lcmpW x hi then (0 : Int32) else (1 : Int32)
theorem own_inex (lo hi x : Int64) : own_in lo hi x = own_ex lo hi x := by
  unfold own_in own_ex
  simp only [lw_gt]
theorem own_i64 (x : Int32) : -2147483648 ≤ x.toInt64.toInt ∧ x.toInt64.toInt ≤ 2147483647 := by
  rw [Int32.toInt_toInt64]; have h1 := x.le_toInt; have h2 := x.toInt_lt; omega
theorem own_nn (x : Int32) : 0 ≤ (x &&& (2147483647 : Int32)).toInt64.toInt := by
  have h1 : (x &&& (2147483647 : Int32)).toInt = x.toInt % (2 ^ 31 : Nat) := c_mask x 2147483647 31 (by decide) (by decide)
  rw [Int32.toInt_toInt64, h1]; omega
theorem own_lm {y : Int64} (h : -17179869184 ≤ y.toInt ∧ y.toInt ≤ 17179869184) : ((2 : Int64) * y).toInt = 2 * y.toInt := by
  rw [Int64.toInt_mul, show (2 : Int64).toInt = 2 from by decide]
  apply Int.bmod_eq_of_le <;> omega
theorem own_la {x y : Int64} (hx : -68719476736 ≤ x.toInt ∧ x.toInt ≤ 68719476736) (hy : -68719476736 ≤ y.toInt ∧ y.toInt ≤ 68719476736) : (x + y).toInt = x.toInt + y.toInt := add64 ⟨by omega, by omega⟩ ⟨by omega, by omega⟩
theorem own_ls {x y : Int64} (hx : -68719476736 ≤ x.toInt ∧ x.toInt ≤ 68719476736) (hy : -68719476736 ≤ y.toInt ∧ y.toInt ≤ 68719476736) : (x - y).toInt = x.toInt - y.toInt := sub64 ⟨by omega, by omega⟩ ⟨by omega, by omega⟩
theorem own_lo (x : Int32) : ((2 : Int64) * x.toInt64).toInt = 2 * x.toInt64.toInt := own_lm (by have := own_i64 x; omega)
theorem own_one : (1 : Int64).toInt = 1 := by decide
theorem own_hi (x y : Int32) : ((2 : Int64) * (x.toInt64 + (1 : Int64) + (y &&& (2147483647 : Int32)).toInt64)).toInt = 2 * (x.toInt64.toInt + 1 + (y &&& (2147483647 : Int32)).toInt64.toInt) := by
  have h1 := own_i64 x
  have h2 := own_i64 (y &&& (2147483647 : Int32))
  have e1 : (x.toInt64 + (1 : Int64)).toInt = x.toInt64.toInt + 1 := by rw [own_la (by omega) (by rw [own_one]; omega), own_one]
  have e2 : (x.toInt64 + (1 : Int64) + (y &&& (2147483647 : Int32)).toInt64).toInt = x.toInt64.toInt + 1 + (y &&& (2147483647 : Int32)).toInt64.toInt := by rw [own_la (by omega) (by omega), e1]
  rw [own_lm (by omega), e2]
theorem own_n8 (x : Int32) : x &&& (7 : Int32) = 0 ∨ x &&& (7 : Int32) = 1 ∨ x &&& (7 : Int32) = 2 ∨ x &&& (7 : Int32) = 3 ∨ x &&& (7 : Int32) = 4 ∨ x &&& (7 : Int32) = 5 ∨ x &&& (7 : Int32) = 6 ∨ x &&& (7 : Int32) = 7 := by
  have h1 : (x &&& (7 : Int32)).toInt = x.toInt % (2 ^ 3 : Nat) := c_mask x 7 3 (by decide) (by decide)
  generalize x &&& (7 : Int32) = y at h1 ⊢
  have h3 : y.toInt = (0 : Int32).toInt ∨ y.toInt = (1 : Int32).toInt ∨ y.toInt = (2 : Int32).toInt ∨ y.toInt = (3 : Int32).toInt ∨ y.toInt = (4 : Int32).toInt ∨ y.toInt = (5 : Int32).toInt ∨ y.toInt = (6 : Int32).toInt ∨ y.toInt = (7 : Int32).toInt := by
    simp only [Int32.reduceToInt]; omega
  simpa only [Int32.toInt_inj] using h3
theorem own_dm (x : Int32) : ¬ (x &&& (7 : Int32)) + (1 : Int32) < (1 : Int32) := by
  rcases own_n8 x with h | h | h | h | h | h | h | h <;> rw [h] <;> decide
def own_S (x : Int64) : Prop := -17179869184 ≤ x.toInt ∧ x.toInt ≤ 17179869184
theorem own_sr {x : Int64} (h : own_S x) : own_R x := ⟨by have := h.1; omega, by have := h.2; omega⟩
theorem own_sp {x : Int64} (h : own_S x) : own_R (x + (1 : Int64)) := by
  obtain ⟨h1, h2⟩ := h
  unfold own_R; rw [own_la ⟨by omega, by omega⟩ (by rw [own_one]; omega), own_one]; omega
theorem own_sm {x : Int64} (h : own_S x) : own_R (x - (1 : Int64)) := by
  obtain ⟨h1, h2⟩ := h
  unfold own_R; rw [own_ls ⟨by omega, by omega⟩ (by rw [own_one]; omega), own_one]; omega
theorem own_sl (x : Int32) : own_S ((2 : Int64) * x.toInt64) := by
  have := own_i64 x
  unfold own_S; rw [own_lo]; omega
theorem own_sh (x y : Int32) : own_S ((2 : Int64) * (x.toInt64 + (1 : Int64) + (y &&& (2147483647 : Int32)).toInt64)) := by
  have := own_i64 x
  have := own_i64 (y &&& (2147483647 : Int32))
  unfold own_S; rw [own_hi]; omega
theorem own_lh (x y : Int32) : (2 : Int64) * x.toInt64 < (2 : Int64) * (x.toInt64 + (1 : Int64) + (y &&& (2147483647 : Int32)).toInt64) := by
  have := own_nn y
  rw [Int64.lt_iff_toInt_lt, own_lo, own_hi]; omega
theorem d3_0 : decode jdk_117_method_8_code 0 = .ok (.dload_n 0, 1) := by decide +kernel
theorem d3_1 : decode jdk_117_method_8_code 1 = .ok (.invokestatic 38, 3) := by decide +kernel
theorem d3_4 : decode jdk_117_method_8_code 4 = .ok (.ldc2_w 111, 3) := by decide +kernel
theorem d3_7 : decode jdk_117_method_8_code 7 = .ok (.dcmp .g, 1) := by decide +kernel
theorem d3_8 : decode jdk_117_method_8_code 8 = .ok (.ifCond .gt 7, 3) := by decide +kernel
theorem d3_11 : decode jdk_117_method_8_code 11 = .ok (.iconst 1, 1) := by decide +kernel
theorem d3_12 : decode jdk_117_method_8_code 12 = .ok (.goto 4, 3) := by decide +kernel
theorem d3_15 : decode jdk_117_method_8_code 15 = .ok (.iconst 0, 1) := by decide +kernel
theorem d3_16 : decode jdk_117_method_8_code 16 = .ok (.ireturn, 1) := by decide +kernel
theorem pn_java_lang_Double : plainName "java/lang/Double" = true := by first | (simp [plainName, overriddenIn]; done) | decide +kernel
theorem ef_isf (m : MethodId) (x0 : UInt64) : entryFrame m #[(.double x0)] 2 = mkF m 0 #[.val (.double x0), .second] [] := by first | (simp [entryFrame, mkF, argsToLocals, Value.category]; done) | rfl
def Qisf (Z : State) (d1 : UInt64) (h0 : Heap) (n0 : Nat) (v : Option Value) (h : Heap) (L : List Loc) : Prop := v = some (.int (1 : Int32)) ∧ Fr n0 L ∧ h = h0
abbrev Gisf (Z : State) (d1 : UInt64) (h0 : Heap) (n0 : Nat) (s : State) : Outcome → State → Prop := fun o U' => ∃ v L, o = .returned v ∧ Qisf Z d1 h0 n0 v U'.heap L ∧ FrameEnd s o U' L ({ frames := 1, cells := 0, slots := 0, locals := 20 } : Room).cells ({ frames := 1, cells := 0, slots := 0, locals := 20 } : Room).slots
theorem pd__28_D_29_D : parseMethodDescriptor "(D)D" = some ⟨[.double], some .double⟩ := by decide +kernel
set_option maxRecDepth 65536 in
set_option maxHeartbeats 40000000 in
theorem rmisf (l : Launch) (Z : State) (a0 : Array Value) (hw : ∀ d ∈ tables_1, d.before a0 Z = true) (ws : List Jvm.Cond) (d1 : UInt64) (h0 : Heap) (n0 : Nat) (Z0 : n0 ≤ h0.size) (hf : Fin64 d1) :
    MetFree l (⟨"java/lang/Double", "isFinite", "(D)Z"⟩ : MethodName) (head1 (Jvm.Cond.code (⟨"java/lang/Double", "isFinite", "(D)Z"⟩ : MethodName) jdk_117_method_8_code 2 (some .boolean) :: ws) ({ frames := 1, cells := 0, slots := 0, locals := 20 } : Room)) (fun a U => a = #[(.double d1)] ∧ Z.Warmed39 U.vm ∧ U.heap = h0) (fun _ _ _ _ _ => True) (fun _ U o U' => ∃ v L, o = .returned v ∧ Qisf Z d1 h0 n0 v U'.heap L ∧ FrameEnd U o U' L ({ frames := 1, cells := 0, slots := 0, locals := 20 } : Room).cells ({ frames := 1, cells := 0, slots := 0, locals := 20 } : Room).slots) := by
  refine MetFree.of_bodySF (plainFor_of_name pn_java_lang_Double) hisR ?_
  intro p e s m args below meth c s₁ Bd hml0 hP hK
  obtain ⟨rfl, hZ, hh⟩ := hP
  have hx := Bd.exec
  have hby := Bd.bytes
  have hml : c.maxLocals = 2 := hml0
  have hown : s.vm.findClass "java/lang/Double" = some m.cls := findClass_of_methodNamed Bd.named
  have hnm := (name_of_methodNamed Bd.named Bd.method).1
  have X0 : Stand p l e ({ frames := 1, cells := 0, slots := 0, locals := 20 } : Room) s m #[(.double d1)] below meth c s₁ [] 0 0 := Stand.of_body Bd
  have e0 : s₁.heap = h0 := by rw [← hh, Bd.state]; rfl
  have es0 : s.heap = h0 := hh
  have N0 := Fr.nil n0
  show own_Fin p e below (Gisf Z d1 h0 n0 s) (s₁.setTop (entryFrame m #[(.double d1)] 2))
  rw [ef_isf m d1]
  refine own_go (XS.dloadN X0.here hx rfl (hb hby d3_0) rfl (Steps.refl _)) ?_
  show own_Fin _ _ _ _ (s₁.setTop (mkF m 1 #[.val (.double d1), .second] [(.double d1)]))
  obtain ⟨T1, X1, e1, st1⟩ := natS X0 hx hZ hown (hw _ (List.mem_of_getElem? (i := 16) rfl)) (hw _ (List.mem_of_getElem? (i := 17) rfl)) (hw _ (List.mem_of_getElem? (i := 18) rfl)) (hw _ (List.mem_of_getElem? (i := 19) rfl)) (by decide) e0 (W := 0) (F := fun a' => a' = #[.double d1] ∧ NoNaN64 d1) (val := (.double (d1 &&& 0x7fffffffffffffff))) (fun hc => absD_pays d1 hc (by decide) (by decide)) (g := (mkF m 1 #[.val (.double d1), .second] [(.double d1)])) rfl (by rw [hml]; rfl) (argsL := [(.double d1)]) (rest := []) (lenOf pd__28_D_29_D rfl) rfl (by show 2 * 0 + _ ≤ _; exact Nat.le_of_eq rfl) (hb hby d3_1) (by decide) (by decide) ⟨rfl, hf.noNaN⟩ rfl
  refine own_by st1 ?_
  show own_Fin _ _ _ _ (T1.setTop (mkF m 4 #[.val (.double d1), .second] [(.double (d1 &&& 0x7fffffffffffffff))]))
  refine own_by (X1.ldc2DoubleC hx hown (mvT hZ (hw _ (List.mem_of_getElem? (i := 20) rfl))) (g := (mkF m 4 #[.val (.double d1), .second] [(.double (d1 &&& 0x7fffffffffffffff))])) rfl (hb hby d3_4)) ?_
  show own_Fin _ _ _ _ (T1.setTop (mkF m 7 #[.val (.double d1), .second] [(.double (9218868437227405311 : UInt64)), (.double (d1 &&& 0x7fffffffffffffff))]))
  refine own_go (XS.dcmpS X1.here hx rfl (hb hby d3_7) rfl (show cmpValue (FP.dcmp (d1 &&& 0x7fffffffffffffff) (9218868437227405311 : UInt64)) .g = (cmpValue (FP.dcmp (d1 &&& 0x7fffffffffffffff) (9218868437227405311 : UInt64)) .g) from rfl) (Steps.refl _)) ?_
  show own_Fin _ _ _ _ (T1.setTop (mkF m 8 #[.val (.double d1), .second] [(.int (cmpValue (FP.dcmp (d1 &&& 0x7fffffffffffffff) (9218868437227405311 : UInt64)) .g))]))
  refine own_go (XS.ifNo X1.here hx rfl (hb hby d3_8) rfl ((if0 _ _).trans (flt (show ¬ ((0 : Int32) < (cmpValue (FP.dcmp (d1 &&& 0x7fffffffffffffff) (9218868437227405311 : UInt64)) .g)) from (own_isf hf))).2.2.1) (Steps.refl _)) ?_
  show own_Fin _ _ _ _ (T1.setTop (mkF m 11 #[.val (.double d1), .second] []))
  refine own_go (XS.iconst X1.here hx rfl (hb hby d3_11) (Steps.refl _)) ?_
  show own_Fin _ _ _ _ (T1.setTop (mkF m 12 #[.val (.double d1), .second] [(.int (1 : Int32))]))
  refine own_go (XS.goto X1.here hx rfl (pc0 := 12) (pc' := 16) rfl (hb hby d3_12) (by decide) (by decide) (Steps.refl _)) ?_
  show own_Fin _ _ _ _ (T1.setTop (mkF m 16 #[.val (.double d1), .second] [(.int (1 : Int32))]))
  obtain ⟨fs2, hr2, hrun2, hended2, hW2, hsame2⟩ := X1.leave (v := some (.int (1 : Int32))) (fun h => by rw [Bd.returns] at h; cases h)
  refine own_done (retN X1 hx (t := .boolean) Bd.returns (by simp) (hb hby d3_16) hr2) hrun2 hended2 ⟨_, _, rfl, ?_, ⟨_, rfl⟩, hW2, hsame2.mono (by decide) (by decide)⟩
  show Qisf Z d1 h0 n0 _ T1.heap _
  rw [e1]
  exact ⟨rfl, N0, rfl⟩
theorem d1_0 : decode prog_41_method_1_code 0 = .ok (.aload_n 0, 1) := by decide +kernel
theorem d1_1 : decode prog_41_method_1_code 1 = .ok (.invokespecial 1, 3) := by decide +kernel
theorem d1_4 : decode prog_41_method_1_code 4 = .ok (.iload_n 1, 1) := by decide +kernel
theorem d1_5 : decode prog_41_method_1_code 5 = .ok (.iconst 1, 1) := by decide +kernel
theorem d1_6 : decode prog_41_method_1_code 6 = .ok (.if_icmp .ge 17, 3) := by decide +kernel
theorem d1_9 : decode prog_41_method_1_code 9 = .ok (.new 7, 3) := by decide +kernel
theorem d1_12 : decode prog_41_method_1_code 12 = .ok (.dup, 1) := by decide +kernel
theorem d1_13 : decode prog_41_method_1_code 13 = .ok (.iload_n 1, 1) := by decide +kernel
theorem d1_19 : decode prog_41_method_1_code 19 = .ok (.invokespecial 13, 3) := by decide +kernel
theorem d1_22 : decode prog_41_method_1_code 22 = .ok (.athrow, 1) := by decide +kernel
theorem d1_23 : decode prog_41_method_1_code 23 = .ok (.dload_n 2, 1) := by decide +kernel
theorem d1_24 : decode prog_41_method_1_code 24 = .ok (.dload 4, 2) := by decide +kernel
theorem d1_26 : decode prog_41_method_1_code 26 = .ok (.dcmp .g, 1) := by decide +kernel
theorem d1_27 : decode prog_41_method_1_code 27 = .ok (.ifCond .ge 13, 3) := by decide +kernel
theorem d1_30 : decode prog_41_method_1_code 30 = .ok (.dload 4, 2) := by decide +kernel
theorem d1_32 : decode prog_41_method_1_code 32 = .ok (.dload_n 2, 1) := by decide +kernel
theorem d1_33 : decode prog_41_method_1_code 33 = .ok (.dsub, 1) := by decide +kernel
theorem d1_34 : decode prog_41_method_1_code 34 = .ok (.invokestatic 16, 3) := by decide +kernel
theorem d1_37 : decode prog_41_method_1_code 37 = .ok (.ifCond .ne 19, 3) := by decide +kernel
theorem d1_40 : decode prog_41_method_1_code 40 = .ok (.new 7, 3) := by decide +kernel
theorem d1_43 : decode prog_41_method_1_code 43 = .ok (.dup, 1) := by decide +kernel
theorem d1_44 : decode prog_41_method_1_code 44 = .ok (.dload_n 2, 1) := by decide +kernel
theorem d1_45 : decode prog_41_method_1_code 45 = .ok (.dload 4, 2) := by decide +kernel
theorem d1_52 : decode prog_41_method_1_code 52 = .ok (.invokespecial 13, 3) := by decide +kernel
theorem d1_55 : decode prog_41_method_1_code 55 = .ok (.athrow, 1) := by decide +kernel
theorem d1_56 : decode prog_41_method_1_code 56 = .ok (.aload_n 0, 1) := by decide +kernel
theorem d1_57 : decode prog_41_method_1_code 57 = .ok (.iload_n 1, 1) := by decide +kernel
theorem d1_58 : decode prog_41_method_1_code 58 = .ok (.putfield 25, 3) := by decide +kernel
theorem d1_61 : decode prog_41_method_1_code 61 = .ok (.aload_n 0, 1) := by decide +kernel
theorem d1_62 : decode prog_41_method_1_code 62 = .ok (.dload_n 2, 1) := by decide +kernel
theorem d1_63 : decode prog_41_method_1_code 63 = .ok (.putfield 31, 3) := by decide +kernel
theorem d1_66 : decode prog_41_method_1_code 66 = .ok (.aload_n 0, 1) := by decide +kernel
theorem d1_67 : decode prog_41_method_1_code 67 = .ok (.dload 4, 2) := by decide +kernel
theorem d1_69 : decode prog_41_method_1_code 69 = .ok (.putfield 35, 3) := by decide +kernel
theorem d1_72 : decode prog_41_method_1_code 72 = .ok (.return_, 1) := by decide +kernel
theorem pn_com_example_tidewalk_tidewalk_problems_RealBox : plainName "com/example/tidewalk/tidewalk/problems/RealBox" = true := by first | (simp [plainName, overriddenIn]; done) | decide +kernel
theorem ef_ini (m : MethodId) (x0 : Addr) (x1 : Int32) (x2 : UInt64) (x3 : UInt64) : entryFrame m #[(.ref x0), (.int x1), (.double x2), (.double x3)] 6 = mkF m 0 #[.val (.ref x0), .val (.int x1), .val (.double x2), .second, .val (.double x3), .second] [] := by first | (simp [entryFrame, mkF, argsToLocals, Value.category]; done) | rfl
def Qini (Z : State) (a1 : Addr) (p2 : Int32) (lo : Int64) (hi : Int64) (h0 : Heap) (n0 : Nat) (v : Option Value) (h : Heap) (L : List Loc) : Prop := v = none ∧ Fr n0 L ∧ Keep h0 h [a1] ∧ Exa Z h a1 "com/example/tidewalk/tidewalk/problems/RealBox" ∧ Fld Z h a1 "com/example/tidewalk/tidewalk/problems/RealBox" "dimensions" "I" (.int p2) ∧ Fld Z h a1 "com/example/tidewalk/tidewalk/problems/RealBox" "min" "D" (.double (own_h lo)) ∧ Fld Z h a1 "com/example/tidewalk/tidewalk/problems/RealBox" "max" "D" (.double (own_h hi))
abbrev Gini (Z : State) (a1 : Addr) (p2 : Int32) (lo : Int64) (hi : Int64) (h0 : Heap) (n0 : Nat) (s : State) : Outcome → State → Prop := fun o U' => ∃ v L, o = .returned v ∧ Qini Z a1 p2 lo hi h0 n0 v U'.heap L ∧ FrameEnd s o U' L ({ frames := 2, cells := 0, slots := 0, locals := 48 } : Room).cells ({ frames := 2, cells := 0, slots := 0, locals := 48 } : Room).slots
theorem pd__28_D_29_Z : parseMethodDescriptor "(D)Z" = some ⟨[.double], some .boolean⟩ := by decide +kernel
set_option maxRecDepth 65536 in
set_option maxHeartbeats 40000000 in
theorem rmini (l : Launch) (Z : State) (a0 : Array Value) (hw : ∀ d ∈ tables_1, d.before a0 Z = true) (ws : List Jvm.Cond) (a1 : Addr) (p2 : Int32) (lo : Int64) (hi : Int64) (h0 : Heap) (n0 : Nat) (Z0 : n0 ≤ h0.size) (E_a1 : Exa Z h0 a1 "com/example/tidewalk/tidewalk/problems/RealBox") (F_dimensions_a1 : Fld Z h0 a1 "com/example/tidewalk/tidewalk/problems/RealBox" "dimensions" "I" (.int (0 : Int32))) (F_min_a1 : Fld Z h0 a1 "com/example/tidewalk/tidewalk/problems/RealBox" "min" "D" (.double (0 : UInt64))) (F_max_a1 : Fld Z h0 a1 "com/example/tidewalk/tidewalk/problems/RealBox" "max" "D" (.double (0 : UInt64))) (g_a1 : n0 ≤ a1) (hd : ¬ p2 < (1 : Int32)) (hlt : lo < hi) (hlo : own_R lo) (hhi : own_R hi) :
    MetFree l (⟨"com/example/tidewalk/tidewalk/problems/RealBox", "<init>", "(IDD)V"⟩ : MethodName) (head1 (Jvm.Cond.code (⟨"com/example/tidewalk/tidewalk/problems/RealBox", "<init>", "(IDD)V"⟩ : MethodName) prog_41_method_1_code 6 none :: ws) ({ frames := 2, cells := 0, slots := 0, locals := 48 } : Room)) (fun a U => a = #[(.ref a1), (.int p2), (.double (own_h lo)), (.double (own_h hi))] ∧ Z.Warmed39 U.vm ∧ U.heap = h0) (fun _ _ _ _ _ => True) (fun _ U o U' => ∃ v L, o = .returned v ∧ Qini Z a1 p2 lo hi h0 n0 v U'.heap L ∧ FrameEnd U o U' L ({ frames := 2, cells := 0, slots := 0, locals := 48 } : Room).cells ({ frames := 2, cells := 0, slots := 0, locals := 48 } : Room).slots) := by
  refine MetFree.of_bodySF (plainFor_of_name pn_com_example_tidewalk_tidewalk_problems_RealBox) hisR ?_
  intro p e s m args below meth c s₁ Bd hml0 hP hK
  obtain ⟨rfl, hZ, hh⟩ := hP
  have hx := Bd.exec
  have hby := Bd.bytes
  have hml : c.maxLocals = 6 := hml0
  have hown : s.vm.findClass "com/example/tidewalk/tidewalk/problems/RealBox" = some m.cls := findClass_of_methodNamed Bd.named
  have hnm := (name_of_methodNamed Bd.named Bd.method).1
  have X0 : Stand p l e ({ frames := 2, cells := 0, slots := 0, locals := 48 } : Room) s m #[(.ref a1), (.int p2), (.double (own_h lo)), (.double (own_h hi))] below meth c s₁ [] 0 0 := Stand.of_body Bd
  have e0 : s₁.heap = h0 := by rw [← hh, Bd.state]; rfl
  have es0 : s.heap = h0 := hh
  have N0 := Fr.nil n0
  show own_Fin p e below (Gini Z a1 p2 lo hi h0 n0 s) (s₁.setTop (entryFrame m #[(.ref a1), (.int p2), (.double (own_h lo)), (.double (own_h hi))] 6))
  rw [ef_ini m a1 p2 (own_h lo) (own_h hi)]
  have Kz := Keep.refl h0 [a1]
  refine own_go (XS.aloadN X0.here hx rfl (hb hby d1_0) rfl rfl (Steps.refl _)) ?_
  show own_Fin _ _ _ _ (s₁.setTop (mkF m 1 #[rv a1, iv p2, .val (.double (own_h lo)), .second, .val (.double (own_h hi)), .second] [(.ref a1)]))
  obtain ⟨T3, X3, e3, st3⟩ := initO X0 hx hZ hown (hw _ (List.mem_of_getElem? (i := 9) rfl)) (hw _ (List.mem_of_getElem? (i := 10) rfl)) (hw _ (List.mem_of_getElem? (i := 11) rfl)) e0 (g := (mkF m 1 #[rv a1, iv p2, .val (.double (own_h lo)), .second, .val (.double (own_h hi)), .second] [(.ref a1)])) rfl (by rw [hml]; rfl) rfl (hb hby d1_1) (by decide) (W := 0) (by show 2 * 0 + _ ≤ _; exact Nat.le_of_eq rfl) (by decide)
  refine own_by st3 ?_
  show own_Fin _ _ _ _ (T3.setTop (mkF m 4 #[rv a1, iv p2, .val (.double (own_h lo)), .second, .val (.double (own_h hi)), .second] []))
  refine own_go (XS.iloadN X3.here hx rfl (hb hby d1_4) rfl (Steps.refl _)) ?_
  show own_Fin _ _ _ _ (T3.setTop (mkF m 5 #[rv a1, iv p2, .val (.double (own_h lo)), .second, .val (.double (own_h hi)), .second] [(.int p2)]))
  refine own_go (XS.iconst X3.here hx rfl (hb hby d1_5) (Steps.refl _)) ?_
  show own_Fin _ _ _ _ (T3.setTop (mkF m 6 #[rv a1, iv p2, .val (.double (own_h lo)), .second, .val (.double (own_h hi)), .second] [(.int (1 : Int32)), (.int p2)]))
  refine own_go (XS.icmpYes X3.here hx rfl (pc0 := 6) (pc' := 23) rfl (hb hby d1_6) rfl (flt (show ¬ (p2 < (1 : Int32)) from hd)).2.1 (by decide) (by decide) (Steps.refl _)) ?_
  show own_Fin _ _ _ _ (T3.setTop (mkF m 23 #[rv a1, iv p2, .val (.double (own_h lo)), .second, .val (.double (own_h hi)), .second] []))
  refine own_go (XS.dloadN X3.here hx rfl (hb hby d1_23) rfl (Steps.refl _)) ?_
  show own_Fin _ _ _ _ (T3.setTop (mkF m 24 #[rv a1, iv p2, .val (.double (own_h lo)), .second, .val (.double (own_h hi)), .second] [(.double (own_h lo))]))
  refine own_go (XS.dload X3.here hx rfl (hb hby d1_24) rfl (Steps.refl _)) ?_
  show own_Fin _ _ _ _ (T3.setTop (mkF m 26 #[rv a1, iv p2, .val (.double (own_h lo)), .second, .val (.double (own_h hi)), .second] [(.double (own_h hi)), (.double (own_h lo))]))
  refine own_go (XS.dcmpS X3.here hx rfl (hb hby d1_26) rfl (show cmpValue (FP.dcmp (own_h lo) (own_h hi)) .g = (lcmpW lo hi) from (own_hcmp hlo hhi _)) (Steps.refl _)) ?_
  show own_Fin _ _ _ _ (T3.setTop (mkF m 27 #[rv a1, iv p2, .val (.double (own_h lo)), .second, .val (.double (own_h hi)), .second] [(.int (lcmpW lo hi))]))
  refine own_go (XS.ifNo X3.here hx rfl (hb hby d1_27) rfl ((if0 _ _).trans (tlt (show (lcmpW lo hi) < (0 : Int32) from ((lw_lt _ _).mpr hlt))).2.1) (Steps.refl _)) ?_
  show own_Fin _ _ _ _ (T3.setTop (mkF m 30 #[rv a1, iv p2, .val (.double (own_h lo)), .second, .val (.double (own_h hi)), .second] []))
  refine own_go (XS.dload X3.here hx rfl (hb hby d1_30) rfl (Steps.refl _)) ?_
  show own_Fin _ _ _ _ (T3.setTop (mkF m 32 #[rv a1, iv p2, .val (.double (own_h lo)), .second, .val (.double (own_h hi)), .second] [(.double (own_h hi))]))
  refine own_go (XS.dloadN X3.here hx rfl (hb hby d1_32) rfl (Steps.refl _)) ?_
  show own_Fin _ _ _ _ (T3.setTop (mkF m 33 #[rv a1, iv p2, .val (.double (own_h lo)), .second, .val (.double (own_h hi)), .second] [(.double (own_h lo)), (.double (own_h hi))]))
  refine own_go (XS.dsubS X3.here hx rfl (hb hby d1_33) rfl (own_hs _ _).noNaN rfl (Steps.refl _)) ?_
  show own_Fin _ _ _ _ (T3.setTop (mkF m 34 #[rv a1, iv p2, .val (.double (own_h lo)), .second, .val (.double (own_h hi)), .second] [(.double (FP.dsub (own_h hi) (own_h lo)))]))
  obtain ⟨_, _, ⟨T4, L4, k4, n4⟩, -, X4, ⟨Lc4, hQ4, l4, y4, z4⟩, st4⟩ := Jvm.LawKit.callS X3 hx (y := (⟨"java/lang/Double", "isFinite", "(D)Z"⟩ : MethodName)) hown (mvT hZ (hw _ (List.mem_of_getElem? (i := 12) rfl))) (mvT hZ (hw _ (List.mem_of_getElem? (i := 13) rfl))) (mvT hZ (hw _ (List.mem_of_getElem? (i := 14) rfl))) (mvT hZ (hw _ (List.mem_of_getElem? (i := 15) rfl))) (by decide) (backOf (W := 0) (rmisf l Z a0 hw [] (FP.dsub (own_h hi) (own_h lo)) h0 n0 Z0 (own_hs _ _)) hZ (hw _ (List.mem_of_getElem? (i := 15) rfl)) (hw _ (List.mem_of_getElem? (i := 14) rfl)) (by decide) (by decide)) (g := (mkF m 34 #[rv a1, iv p2, .val (.double (own_h lo)), .second, .val (.double (own_h hi)), .second] [(.double (FP.dsub (own_h hi) (own_h lo)))])) rfl (by rw [hml]; rfl) (argsL := [(.double (FP.dsub (own_h hi) (own_h lo)))]) (rest := []) (lenOf pd__28_D_29_Z rfl) rfl (by show 2 * 0 + _ ≤ _; exact Nat.le_of_eq rfl) (hb hby d1_34) (fun _ hv => ⟨rfl, e3, (by decide : 0 + 0 ≤ _), (by decide : 0 + 0 ≤ _)⟩)
  dsimp only [Pt.U, Pt.locs, Pt.cells, Pt.slots] at X4 l4 y4 z4 st4 hQ4
  subst l4 y4 z4
  obtain ⟨rfl, Nq4, e4⟩ := hQ4
  refine own_by st4 ?_
  have N4 := Fr.app N0 Nq4
  show own_Fin _ _ _ _ (T4.setTop (mkF m 37 #[rv a1, iv p2, .val (.double (own_h lo)), .second, .val (.double (own_h hi)), .second] [(.int (1 : Int32))]))
  refine own_go (XS.ifYes X4.here hx rfl (pc0 := 37) (pc' := 56) rfl (hb hby d1_37) rfl ((if0 _ _).trans (feq (by decide : ¬ ((1 : Int32) = (0 : Int32)))).2) (by decide) (by decide) (Steps.refl _)) ?_
  show own_Fin _ _ _ _ (T4.setTop (mkF m 56 #[rv a1, iv p2, .val (.double (own_h lo)), .second, .val (.double (own_h hi)), .second] []))
  refine own_go (XS.aloadN X4.here hx rfl (hb hby d1_56) rfl rfl (Steps.refl _)) ?_
  show own_Fin _ _ _ _ (T4.setTop (mkF m 57 #[rv a1, iv p2, .val (.double (own_h lo)), .second, .val (.double (own_h hi)), .second] [(.ref a1)]))
  refine own_go (XS.iloadN X4.here hx rfl (hb hby d1_57) rfl (Steps.refl _)) ?_
  show own_Fin _ _ _ _ (T4.setTop (mkF m 58 #[rv a1, iv p2, .val (.double (own_h lo)), .second, .val (.double (own_h hi)), .second] [(.int p2), (.ref a1)]))
  obtain ⟨T5, h5, X5, e5, W5, st5⟩ := putF X4 hx hZ hown (host := "") (Or.inl (hw _ (List.mem_of_getElem? (i := 21) rfl))) Via.refl e4 F_dimensions_a1 E_a1 (Or.inr ⟨(hw _ (List.mem_of_getElem? (i := 22) rfl)), rfl, hnm⟩) (hw _ (List.mem_of_getElem? (i := 4) rfl)) (ty := .int) (by decide) rfl rfl (g := (mkF m 58 #[rv a1, iv p2, .val (.double (own_h lo)), .second, .val (.double (own_h hi)), .second] [(.int p2), (.ref a1)])) rfl rfl (hb hby d1_58)
  refine own_by st5 ?_
  have F_dimensions_a1_5 := F_dimensions_a1.same W5
  have E_a1_5 := E_a1.wr W5
  have F_min_a1_5 := F_min_a1.other W5 (Or.inr (slot_ne (Or.inr (hw _ (List.mem_of_getElem? (i := 24) rfl))) (Or.inr (hw _ (List.mem_of_getElem? (i := 22) rfl))) (by decide) (t := .double) (t' := .int) (by decide) (by decide)))
  have F_max_a1_5 := F_max_a1.other W5 (Or.inr (slot_ne (Or.inr (hw _ (List.mem_of_getElem? (i := 26) rfl))) (Or.inr (hw _ (List.mem_of_getElem? (i := 22) rfl))) (by decide) (t := .double) (t' := .int) (by decide) (by decide)))
  have N5 := Fr.snoc X5 N4 g_a1
  have Z5 : n0 ≤ h5.size := Nat.le_trans Z0 (Keep.of_wr W5).1
  have K5 := Kz.wr W5 (Or.inl (List.mem_of_getElem? (i := 0) rfl))
  show own_Fin _ _ _ _ (T5.setTop (mkF m 61 #[rv a1, iv p2, .val (.double (own_h lo)), .second, .val (.double (own_h hi)), .second] []))
  refine own_go (XS.aloadN X5.here hx rfl (hb hby d1_61) rfl rfl (Steps.refl _)) ?_
  show own_Fin _ _ _ _ (T5.setTop (mkF m 62 #[rv a1, iv p2, .val (.double (own_h lo)), .second, .val (.double (own_h hi)), .second] [(.ref a1)]))
  refine own_go (XS.dloadN X5.here hx rfl (hb hby d1_62) rfl (Steps.refl _)) ?_
  show own_Fin _ _ _ _ (T5.setTop (mkF m 63 #[rv a1, iv p2, .val (.double (own_h lo)), .second, .val (.double (own_h hi)), .second] [(.double (own_h lo)), (.ref a1)]))
  obtain ⟨T6, h6, X6, e6, W6, st6⟩ := putF X5 hx hZ hown (host := "") (Or.inl (hw _ (List.mem_of_getElem? (i := 23) rfl))) Via.refl e5 F_min_a1_5 E_a1_5 (Or.inr ⟨(hw _ (List.mem_of_getElem? (i := 24) rfl)), rfl, hnm⟩) (hw _ (List.mem_of_getElem? (i := 4) rfl)) (ty := .double) (by decide) rfl rfl (g := (mkF m 63 #[rv a1, iv p2, .val (.double (own_h lo)), .second, .val (.double (own_h hi)), .second] [(.double (own_h lo)), (.ref a1)])) rfl rfl (hb hby d1_63)
  refine own_by st6 ?_
  have F_min_a1_6 := F_min_a1_5.same W6
  have E_a1_6 := E_a1_5.wr W6
  have F_dimensions_a1_6 := F_dimensions_a1_5.other W6 (Or.inr (slot_ne (Or.inr (hw _ (List.mem_of_getElem? (i := 22) rfl))) (Or.inr (hw _ (List.mem_of_getElem? (i := 24) rfl))) (by decide) (t := .int) (t' := .double) (by decide) (by decide)))
  have F_max_a1_6 := F_max_a1_5.other W6 (Or.inr (slot_ne (Or.inr (hw _ (List.mem_of_getElem? (i := 26) rfl))) (Or.inr (hw _ (List.mem_of_getElem? (i := 24) rfl))) (by decide) (t := .double) (t' := .double) (by decide) (by decide)))
  have N6 := Fr.snoc X6 N5 g_a1
  have Z6 : n0 ≤ h6.size := Nat.le_trans Z5 (Keep.of_wr W6).1
  have K6 := K5.wr W6 (Or.inl (List.mem_of_getElem? (i := 0) rfl))
  show own_Fin _ _ _ _ (T6.setTop (mkF m 66 #[rv a1, iv p2, .val (.double (own_h lo)), .second, .val (.double (own_h hi)), .second] []))
  refine own_go (XS.aloadN X6.here hx rfl (hb hby d1_66) rfl rfl (Steps.refl _)) ?_
  show own_Fin _ _ _ _ (T6.setTop (mkF m 67 #[rv a1, iv p2, .val (.double (own_h lo)), .second, .val (.double (own_h hi)), .second] [(.ref a1)]))
  refine own_go (XS.dload X6.here hx rfl (hb hby d1_67) rfl (Steps.refl _)) ?_
  show own_Fin _ _ _ _ (T6.setTop (mkF m 69 #[rv a1, iv p2, .val (.double (own_h lo)), .second, .val (.double (own_h hi)), .second] [(.double (own_h hi)), (.ref a1)]))
  obtain ⟨T7, h7, X7, e7, W7, st7⟩ := putF X6 hx hZ hown (host := "") (Or.inl (hw _ (List.mem_of_getElem? (i := 25) rfl))) Via.refl e6 F_max_a1_6 E_a1_6 (Or.inr ⟨(hw _ (List.mem_of_getElem? (i := 26) rfl)), rfl, hnm⟩) (hw _ (List.mem_of_getElem? (i := 4) rfl)) (ty := .double) (by decide) rfl rfl (g := (mkF m 69 #[rv a1, iv p2, .val (.double (own_h lo)), .second, .val (.double (own_h hi)), .second] [(.double (own_h hi)), (.ref a1)])) rfl rfl (hb hby d1_69)
  refine own_by st7 ?_
  have F_max_a1_7 := F_max_a1_6.same W7
  have E_a1_7 := E_a1_6.wr W7
  have F_dimensions_a1_7 := F_dimensions_a1_6.other W7 (Or.inr (slot_ne (Or.inr (hw _ (List.mem_of_getElem? (i := 22) rfl))) (Or.inr (hw _ (List.mem_of_getElem? (i := 26) rfl))) (by decide) (t := .int) (t' := .double) (by decide) (by decide)))
  have F_min_a1_7 := F_min_a1_6.other W7 (Or.inr (slot_ne (Or.inr (hw _ (List.mem_of_getElem? (i := 24) rfl))) (Or.inr (hw _ (List.mem_of_getElem? (i := 26) rfl))) (by decide) (t := .double) (t' := .double) (by decide) (by decide)))
  have N7 := Fr.snoc X7 N6 g_a1
  have Z7 : n0 ≤ h7.size := Nat.le_trans Z6 (Keep.of_wr W7).1
  have K7 := K6.wr W7 (Or.inl (List.mem_of_getElem? (i := 0) rfl))
  show own_Fin _ _ _ _ (T7.setTop (mkF m 72 #[rv a1, iv p2, .val (.double (own_h lo)), .second, .val (.double (own_h hi)), .second] []))
  obtain ⟨fs8, hr8, hrun8, hended8, hW8, hsame8⟩ := X7.leave (v := none) (fun _ => rfl)
  refine own_done (X7.returnOut hx Bd.returns (hb hby d1_72) hr8) hrun8 hended8 ⟨_, _, rfl, ?_, ⟨_, rfl⟩, hW8, hsame8.mono (by decide) (by decide)⟩
  show Qini Z a1 p2 lo hi h0 n0 _ T7.heap _
  rw [e7]
  exact ⟨rfl, N7, K7, E_a1_7, F_dimensions_a1_7, F_min_a1_7, F_max_a1_7⟩
theorem d5_0 : decode prog_41_method_5_code 0 = .ok (.dload_n 1, 1) := by decide +kernel
theorem d5_1 : decode prog_41_method_5_code 1 = .ok (.aload_n 0, 1) := by decide +kernel
theorem d5_2 : decode prog_41_method_5_code 2 = .ok (.getfield 31, 3) := by decide +kernel
theorem d5_5 : decode prog_41_method_5_code 5 = .ok (.dcmp .l, 1) := by decide +kernel
theorem d5_6 : decode prog_41_method_5_code 6 = .ok (.ifCond .lt 16, 3) := by decide +kernel
theorem d5_9 : decode prog_41_method_5_code 9 = .ok (.dload_n 1, 1) := by decide +kernel
theorem d5_10 : decode prog_41_method_5_code 10 = .ok (.aload_n 0, 1) := by decide +kernel
theorem d5_11 : decode prog_41_method_5_code 11 = .ok (.getfield 35, 3) := by decide +kernel
theorem d5_14 : decode prog_41_method_5_code 14 = .ok (.dcmp .g, 1) := by decide +kernel
theorem d5_15 : decode prog_41_method_5_code 15 = .ok (.ifCond .gt 7, 3) := by decide +kernel
theorem d5_18 : decode prog_41_method_5_code 18 = .ok (.iconst 1, 1) := by decide +kernel
theorem d5_19 : decode prog_41_method_5_code 19 = .ok (.goto 4, 3) := by decide +kernel
theorem d5_22 : decode prog_41_method_5_code 22 = .ok (.iconst 0, 1) := by decide +kernel
theorem d5_23 : decode prog_41_method_5_code 23 = .ok (.ireturn, 1) := by decide +kernel
theorem ef_ct (m : MethodId) (x0 : Addr) (x1 : UInt64) : entryFrame m #[(.ref x0), (.double x1)] 3 = mkF m 0 #[.val (.ref x0), .val (.double x1), .second] [] := by first | (simp [entryFrame, mkF, argsToLocals, Value.category]; done) | rfl
def Qct (Z : State) (a1 : Addr) (lo : Int64) (hi : Int64) (x : Int64) (h0 : Heap) (n0 : Nat) (v : Option Value) (h : Heap) (L : List Loc) : Prop := v = some (.int (own_in lo hi x)) ∧ Fr n0 L ∧ h = h0
abbrev Gct (Z : State) (a1 : Addr) (lo : Int64) (hi : Int64) (x : Int64) (h0 : Heap) (n0 : Nat) (s : State) : Outcome → State → Prop := fun o U' => ∃ v L, o = .returned v ∧ Qct Z a1 lo hi x h0 n0 v U'.heap L ∧ FrameEnd s o U' L ({ frames := 0, cells := 0, slots := 0, locals := 0 } : Room).cells ({ frames := 0, cells := 0, slots := 0, locals := 0 } : Room).slots
set_option maxRecDepth 65536 in
set_option maxHeartbeats 40000000 in
theorem rmct (l : Launch) (Z : State) (a0 : Array Value) (hw : ∀ d ∈ tables_1, d.before a0 Z = true) (ws : List Jvm.Cond) (a1 : Addr) (lo : Int64) (hi : Int64) (x : Int64) (h0 : Heap) (n0 : Nat) (Z0 : n0 ≤ h0.size) (F_min_a1 : Fld Z h0 a1 "com/example/tidewalk/tidewalk/problems/RealBox" "min" "D" (.double (own_h lo))) (F_max_a1 : Fld Z h0 a1 "com/example/tidewalk/tidewalk/problems/RealBox" "max" "D" (.double (own_h hi))) (hlo : own_R lo) (hhi : own_R hi) (hx_ : own_R x) :
    MetFree l (⟨"com/example/tidewalk/tidewalk/problems/RealBox", "contains", "(D)Z"⟩ : MethodName) (head1 (Jvm.Cond.code (⟨"com/example/tidewalk/tidewalk/problems/RealBox", "contains", "(D)Z"⟩ : MethodName) prog_41_method_5_code 3 (some .boolean) :: ws) ({ frames := 0, cells := 0, slots := 0, locals := 0 } : Room)) (fun a U => a = #[(.ref a1), (.double (own_h x))] ∧ Z.Warmed39 U.vm ∧ U.heap = h0) (fun _ _ _ _ _ => True) (fun _ U o U' => ∃ v L, o = .returned v ∧ Qct Z a1 lo hi x h0 n0 v U'.heap L ∧ FrameEnd U o U' L ({ frames := 0, cells := 0, slots := 0, locals := 0 } : Room).cells ({ frames := 0, cells := 0, slots := 0, locals := 0 } : Room).slots) := by
  refine MetFree.of_bodySF (plainFor_of_name pn_com_example_tidewalk_tidewalk_problems_RealBox) hisR ?_
  intro p e s m args below meth c s₁ Bd hml0 hP hK
  obtain ⟨rfl, hZ, hh⟩ := hP
  have hx := Bd.exec
  have hby := Bd.bytes
  have hml : c.maxLocals = 3 := hml0
  have hown : s.vm.findClass "com/example/tidewalk/tidewalk/problems/RealBox" = some m.cls := findClass_of_methodNamed Bd.named
  have hnm := (name_of_methodNamed Bd.named Bd.method).1
  have X0 : Stand p l e ({ frames := 0, cells := 0, slots := 0, locals := 0 } : Room) s m #[(.ref a1), (.double (own_h x))] below meth c s₁ [] 0 0 := Stand.of_body Bd
  have e0 : s₁.heap = h0 := by rw [← hh, Bd.state]; rfl
  have es0 : s.heap = h0 := hh
  have N0 := Fr.nil n0
  show own_Fin p e below (Gct Z a1 lo hi x h0 n0 s) (s₁.setTop (entryFrame m #[(.ref a1), (.double (own_h x))] 3))
  rw [ef_ct m a1 (own_h x)]
  refine own_go (XS.dloadN X0.here hx rfl (hb hby d5_0) rfl (Steps.refl _)) ?_
  show own_Fin _ _ _ _ (s₁.setTop (mkF m 1 #[rv a1, .val (.double (own_h x)), .second] [(.double (own_h x))]))
  refine own_go (XS.aloadN X0.here hx rfl (hb hby d5_1) rfl rfl (Steps.refl _)) ?_
  show own_Fin _ _ _ _ (s₁.setTop (mkF m 2 #[rv a1, .val (.double (own_h x)), .second] [(.ref a1), (.double (own_h x))]))
  obtain ⟨T9, X9, e9, st9⟩ := getF X0 hx hZ hown (host := "") (Or.inl (hw _ (List.mem_of_getElem? (i := 23) rfl))) Via.refl e0 F_min_a1 (g := (mkF m 2 #[rv a1, .val (.double (own_h x)), .second] [(.ref a1), (.double (own_h x))])) rfl rfl (hb hby d5_2)
  refine own_by st9 ?_
  show own_Fin _ _ _ _ (T9.setTop (mkF m 5 #[rv a1, .val (.double (own_h x)), .second] [(.double (own_h lo)), (.double (own_h x))]))
  refine own_go (XS.dcmpS X9.here hx rfl (hb hby d5_5) rfl (show cmpValue (FP.dcmp (own_h x) (own_h lo)) .l = (lcmpW x lo) from (own_hcmp hx_ hlo _)) (Steps.refl _)) ?_
  show own_Fin _ _ _ _ (T9.setTop (mkF m 6 #[rv a1, .val (.double (own_h x)), .second] [(.int (lcmpW x lo))]))
  by_cases c1 : x < lo
  · refine own_go (XS.ifYes X9.here hx rfl (pc0 := 6) (pc' := 22) rfl (hb hby d5_6) rfl ((if0 _ _).trans (tlt (show (lcmpW x lo) < (0 : Int32) from ((lw_lt _ _).mpr c1))).1) (by decide) (by decide) (Steps.refl _)) ?_
    show own_Fin _ _ _ _ (T9.setTop (mkF m 22 #[rv a1, .val (.double (own_h x)), .second] []))
    refine own_go (XS.iconst X9.here hx rfl (hb hby d5_22) (Steps.refl _)) ?_
    show own_Fin _ _ _ _ (T9.setTop (mkF m 23 #[rv a1, .val (.double (own_h x)), .second] [(.int (0 : Int32))]))
    obtain ⟨fs10, hr10, hrun10, hended10, hW10, hsame10⟩ := X9.leave (v := some (.int (0 : Int32))) (fun h => by rw [Bd.returns] at h; cases h)
    refine own_done (retN X9 hx (t := .boolean) Bd.returns (by simp) (hb hby d5_23) hr10) hrun10 hended10 ⟨_, _, rfl, ?_, ⟨_, rfl⟩, hW10, hsame10.mono (by decide) (by decide)⟩
    show Qct Z a1 lo hi x h0 n0 _ T9.heap _
    rw [e9]
    exact ⟨(by simp [own_in, c1]), N0, rfl⟩
  · refine own_go (XS.ifNo X9.here hx rfl (hb hby d5_6) rfl ((if0 _ _).trans (flt (show ¬ ((lcmpW x lo) < (0 : Int32)) from (fun h => c1 ((lw_lt _ _).mp h)))).1) (Steps.refl _)) ?_
    show own_Fin _ _ _ _ (T9.setTop (mkF m 9 #[rv a1, .val (.double (own_h x)), .second] []))
    refine own_go (XS.dloadN X9.here hx rfl (hb hby d5_9) rfl (Steps.refl _)) ?_
    show own_Fin _ _ _ _ (T9.setTop (mkF m 10 #[rv a1, .val (.double (own_h x)), .second] [(.double (own_h x))]))
    refine own_go (XS.aloadN X9.here hx rfl (hb hby d5_10) rfl rfl (Steps.refl _)) ?_
    show own_Fin _ _ _ _ (T9.setTop (mkF m 11 #[rv a1, .val (.double (own_h x)), .second] [(.ref a1), (.double (own_h x))]))
    obtain ⟨T11, X11, e11, st11⟩ := getF X9 hx hZ hown (host := "") (Or.inl (hw _ (List.mem_of_getElem? (i := 25) rfl))) Via.refl e9 F_max_a1 (g := (mkF m 11 #[rv a1, .val (.double (own_h x)), .second] [(.ref a1), (.double (own_h x))])) rfl rfl (hb hby d5_11)
    refine own_by st11 ?_
    show own_Fin _ _ _ _ (T11.setTop (mkF m 14 #[rv a1, .val (.double (own_h x)), .second] [(.double (own_h hi)), (.double (own_h x))]))
    refine own_go (XS.dcmpS X11.here hx rfl (hb hby d5_14) rfl (show cmpValue (FP.dcmp (own_h x) (own_h hi)) .g = (lcmpW x hi) from (own_hcmp hx_ hhi _)) (Steps.refl _)) ?_
    show own_Fin _ _ _ _ (T11.setTop (mkF m 15 #[rv a1, .val (.double (own_h x)), .second] [(.int (lcmpW x hi))]))
    by_cases c2 : hi < x
    · refine own_go (XS.ifYes X11.here hx rfl (pc0 := 15) (pc' := 22) rfl (hb hby d5_15) rfl ((if0 _ _).trans (tlt (show (0 : Int32) < (lcmpW x hi) from ((lw_gt _ _).mpr c2))).2.2.1) (by decide) (by decide) (Steps.refl _)) ?_
      show own_Fin _ _ _ _ (T11.setTop (mkF m 22 #[rv a1, .val (.double (own_h x)), .second] []))
      refine own_go (XS.iconst X11.here hx rfl (hb hby d5_22) (Steps.refl _)) ?_
      show own_Fin _ _ _ _ (T11.setTop (mkF m 23 #[rv a1, .val (.double (own_h x)), .second] [(.int (0 : Int32))]))
      obtain ⟨fs12, hr12, hrun12, hended12, hW12, hsame12⟩ := X11.leave (v := some (.int (0 : Int32))) (fun h => by rw [Bd.returns] at h; cases h)
      refine own_done (retN X11 hx (t := .boolean) Bd.returns (by simp) (hb hby d5_23) hr12) hrun12 hended12 ⟨_, _, rfl, ?_, ⟨_, rfl⟩, hW12, hsame12.mono (by decide) (by decide)⟩
      show Qct Z a1 lo hi x h0 n0 _ T11.heap _
      rw [e11]
      exact ⟨(by simp [own_in, c1, c2]), N0, rfl⟩
    · refine own_go (XS.ifNo X11.here hx rfl (hb hby d5_15) rfl ((if0 _ _).trans (flt (show ¬ ((0 : Int32) < (lcmpW x hi)) from (fun h => c2 ((lw_gt _ _).mp h)))).2.2.1) (Steps.refl _)) ?_
      show own_Fin _ _ _ _ (T11.setTop (mkF m 18 #[rv a1, .val (.double (own_h x)), .second] []))
      refine own_go (XS.iconst X11.here hx rfl (hb hby d5_18) (Steps.refl _)) ?_
      show own_Fin _ _ _ _ (T11.setTop (mkF m 19 #[rv a1, .val (.double (own_h x)), .second] [(.int (1 : Int32))]))
      refine own_go (XS.goto X11.here hx rfl (pc0 := 19) (pc' := 23) rfl (hb hby d5_19) (by decide) (by decide) (Steps.refl _)) ?_
      show own_Fin _ _ _ _ (T11.setTop (mkF m 23 #[rv a1, .val (.double (own_h x)), .second] [(.int (1 : Int32))]))
      obtain ⟨fs13, hr13, hrun13, hended13, hW13, hsame13⟩ := X11.leave (v := some (.int (1 : Int32))) (fun h => by rw [Bd.returns] at h; cases h)
      refine own_done (retN X11 hx (t := .boolean) Bd.returns (by simp) (hb hby d5_23) hr13) hrun13 hended13 ⟨_, _, rfl, ?_, ⟨_, rfl⟩, hW13, hsame13.mono (by decide) (by decide)⟩
      show Qct Z a1 lo hi x h0 n0 _ T11.heap _
      rw [e11]
      exact ⟨(by simp [own_in, c1, c2]), N0, rfl⟩
theorem pn_com_example_tidewalk_tidewalk_problems_RealBoxContainsPinLaw : plainName "com/example/tidewalk/tidewalk/problems/RealBoxContainsPinLaw" = true := by first | (simp [plainName, overriddenIn]; done) | decide +kernel
theorem ef_0 (m : MethodId) (x0 : Int32) (x1 : Int32) (x2 : Int32) (x3 : Int32) (x4 : Int32) : entryFrame m #[(.int x0), (.int x1), (.int x2), (.int x3), (.int x4)] maxLocals = mkF m 0 #[.val (.int x0), .val (.int x1), .val (.int x2), .val (.int x3), .val (.int x4), .unset, .unset, .unset, .unset, .unset, .unset, .unset, .unset, .unset, .unset, .unset, .unset, .unset, .unset, .unset] [] := by first | (simp [entryFrame, mkF, argsToLocals, Value.category, maxLocals]; done) | rfl
def Q0 (Z : State) (p1 : Int32) (p2 : Int32) (p3 : Int32) (p4 : Int32) (p5 : Int32) (h0 : Heap) (n0 : Nat) (v : Option Value) (h : Heap) (L : List Loc) : Prop := v = some (.int 1) ∧ Fr n0 L
abbrev G0 (Z : State) (p1 : Int32) (p2 : Int32) (p3 : Int32) (p4 : Int32) (p5 : Int32) (h0 : Heap) (n0 : Nat) (s : State) : Outcome → State → Prop := fun o U' => ∃ v L, o = .returned v ∧ Q0 Z p1 p2 p3 p4 p5 h0 n0 v U'.heap L ∧ FrameEnd s o U' L 16 128
theorem pd__28_IDD_29_V : parseMethodDescriptor "(IDD)V" = some ⟨[.int, .double, .double], none⟩ := by decide +kernel
set_option maxRecDepth 65536 in
set_option maxHeartbeats 40000000 in
theorem rm0 (l : Launch) (Z : State) (a0 : Array Value) (hw : ∀ d ∈ tables_1, d.before a0 Z = true) (ws : List Jvm.Cond) (p1 : Int32) (p2 : Int32) (p3 : Int32) (p4 : Int32) (p5 : Int32) (h0 : Heap) (n0 : Nat) (Z0 : n0 ≤ h0.size)  :
    MetFree l x (head1 (Jvm.Cond.code x code maxLocals ret :: ws) room_1) (fun a U => a = #[(.int p1), (.int p2), (.int p3), (.int p4), (.int p5)] ∧ Z.Warmed39 U.vm ∧ U.heap = h0) (fun _ _ _ _ _ => True) (fun _ U o U' => ∃ v L, o = .returned v ∧ Q0 Z p1 p2 p3 p4 p5 h0 n0 v U'.heap L ∧ FrameEnd U o U' L 16 128) := by
  refine MetFree.of_bodySF (plainFor_of_name pn_com_example_tidewalk_tidewalk_problems_RealBoxContainsPinLaw) hisR ?_
  intro p e s m args below meth c s₁ Bd hml0 hP hK
  obtain ⟨rfl, hZ, hh⟩ := hP
  have hx := Bd.exec
  have hby := Bd.bytes
  have hml : c.maxLocals = 20 := hml0
  have hown : s.vm.findClass "com/example/tidewalk/tidewalk/problems/RealBoxContainsPinLaw" = some m.cls := findClass_of_methodNamed Bd.named
  have hnm := (name_of_methodNamed Bd.named Bd.method).1
  have X0 : Stand p l e room_1 s m #[(.int p1), (.int p2), (.int p3), (.int p4), (.int p5)] below meth c s₁ [] 0 0 := Stand.of_body Bd
  have e0 : s₁.heap = h0 := by rw [← hh, Bd.state]; rfl
  have es0 : s.heap = h0 := hh
  have N0 := Fr.nil n0
  show own_Fin p e below (G0 Z p1 p2 p3 p4 p5 h0 n0 s) (s₁.setTop (entryFrame m #[(.int p1), (.int p2), (.int p3), (.int p4), (.int p5)] maxLocals))
  rw [ef_0 m p1 p2 p3 p4 p5]
  refine own_by (X0.ldc2Long hx hown (mvT hZ (hw _ (List.mem_of_getElem? (i := 0) rfl))) (g := (mkF m 0 #[iv p1, iv p2, iv p3, iv p4, iv p5, .unset, .unset, .unset, .unset, .unset, .unset, .unset, .unset, .unset, .unset, .unset, .unset, .unset, .unset, .unset] [])) rfl (hb hby at_0)) ?_
  show own_Fin _ _ _ _ (s₁.setTop (mkF m 3 #[iv p1, iv p2, iv p3, iv p4, iv p5, .unset, .unset, .unset, .unset, .unset, .unset, .unset, .unset, .unset, .unset, .unset, .unset, .unset, .unset, .unset] [(.long (2 : Int64))]))
  refine own_go (XS.iloadN X0.here hx rfl (hb hby at_3) rfl (Steps.refl _)) ?_
  show own_Fin _ _ _ _ (s₁.setTop (mkF m 4 #[iv p1, iv p2, iv p3, iv p4, iv p5, .unset, .unset, .unset, .unset, .unset, .unset, .unset, .unset, .unset, .unset, .unset, .unset, .unset, .unset, .unset] [(.int p1), (.long (2 : Int64))]))
  refine own_go (XS.i2l X0.here hx rfl (hb hby at_4) rfl (Steps.refl _)) ?_
  show own_Fin _ _ _ _ (s₁.setTop (mkF m 5 #[iv p1, iv p2, iv p3, iv p4, iv p5, .unset, .unset, .unset, .unset, .unset, .unset, .unset, .unset, .unset, .unset, .unset, .unset, .unset, .unset, .unset] [(.long (p1.toInt64)), (.long (2 : Int64))]))
  refine own_go (XS.lmul X0.here hx rfl (hb hby at_5) rfl (Steps.refl _)) ?_
  show own_Fin _ _ _ _ (s₁.setTop (mkF m 6 #[iv p1, iv p2, iv p3, iv p4, iv p5, .unset, .unset, .unset, .unset, .unset, .unset, .unset, .unset, .unset, .unset, .unset, .unset, .unset, .unset, .unset] [(.long ((2 : Int64) * (p1.toInt64)))]))
  refine own_go (XS.lstore X0.here hx rfl (hb hby at_6) rfl rfl (Steps.refl _)) ?_
  show own_Fin _ _ _ _ (s₁.setTop (mkF m 8 #[iv p1, iv p2, iv p3, iv p4, iv p5, .val (.long ((2 : Int64) * (p1.toInt64))), .second, .unset, .unset, .unset, .unset, .unset, .unset, .unset, .unset, .unset, .unset, .unset, .unset, .unset] []))
  generalize hz_v5_14 : ((2 : Int64) * (p1.toInt64)) = v5_14
  refine own_by (X0.ldc2Long hx hown (mvT hZ (hw _ (List.mem_of_getElem? (i := 0) rfl))) (g := (mkF m 8 #[iv p1, iv p2, iv p3, iv p4, iv p5, .val (.long v5_14), .second, .unset, .unset, .unset, .unset, .unset, .unset, .unset, .unset, .unset, .unset, .unset, .unset, .unset] [])) rfl (hb hby at_8)) ?_
  show own_Fin _ _ _ _ (s₁.setTop (mkF m 11 #[iv p1, iv p2, iv p3, iv p4, iv p5, .val (.long v5_14), .second, .unset, .unset, .unset, .unset, .unset, .unset, .unset, .unset, .unset, .unset, .unset, .unset, .unset] [(.long (2 : Int64))]))
  refine own_go (XS.iloadN X0.here hx rfl (hb hby at_11) rfl (Steps.refl _)) ?_
  show own_Fin _ _ _ _ (s₁.setTop (mkF m 12 #[iv p1, iv p2, iv p3, iv p4, iv p5, .val (.long v5_14), .second, .unset, .unset, .unset, .unset, .unset, .unset, .unset, .unset, .unset, .unset, .unset, .unset, .unset] [(.int p1), (.long (2 : Int64))]))
  refine own_go (XS.i2l X0.here hx rfl (hb hby at_12) rfl (Steps.refl _)) ?_
  show own_Fin _ _ _ _ (s₁.setTop (mkF m 13 #[iv p1, iv p2, iv p3, iv p4, iv p5, .val (.long v5_14), .second, .unset, .unset, .unset, .unset, .unset, .unset, .unset, .unset, .unset, .unset, .unset, .unset, .unset] [(.long (p1.toInt64)), (.long (2 : Int64))]))
  refine own_go (XS.lconst X0.here hx rfl (hb hby at_13) (Steps.refl _)) ?_
  show own_Fin _ _ _ _ (s₁.setTop (mkF m 14 #[iv p1, iv p2, iv p3, iv p4, iv p5, .val (.long v5_14), .second, .unset, .unset, .unset, .unset, .unset, .unset, .unset, .unset, .unset, .unset, .unset, .unset, .unset] [(.long (1 : Int64)), (.long (p1.toInt64)), (.long (2 : Int64))]))
  refine own_go (XS.ladd X0.here hx rfl (hb hby at_14) rfl (Steps.refl _)) ?_
  show own_Fin _ _ _ _ (s₁.setTop (mkF m 15 #[iv p1, iv p2, iv p3, iv p4, iv p5, .val (.long v5_14), .second, .unset, .unset, .unset, .unset, .unset, .unset, .unset, .unset, .unset, .unset, .unset, .unset, .unset] [(.long ((p1.toInt64) + (1 : Int64))), (.long (2 : Int64))]))
  refine own_go (XS.iloadN X0.here hx rfl (hb hby at_15) rfl (Steps.refl _)) ?_
  show own_Fin _ _ _ _ (s₁.setTop (mkF m 16 #[iv p1, iv p2, iv p3, iv p4, iv p5, .val (.long v5_14), .second, .unset, .unset, .unset, .unset, .unset, .unset, .unset, .unset, .unset, .unset, .unset, .unset, .unset] [(.int p2), (.long ((p1.toInt64) + (1 : Int64))), (.long (2 : Int64))]))
  refine own_by (X0.ldcInt hx hown (mvT hZ (hw _ (List.mem_of_getElem? (i := 1) rfl))) (g := (mkF m 16 #[iv p1, iv p2, iv p3, iv p4, iv p5, .val (.long v5_14), .second, .unset, .unset, .unset, .unset, .unset, .unset, .unset, .unset, .unset, .unset, .unset, .unset, .unset] [(.int p2), (.long ((p1.toInt64) + (1 : Int64))), (.long (2 : Int64))])) rfl (hb hby at_16)) ?_
  show own_Fin _ _ _ _ (s₁.setTop (mkF m 18 #[iv p1, iv p2, iv p3, iv p4, iv p5, .val (.long v5_14), .second, .unset, .unset, .unset, .unset, .unset, .unset, .unset, .unset, .unset, .unset, .unset, .unset, .unset] [(.int (2147483647 : Int32)), (.int p2), (.long ((p1.toInt64) + (1 : Int64))), (.long (2 : Int64))]))
  refine own_go (XS.iand X0.here hx rfl (hb hby at_18) rfl (Steps.refl _)) ?_
  show own_Fin _ _ _ _ (s₁.setTop (mkF m 19 #[iv p1, iv p2, iv p3, iv p4, iv p5, .val (.long v5_14), .second, .unset, .unset, .unset, .unset, .unset, .unset, .unset, .unset, .unset, .unset, .unset, .unset, .unset] [(.int (p2 &&& (2147483647 : Int32))), (.long ((p1.toInt64) + (1 : Int64))), (.long (2 : Int64))]))
  refine own_go (XS.i2l X0.here hx rfl (hb hby at_19) rfl (Steps.refl _)) ?_
  show own_Fin _ _ _ _ (s₁.setTop (mkF m 20 #[iv p1, iv p2, iv p3, iv p4, iv p5, .val (.long v5_14), .second, .unset, .unset, .unset, .unset, .unset, .unset, .unset, .unset, .unset, .unset, .unset, .unset, .unset] [(.long ((p2 &&& (2147483647 : Int32)).toInt64)), (.long ((p1.toInt64) + (1 : Int64))), (.long (2 : Int64))]))
  refine own_go (XS.ladd X0.here hx rfl (hb hby at_20) rfl (Steps.refl _)) ?_
  show own_Fin _ _ _ _ (s₁.setTop (mkF m 21 #[iv p1, iv p2, iv p3, iv p4, iv p5, .val (.long v5_14), .second, .unset, .unset, .unset, .unset, .unset, .unset, .unset, .unset, .unset, .unset, .unset, .unset, .unset] [(.long (((p1.toInt64) + (1 : Int64)) + ((p2 &&& (2147483647 : Int32)).toInt64))), (.long (2 : Int64))]))
  refine own_go (XS.lmul X0.here hx rfl (hb hby at_21) rfl (Steps.refl _)) ?_
  show own_Fin _ _ _ _ (s₁.setTop (mkF m 22 #[iv p1, iv p2, iv p3, iv p4, iv p5, .val (.long v5_14), .second, .unset, .unset, .unset, .unset, .unset, .unset, .unset, .unset, .unset, .unset, .unset, .unset, .unset] [(.long ((2 : Int64) * (((p1.toInt64) + (1 : Int64)) + ((p2 &&& (2147483647 : Int32)).toInt64))))]))
  refine own_go (XS.lstore X0.here hx rfl (hb hby at_22) rfl rfl (Steps.refl _)) ?_
  show own_Fin _ _ _ _ (s₁.setTop (mkF m 24 #[iv p1, iv p2, iv p3, iv p4, iv p5, .val (.long v5_14), .second, .val (.long ((2 : Int64) * (((p1.toInt64) + (1 : Int64)) + ((p2 &&& (2147483647 : Int32)).toInt64)))), .second, .unset, .unset, .unset, .unset, .unset, .unset, .unset, .unset, .unset, .unset, .unset] []))
  generalize hz_v7_15 : ((2 : Int64) * (((p1.toInt64) + (1 : Int64)) + ((p2 &&& (2147483647 : Int32)).toInt64))) = v7_15
  refine own_go (XS.iloadN X0.here hx rfl (hb hby at_24) rfl (Steps.refl _)) ?_
  show own_Fin _ _ _ _ (s₁.setTop (mkF m 25 #[iv p1, iv p2, iv p3, iv p4, iv p5, .val (.long v5_14), .second, .val (.long v7_15), .second, .unset, .unset, .unset, .unset, .unset, .unset, .unset, .unset, .unset, .unset, .unset] [(.int p4)]))
  refine own_go (XS.bipush X0.here hx rfl (hb hby at_25) (Steps.refl _)) ?_
  show own_Fin _ _ _ _ (s₁.setTop (mkF m 27 #[iv p1, iv p2, iv p3, iv p4, iv p5, .val (.long v5_14), .second, .val (.long v7_15), .second, .unset, .unset, .unset, .unset, .unset, .unset, .unset, .unset, .unset, .unset, .unset] [(.int (7 : Int32)), (.int p4)]))
  refine own_go (XS.iand X0.here hx rfl (hb hby at_27) rfl (Steps.refl _)) ?_
  show own_Fin _ _ _ _ (s₁.setTop (mkF m 28 #[iv p1, iv p2, iv p3, iv p4, iv p5, .val (.long v5_14), .second, .val (.long v7_15), .second, .unset, .unset, .unset, .unset, .unset, .unset, .unset, .unset, .unset, .unset, .unset] [(.int (p4 &&& (7 : Int32)))]))
  refine own_go (XS.istore X0.here hx rfl (hb hby at_28) rfl rfl (Steps.refl _)) ?_
  show own_Fin _ _ _ _ (s₁.setTop (mkF m 30 #[iv p1, iv p2, iv p3, iv p4, iv p5, .val (.long v5_14), .second, .val (.long v7_15), .second, iv (p4 &&& (7 : Int32)), .unset, .unset, .unset, .unset, .unset, .unset, .unset, .unset, .unset, .unset] []))
  generalize hz_v9_16 : (p4 &&& (7 : Int32)) = v9_16
  have hlo : own_S v5_14 := hz_v5_14 ▸ own_sl p1
  have hhi : own_S v7_15 := hz_v7_15 ▸ own_sh p1 p2
  have hlt : v5_14 < v7_15 := by rw [← hz_v5_14, ← hz_v7_15]; exact own_lh p1 p2
  have jn17 : ∀ (Tj17 : State) (Lj17 : List Loc) (zs : Int32) (zx : Int64), Stand p l e room_1 s m #[(.int p1), (.int p2), (.int p3), (.int p4), (.int p5)] below meth c Tj17 Lj17 0 0 → Tj17.heap = h0 → Fr n0 Lj17 → (own_R zx) → own_Fin p e below (G0 Z p1 p2 p3 p4 p5 h0 n0 s) (Tj17.setTop (mkF m 143 #[iv p1, iv p2, iv p3, iv p4, iv p5, .val (.long v5_14), .second, .val (.long v7_15), .second, iv zs, .val (.long zx), .second, .unset, .unset, .unset, .unset, .unset, .unset, .unset, .unset] [])) := by
    intro Tj17 Lj17 zs zx Xj17 ej17 Nj17 hj17
    refine own_go (XS.lload Xj17.here hx rfl (hb hby at_143) rfl (Steps.refl _)) ?_
    show own_Fin _ _ _ _ (Tj17.setTop (mkF m 145 #[iv p1, iv p2, iv p3, iv p4, iv p5, .val (.long v5_14), .second, .val (.long v7_15), .second, iv zs, .val (.long zx), .second, .unset, .unset, .unset, .unset, .unset, .unset, .unset, .unset] [(.long v5_14)]))
    refine own_go (XS.l2dS Xj17.here hx rfl (hb hby at_145) rfl rfl (Steps.refl _)) ?_
    show own_Fin _ _ _ _ (Tj17.setTop (mkF m 146 #[iv p1, iv p2, iv p3, iv p4, iv p5, .val (.long v5_14), .second, .val (.long v7_15), .second, iv zs, .val (.long zx), .second, .unset, .unset, .unset, .unset, .unset, .unset, .unset, .unset] [(.double (FP.l2d v5_14))]))
    refine own_by (Xj17.ldc2DoubleC hx hown (mvT hZ (hw _ (List.mem_of_getElem? (i := 2) rfl))) (g := (mkF m 146 #[iv p1, iv p2, iv p3, iv p4, iv p5, .val (.long v5_14), .second, .val (.long v7_15), .second, iv zs, .val (.long zx), .second, .unset, .unset, .unset, .unset, .unset, .unset, .unset, .unset] [(.double (FP.l2d v5_14))])) rfl (hb hby at_146)) ?_
    show own_Fin _ _ _ _ (Tj17.setTop (mkF m 149 #[iv p1, iv p2, iv p3, iv p4, iv p5, .val (.long v5_14), .second, .val (.long v7_15), .second, iv zs, .val (.long zx), .second, .unset, .unset, .unset, .unset, .unset, .unset, .unset, .unset] [(.double (4611686018427387904 : UInt64)), (.double (FP.l2d v5_14))]))
    refine own_go (XS.ddivS Xj17.here hx rfl (hb hby at_149) rfl (own_hn _) rfl (Steps.refl _)) ?_
    show own_Fin _ _ _ _ (Tj17.setTop (mkF m 150 #[iv p1, iv p2, iv p3, iv p4, iv p5, .val (.long v5_14), .second, .val (.long v7_15), .second, iv zs, .val (.long zx), .second, .unset, .unset, .unset, .unset, .unset, .unset, .unset, .unset] [(.double (own_h v5_14))]))
    refine own_go (XS.dstore Xj17.here hx rfl (hb hby at_150) rfl rfl (Steps.refl _)) ?_
    show own_Fin _ _ _ _ (Tj17.setTop (mkF m 152 #[iv p1, iv p2, iv p3, iv p4, iv p5, .val (.long v5_14), .second, .val (.long v7_15), .second, iv zs, .val (.long zx), .second, .val (.double (own_h v5_14)), .second, .unset, .unset, .unset, .unset, .unset, .unset] []))
    refine own_go (XS.lload Xj17.here hx rfl (hb hby at_152) rfl (Steps.refl _)) ?_
    show own_Fin _ _ _ _ (Tj17.setTop (mkF m 154 #[iv p1, iv p2, iv p3, iv p4, iv p5, .val (.long v5_14), .second, .val (.long v7_15), .second, iv zs, .val (.long zx), .second, .val (.double (own_h v5_14)), .second, .unset, .unset, .unset, .unset, .unset, .unset] [(.long v7_15)]))
    refine own_go (XS.l2dS Xj17.here hx rfl (hb hby at_154) rfl rfl (Steps.refl _)) ?_
    show own_Fin _ _ _ _ (Tj17.setTop (mkF m 155 #[iv p1, iv p2, iv p3, iv p4, iv p5, .val (.long v5_14), .second, .val (.long v7_15), .second, iv zs, .val (.long zx), .second, .val (.double (own_h v5_14)), .second, .unset, .unset, .unset, .unset, .unset, .unset] [(.double (FP.l2d v7_15))]))
    refine own_by (Xj17.ldc2DoubleC hx hown (mvT hZ (hw _ (List.mem_of_getElem? (i := 2) rfl))) (g := (mkF m 155 #[iv p1, iv p2, iv p3, iv p4, iv p5, .val (.long v5_14), .second, .val (.long v7_15), .second, iv zs, .val (.long zx), .second, .val (.double (own_h v5_14)), .second, .unset, .unset, .unset, .unset, .unset, .unset] [(.double (FP.l2d v7_15))])) rfl (hb hby at_155)) ?_
    show own_Fin _ _ _ _ (Tj17.setTop (mkF m 158 #[iv p1, iv p2, iv p3, iv p4, iv p5, .val (.long v5_14), .second, .val (.long v7_15), .second, iv zs, .val (.long zx), .second, .val (.double (own_h v5_14)), .second, .unset, .unset, .unset, .unset, .unset, .unset] [(.double (4611686018427387904 : UInt64)), (.double (FP.l2d v7_15))]))
    refine own_go (XS.ddivS Xj17.here hx rfl (hb hby at_158) rfl (own_hn _) rfl (Steps.refl _)) ?_
    show own_Fin _ _ _ _ (Tj17.setTop (mkF m 159 #[iv p1, iv p2, iv p3, iv p4, iv p5, .val (.long v5_14), .second, .val (.long v7_15), .second, iv zs, .val (.long zx), .second, .val (.double (own_h v5_14)), .second, .unset, .unset, .unset, .unset, .unset, .unset] [(.double (own_h v7_15))]))
    refine own_go (XS.dstore Xj17.here hx rfl (hb hby at_159) rfl rfl (Steps.refl _)) ?_
    show own_Fin _ _ _ _ (Tj17.setTop (mkF m 161 #[iv p1, iv p2, iv p3, iv p4, iv p5, .val (.long v5_14), .second, .val (.long v7_15), .second, iv zs, .val (.long zx), .second, .val (.double (own_h v5_14)), .second, .val (.double (own_h v7_15)), .second, .unset, .unset, .unset, .unset] []))
    refine own_go (XS.lload Xj17.here hx rfl (hb hby at_161) rfl (Steps.refl _)) ?_
    show own_Fin _ _ _ _ (Tj17.setTop (mkF m 163 #[iv p1, iv p2, iv p3, iv p4, iv p5, .val (.long v5_14), .second, .val (.long v7_15), .second, iv zs, .val (.long zx), .second, .val (.double (own_h v5_14)), .second, .val (.double (own_h v7_15)), .second, .unset, .unset, .unset, .unset] [(.long zx)]))
    refine own_go (XS.l2dS Xj17.here hx rfl (hb hby at_163) rfl rfl (Steps.refl _)) ?_
    show own_Fin _ _ _ _ (Tj17.setTop (mkF m 164 #[iv p1, iv p2, iv p3, iv p4, iv p5, .val (.long v5_14), .second, .val (.long v7_15), .second, iv zs, .val (.long zx), .second, .val (.double (own_h v5_14)), .second, .val (.double (own_h v7_15)), .second, .unset, .unset, .unset, .unset] [(.double (FP.l2d zx))]))
    refine own_by (Xj17.ldc2DoubleC hx hown (mvT hZ (hw _ (List.mem_of_getElem? (i := 2) rfl))) (g := (mkF m 164 #[iv p1, iv p2, iv p3, iv p4, iv p5, .val (.long v5_14), .second, .val (.long v7_15), .second, iv zs, .val (.long zx), .second, .val (.double (own_h v5_14)), .second, .val (.double (own_h v7_15)), .second, .unset, .unset, .unset, .unset] [(.double (FP.l2d zx))])) rfl (hb hby at_164)) ?_
    show own_Fin _ _ _ _ (Tj17.setTop (mkF m 167 #[iv p1, iv p2, iv p3, iv p4, iv p5, .val (.long v5_14), .second, .val (.long v7_15), .second, iv zs, .val (.long zx), .second, .val (.double (own_h v5_14)), .second, .val (.double (own_h v7_15)), .second, .unset, .unset, .unset, .unset] [(.double (4611686018427387904 : UInt64)), (.double (FP.l2d zx))]))
    refine own_go (XS.ddivS Xj17.here hx rfl (hb hby at_167) rfl (own_hn _) rfl (Steps.refl _)) ?_
    show own_Fin _ _ _ _ (Tj17.setTop (mkF m 168 #[iv p1, iv p2, iv p3, iv p4, iv p5, .val (.long v5_14), .second, .val (.long v7_15), .second, iv zs, .val (.long zx), .second, .val (.double (own_h v5_14)), .second, .val (.double (own_h v7_15)), .second, .unset, .unset, .unset, .unset] [(.double (own_h zx))]))
    refine own_go (XS.dstore Xj17.here hx rfl (hb hby at_168) rfl rfl (Steps.refl _)) ?_
    show own_Fin _ _ _ _ (Tj17.setTop (mkF m 170 #[iv p1, iv p2, iv p3, iv p4, iv p5, .val (.long v5_14), .second, .val (.long v7_15), .second, iv zs, .val (.long zx), .second, .val (.double (own_h v5_14)), .second, .val (.double (own_h v7_15)), .second, .val (.double (own_h zx)), .second, .unset, .unset] []))
    obtain ⟨T18, h18, X18, e18, E18, A18, D18, U18, st18⟩ := newO Xj17 hx hZ hown (hw _ (List.mem_of_getElem? (i := 3) rfl)) (hw _ (List.mem_of_getElem? (i := 4) rfl)) (hw _ (List.mem_of_getElem? (i := 5) rfl)) ej17 (g := (mkF m 170 #[iv p1, iv p2, iv p3, iv p4, iv p5, .val (.long v5_14), .second, .val (.long v7_15), .second, iv zs, .val (.long zx), .second, .val (.double (own_h v5_14)), .second, .val (.double (own_h v7_15)), .second, .val (.double (own_h zx)), .second, .unset, .unset] [])) rfl (hb hby at_170) (by decide) (by decide)
    obtain ⟨b18, g18⟩ : ∃ z, z = h0.size := ⟨_, rfl⟩
    rw [← g18] at A18 D18 U18 st18
    refine own_by st18 ?_
    have g_b18 : n0 ≤ b18 := Nat.le_trans Z0 (Nat.le_of_eq g18.symm)
    have Z18 : n0 ≤ h18.size := Nat.le_trans Z0 E18.1
    have E_b18 := A18
    have F_dimensions_b18 : Fld Z h18 b18 "com/example/tidewalk/tidewalk/problems/RealBox" "dimensions" "I" (.int (0 : Int32)) := D18 (Or.inr (hw _ (List.mem_of_getElem? (i := 22) rfl))) (ty := .int) (by decide)
    have F_min_b18 : Fld Z h18 b18 "com/example/tidewalk/tidewalk/problems/RealBox" "min" "D" (.double (0 : UInt64)) := D18 (Or.inr (hw _ (List.mem_of_getElem? (i := 24) rfl))) (ty := .double) (by decide)
    have F_max_b18 : Fld Z h18 b18 "com/example/tidewalk/tidewalk/problems/RealBox" "max" "D" (.double (0 : UInt64)) := D18 (Or.inr (hw _ (List.mem_of_getElem? (i := 26) rfl))) (ty := .double) (by decide)
    show own_Fin _ _ _ _ (T18.setTop (mkF m 173 #[iv p1, iv p2, iv p3, iv p4, iv p5, .val (.long v5_14), .second, .val (.long v7_15), .second, iv zs, .val (.long zx), .second, .val (.double (own_h v5_14)), .second, .val (.double (own_h v7_15)), .second, .val (.double (own_h zx)), .second, .unset, .unset] [(.ref b18)]))
    refine own_go (XS.dup X18.here hx rfl (hb hby at_173) rfl rfl (Steps.refl _)) ?_
    show own_Fin _ _ _ _ (T18.setTop (mkF m 174 #[iv p1, iv p2, iv p3, iv p4, iv p5, .val (.long v5_14), .second, .val (.long v7_15), .second, iv zs, .val (.long zx), .second, .val (.double (own_h v5_14)), .second, .val (.double (own_h v7_15)), .second, .val (.double (own_h zx)), .second, .unset, .unset] [(.ref b18), (.ref b18)]))
    refine own_go (XS.iload X18.here hx rfl (hb hby at_174) rfl (Steps.refl _)) ?_
    show own_Fin _ _ _ _ (T18.setTop (mkF m 176 #[iv p1, iv p2, iv p3, iv p4, iv p5, .val (.long v5_14), .second, .val (.long v7_15), .second, iv zs, .val (.long zx), .second, .val (.double (own_h v5_14)), .second, .val (.double (own_h v7_15)), .second, .val (.double (own_h zx)), .second, .unset, .unset] [(.int p5), (.ref b18), (.ref b18)]))
    refine own_go (XS.bipush X18.here hx rfl (hb hby at_176) (Steps.refl _)) ?_
    show own_Fin _ _ _ _ (T18.setTop (mkF m 178 #[iv p1, iv p2, iv p3, iv p4, iv p5, .val (.long v5_14), .second, .val (.long v7_15), .second, iv zs, .val (.long zx), .second, .val (.double (own_h v5_14)), .second, .val (.double (own_h v7_15)), .second, .val (.double (own_h zx)), .second, .unset, .unset] [(.int (7 : Int32)), (.int p5), (.ref b18), (.ref b18)]))
    refine own_go (XS.iand X18.here hx rfl (hb hby at_178) rfl (Steps.refl _)) ?_
    show own_Fin _ _ _ _ (T18.setTop (mkF m 179 #[iv p1, iv p2, iv p3, iv p4, iv p5, .val (.long v5_14), .second, .val (.long v7_15), .second, iv zs, .val (.long zx), .second, .val (.double (own_h v5_14)), .second, .val (.double (own_h v7_15)), .second, .val (.double (own_h zx)), .second, .unset, .unset] [(.int (p5 &&& (7 : Int32))), (.ref b18), (.ref b18)]))
    refine own_go (XS.iconst X18.here hx rfl (hb hby at_179) (Steps.refl _)) ?_
    show own_Fin _ _ _ _ (T18.setTop (mkF m 180 #[iv p1, iv p2, iv p3, iv p4, iv p5, .val (.long v5_14), .second, .val (.long v7_15), .second, iv zs, .val (.long zx), .second, .val (.double (own_h v5_14)), .second, .val (.double (own_h v7_15)), .second, .val (.double (own_h zx)), .second, .unset, .unset] [(.int (1 : Int32)), (.int (p5 &&& (7 : Int32))), (.ref b18), (.ref b18)]))
    refine own_go (XS.iadd X18.here hx rfl (hb hby at_180) rfl (Steps.refl _)) ?_
    show own_Fin _ _ _ _ (T18.setTop (mkF m 181 #[iv p1, iv p2, iv p3, iv p4, iv p5, .val (.long v5_14), .second, .val (.long v7_15), .second, iv zs, .val (.long zx), .second, .val (.double (own_h v5_14)), .second, .val (.double (own_h v7_15)), .second, .val (.double (own_h zx)), .second, .unset, .unset] [(.int ((p5 &&& (7 : Int32)) + (1 : Int32))), (.ref b18), (.ref b18)]))
    refine own_go (XS.dload X18.here hx rfl (hb hby at_181) rfl (Steps.refl _)) ?_
    show own_Fin _ _ _ _ (T18.setTop (mkF m 183 #[iv p1, iv p2, iv p3, iv p4, iv p5, .val (.long v5_14), .second, .val (.long v7_15), .second, iv zs, .val (.long zx), .second, .val (.double (own_h v5_14)), .second, .val (.double (own_h v7_15)), .second, .val (.double (own_h zx)), .second, .unset, .unset] [(.double (own_h v5_14)), (.int ((p5 &&& (7 : Int32)) + (1 : Int32))), (.ref b18), (.ref b18)]))
    refine own_go (XS.dload X18.here hx rfl (hb hby at_183) rfl (Steps.refl _)) ?_
    show own_Fin _ _ _ _ (T18.setTop (mkF m 185 #[iv p1, iv p2, iv p3, iv p4, iv p5, .val (.long v5_14), .second, .val (.long v7_15), .second, iv zs, .val (.long zx), .second, .val (.double (own_h v5_14)), .second, .val (.double (own_h v7_15)), .second, .val (.double (own_h zx)), .second, .unset, .unset] [(.double (own_h v7_15)), (.double (own_h v5_14)), (.int ((p5 &&& (7 : Int32)) + (1 : Int32))), (.ref b18), (.ref b18)]))
    obtain ⟨_, _, ⟨T19, L19, k19, n19⟩, -, X19, ⟨Lc19, hQ19, l19, y19, z19⟩, st19⟩ := X18.specialBack hx (y := (⟨"com/example/tidewalk/tidewalk/problems/RealBox", "<init>", "(IDD)V"⟩ : MethodName)) rfl hown (mvT hZ (hw _ (List.mem_of_getElem? (i := 6) rfl))) (mvT hZ (hw _ (List.mem_of_getElem? (i := 7) rfl))) (mvT hZ (hw _ (List.mem_of_getElem? (i := 8) rfl))) (by decide) (backOf (W := 1) (rmini l Z a0 hw [] b18 ((p5 &&& (7 : Int32)) + (1 : Int32)) v5_14 v7_15 h18 n0 Z18 E_b18 F_dimensions_b18 F_min_b18 F_max_b18 g_b18 (own_dm p5) hlt (own_sr hlo) (own_sr hhi)) hZ (hw _ (List.mem_of_getElem? (i := 8) rfl)) (hw _ (List.mem_of_getElem? (i := 5) rfl)) (by decide) (by decide)) (g := (mkF m 185 #[iv p1, iv p2, iv p3, iv p4, iv p5, .val (.long v5_14), .second, .val (.long v7_15), .second, iv zs, .val (.long zx), .second, .val (.double (own_h v5_14)), .second, .val (.double (own_h v7_15)), .second, .val (.double (own_h zx)), .second, .unset, .unset] [(.double (own_h v7_15)), (.double (own_h v5_14)), (.int ((p5 &&& (7 : Int32)) + (1 : Int32))), (.ref b18), (.ref b18)])) rfl (by rw [hml]; rfl) (Steps.refl _) (a := b18) (argsL := [(.int ((p5 &&& (7 : Int32)) + (1 : Int32))), (.double (own_h v5_14)), (.double (own_h v7_15))]) (rest := [(.ref b18)]) (lenOf pd__28_IDD_29_V rfl) rfl (by show 2 * 0 + _ ≤ _; exact Nat.le_of_eq rfl) (hb hby at_185) (fun _ hv => ⟨rfl, e18, (by decide : 1 + 0 ≤ _), (by decide : 3 + 0 ≤ _)⟩)
    dsimp only [Pt.U, Pt.locs, Pt.cells, Pt.slots] at X19 l19 y19 z19 st19 hQ19
    subst l19 y19 z19
    refine own_go st19 ?_
    obtain ⟨rfl, Nq19, K19, r19_0, r19_1, r19_2, r19_3⟩ := hQ19
    have E_b18_19 := E_b18.keep K19
    have Z19 : n0 ≤ T19.heap.size := Nat.le_trans Z18 K19.1
    have N19 := Fr.app Nj17 Nq19
    show own_Fin _ _ _ _ (T19.setTop (mkF m 188 #[iv p1, iv p2, iv p3, iv p4, iv p5, .val (.long v5_14), .second, .val (.long v7_15), .second, iv zs, .val (.long zx), .second, .val (.double (own_h v5_14)), .second, .val (.double (own_h v7_15)), .second, .val (.double (own_h zx)), .second, .unset, .unset] [(.ref b18)]))
    refine own_go (XS.astore X19.here hx rfl (hb hby at_188) rfl rfl rfl (Steps.refl _)) ?_
    show own_Fin _ _ _ _ (T19.setTop (mkF m 190 #[iv p1, iv p2, iv p3, iv p4, iv p5, .val (.long v5_14), .second, .val (.long v7_15), .second, iv zs, .val (.long zx), .second, .val (.double (own_h v5_14)), .second, .val (.double (own_h v7_15)), .second, .val (.double (own_h zx)), .second, rv b18, .unset] []))
    have di20 : Steps p.tables e below (T19.setTop (mkF m 190 #[iv p1, iv p2, iv p3, iv p4, iv p5, .val (.long v5_14), .second, .val (.long v7_15), .second, iv zs, .val (.long zx), .second, .val (.double (own_h v5_14)), .second, .val (.double (own_h v7_15)), .second, .val (.double (own_h zx)), .second, rv b18, .unset] [])) (T19.setTop (mkF m 211 #[iv p1, iv p2, iv p3, iv p4, iv p5, .val (.long v5_14), .second, .val (.long v7_15), .second, iv zs, .val (.long zx), .second, .val (.double (own_h v5_14)), .second, .val (.double (own_h v7_15)), .second, .val (.double (own_h zx)), .second, rv b18, .unset] [(.int (own_ex v5_14 v7_15 zx))])) := by
      refine XS.lload X19.here hx rfl (hb hby at_190) rfl ?_
      show Steps _ _ _ (T19.setTop (mkF m 192 #[iv p1, iv p2, iv p3, iv p4, iv p5, .val (.long v5_14), .second, .val (.long v7_15), .second, iv zs, .val (.long zx), .second, .val (.double (own_h v5_14)), .second, .val (.double (own_h v7_15)), .second, .val (.double (own_h zx)), .second, rv b18, .unset] [(.long v5_14)])) _
      refine XS.lload X19.here hx rfl (hb hby at_192) rfl ?_
      show Steps _ _ _ (T19.setTop (mkF m 194 #[iv p1, iv p2, iv p3, iv p4, iv p5, .val (.long v5_14), .second, .val (.long v7_15), .second, iv zs, .val (.long zx), .second, .val (.double (own_h v5_14)), .second, .val (.double (own_h v7_15)), .second, .val (.double (own_h zx)), .second, rv b18, .unset] [(.long zx), (.long v5_14)])) _
      refine XS.lcmp X19.here hx rfl (hb hby at_194) rfl ?_
      show Steps _ _ _ (T19.setTop (mkF m 195 #[iv p1, iv p2, iv p3, iv p4, iv p5, .val (.long v5_14), .second, .val (.long v7_15), .second, iv zs, .val (.long zx), .second, .val (.double (own_h v5_14)), .second, .val (.double (own_h v7_15)), .second, .val (.double (own_h zx)), .second, rv b18, .unset] [(.int (lcmpW v5_14 zx))])) _
      by_cases c195_21 : (0 : Int32) < (lcmpW v5_14 zx)
      · refine XS.ifYes X19.here hx rfl (pc0 := 195) (pc' := 210) rfl (hb hby at_195) rfl ((if0 _ _).trans (tlt c195_21).2.2.1) (by decide) (by decide) ?_
        show Steps _ _ _ (T19.setTop (mkF m 210 #[iv p1, iv p2, iv p3, iv p4, iv p5, .val (.long v5_14), .second, .val (.long v7_15), .second, iv zs, .val (.long zx), .second, .val (.double (own_h v5_14)), .second, .val (.double (own_h v7_15)), .second, .val (.double (own_h zx)), .second, rv b18, .unset] [])) _
        refine XS.iconst X19.here hx rfl (hb hby at_210) ?_
        show Steps _ _ _ (T19.setTop (mkF m 211 #[iv p1, iv p2, iv p3, iv p4, iv p5, .val (.long v5_14), .second, .val (.long v7_15), .second, iv zs, .val (.long zx), .second, .val (.double (own_h v5_14)), .second, .val (.double (own_h v7_15)), .second, .val (.double (own_h zx)), .second, rv b18, .unset] [(.int (0 : Int32))])) _
        rw [show (own_ex v5_14 v7_15 zx) = (0 : Int32) from by simp [own_ex, c195_21]]; exact Steps.refl _
      · refine XS.ifNo X19.here hx rfl (hb hby at_195) rfl ((if0 _ _).trans (flt c195_21).2.2.1) ?_
        show Steps _ _ _ (T19.setTop (mkF m 198 #[iv p1, iv p2, iv p3, iv p4, iv p5, .val (.long v5_14), .second, .val (.long v7_15), .second, iv zs, .val (.long zx), .second, .val (.double (own_h v5_14)), .second, .val (.double (own_h v7_15)), .second, .val (.double (own_h zx)), .second, rv b18, .unset] [])) _
        refine XS.lload X19.here hx rfl (hb hby at_198) rfl ?_
        show Steps _ _ _ (T19.setTop (mkF m 200 #[iv p1, iv p2, iv p3, iv p4, iv p5, .val (.long v5_14), .second, .val (.long v7_15), .second, iv zs, .val (.long zx), .second, .val (.double (own_h v5_14)), .second, .val (.double (own_h v7_15)), .second, .val (.double (own_h zx)), .second, rv b18, .unset] [(.long zx)])) _
        refine XS.lload X19.here hx rfl (hb hby at_200) rfl ?_
        show Steps _ _ _ (T19.setTop (mkF m 202 #[iv p1, iv p2, iv p3, iv p4, iv p5, .val (.long v5_14), .second, .val (.long v7_15), .second, iv zs, .val (.long zx), .second, .val (.double (own_h v5_14)), .second, .val (.double (own_h v7_15)), .second, .val (.double (own_h zx)), .second, rv b18, .unset] [(.long v7_15), (.long zx)])) _
        refine XS.lcmp X19.here hx rfl (hb hby at_202) rfl ?_
        show Steps _ _ _ (T19.setTop (mkF m 203 #[iv p1, iv p2, iv p3, iv p4, iv p5, .val (.long v5_14), .second, .val (.long v7_15), .second, iv zs, .val (.long zx), .second, .val (.double (own_h v5_14)), .second, .val (.double (own_h v7_15)), .second, .val (.double (own_h zx)), .second, rv b18, .unset] [(.int (lcmpW zx v7_15))])) _
        by_cases c203_22 : (0 : Int32) < (lcmpW zx v7_15)
        · refine XS.ifYes X19.here hx rfl (pc0 := 203) (pc' := 210) rfl (hb hby at_203) rfl ((if0 _ _).trans (tlt c203_22).2.2.1) (by decide) (by decide) ?_
          show Steps _ _ _ (T19.setTop (mkF m 210 #[iv p1, iv p2, iv p3, iv p4, iv p5, .val (.long v5_14), .second, .val (.long v7_15), .second, iv zs, .val (.long zx), .second, .val (.double (own_h v5_14)), .second, .val (.double (own_h v7_15)), .second, .val (.double (own_h zx)), .second, rv b18, .unset] [])) _
          refine XS.iconst X19.here hx rfl (hb hby at_210) ?_
          show Steps _ _ _ (T19.setTop (mkF m 211 #[iv p1, iv p2, iv p3, iv p4, iv p5, .val (.long v5_14), .second, .val (.long v7_15), .second, iv zs, .val (.long zx), .second, .val (.double (own_h v5_14)), .second, .val (.double (own_h v7_15)), .second, .val (.double (own_h zx)), .second, rv b18, .unset] [(.int (0 : Int32))])) _
          rw [show (own_ex v5_14 v7_15 zx) = (0 : Int32) from by simp [own_ex, c195_21, c203_22]]; exact Steps.refl _
        · refine XS.ifNo X19.here hx rfl (hb hby at_203) rfl ((if0 _ _).trans (flt c203_22).2.2.1) ?_
          show Steps _ _ _ (T19.setTop (mkF m 206 #[iv p1, iv p2, iv p3, iv p4, iv p5, .val (.long v5_14), .second, .val (.long v7_15), .second, iv zs, .val (.long zx), .second, .val (.double (own_h v5_14)), .second, .val (.double (own_h v7_15)), .second, .val (.double (own_h zx)), .second, rv b18, .unset] [])) _
          refine XS.iconst X19.here hx rfl (hb hby at_206) ?_
          show Steps _ _ _ (T19.setTop (mkF m 207 #[iv p1, iv p2, iv p3, iv p4, iv p5, .val (.long v5_14), .second, .val (.long v7_15), .second, iv zs, .val (.long zx), .second, .val (.double (own_h v5_14)), .second, .val (.double (own_h v7_15)), .second, .val (.double (own_h zx)), .second, rv b18, .unset] [(.int (1 : Int32))])) _
          refine XS.goto X19.here hx rfl (pc0 := 207) (pc' := 211) rfl (hb hby at_207) (by decide) (by decide) ?_
          show Steps _ _ _ (T19.setTop (mkF m 211 #[iv p1, iv p2, iv p3, iv p4, iv p5, .val (.long v5_14), .second, .val (.long v7_15), .second, iv zs, .val (.long zx), .second, .val (.double (own_h v5_14)), .second, .val (.double (own_h v7_15)), .second, .val (.double (own_h zx)), .second, rv b18, .unset] [(.int (1 : Int32))])) _
          rw [show (own_ex v5_14 v7_15 zx) = (1 : Int32) from by simp [own_ex, c195_21, c203_22]]; exact Steps.refl _
    refine own_go di20 ?_
    show own_Fin _ _ _ _ (T19.setTop (mkF m 211 #[iv p1, iv p2, iv p3, iv p4, iv p5, .val (.long v5_14), .second, .val (.long v7_15), .second, iv zs, .val (.long zx), .second, .val (.double (own_h v5_14)), .second, .val (.double (own_h v7_15)), .second, .val (.double (own_h zx)), .second, rv b18, .unset] [(.int (own_ex v5_14 v7_15 zx))]))
    refine own_go (XS.istore X19.here hx rfl (hb hby at_211) rfl rfl (Steps.refl _)) ?_
    show own_Fin _ _ _ _ (T19.setTop (mkF m 213 #[iv p1, iv p2, iv p3, iv p4, iv p5, .val (.long v5_14), .second, .val (.long v7_15), .second, iv zs, .val (.long zx), .second, .val (.double (own_h v5_14)), .second, .val (.double (own_h v7_15)), .second, .val (.double (own_h zx)), .second, rv b18, iv (own_ex v5_14 v7_15 zx)] []))
    generalize hz_v19_23 : (own_ex v5_14 v7_15 zx) = v19_23
    refine own_go (XS.aload X19.here hx rfl (hb hby at_213) rfl rfl (Steps.refl _)) ?_
    show own_Fin _ _ _ _ (T19.setTop (mkF m 215 #[iv p1, iv p2, iv p3, iv p4, iv p5, .val (.long v5_14), .second, .val (.long v7_15), .second, iv zs, .val (.long zx), .second, .val (.double (own_h v5_14)), .second, .val (.double (own_h v7_15)), .second, .val (.double (own_h zx)), .second, rv b18, iv v19_23] [(.ref b18)]))
    refine own_go (XS.dload X19.here hx rfl (hb hby at_215) rfl (Steps.refl _)) ?_
    show own_Fin _ _ _ _ (T19.setTop (mkF m 217 #[iv p1, iv p2, iv p3, iv p4, iv p5, .val (.long v5_14), .second, .val (.long v7_15), .second, iv zs, .val (.long zx), .second, .val (.double (own_h v5_14)), .second, .val (.double (own_h v7_15)), .second, .val (.double (own_h zx)), .second, rv b18, iv v19_23] [(.double (own_h zx)), (.ref b18)]))
    obtain ⟨cq24, kq24, q24a, q24b, q24c⟩ := isOf hZ rfl r19_0
    obtain ⟨_, _, ⟨T24, L24, k24, n24⟩, -, X24, ⟨Lc24, hQ24, l24, y24, z24⟩, st24⟩ := X19.virtualBack hx (y := (⟨"com/example/tidewalk/tidewalk/problems/RealBox", "contains", "(D)Z"⟩ : MethodName)) (z := (⟨"com/example/tidewalk/tidewalk/problems/RealBox", "contains", "(D)Z"⟩ : MethodName)) hown (mvT hZ (hw _ (List.mem_of_getElem? (i := 27) rfl))) (mvT hZ (hw _ (List.mem_of_getElem? (i := 28) rfl))) (notFace_of_selects (args := #[]) (mvT hZ (hw _ (List.mem_of_getElem? (i := 30) rfl)))) (mvT hZ (hw _ (List.mem_of_getElem? (i := 30) rfl))) (mvT hZ (hw _ (List.mem_of_getElem? (i := 29) rfl))) (by decide) (backOf (W := 0) (rmct l Z a0 hw [] b18 v5_14 v7_15 zx T19.heap n0 Z19 r19_2 r19_3 (own_sr hlo) (own_sr hhi) hj17) hZ (hw _ (List.mem_of_getElem? (i := 31) rfl)) (hw _ (List.mem_of_getElem? (i := 5) rfl)) (by decide) (by decide)) q24a q24c (g := (mkF m 217 #[iv p1, iv p2, iv p3, iv p4, iv p5, .val (.long v5_14), .second, .val (.long v7_15), .second, iv zs, .val (.long zx), .second, .val (.double (own_h v5_14)), .second, .val (.double (own_h v7_15)), .second, .val (.double (own_h zx)), .second, rv b18, iv v19_23] [(.double (own_h zx)), (.ref b18)])) rfl (by rw [hml]; rfl) (Steps.refl _) (argsL := [(.double (own_h zx))]) (rest := []) (lenOf pd__28_D_29_Z rfl) rfl (by show 2 * 0 + _ ≤ _; exact Nat.le_of_eq rfl) (hb hby at_217) (fun _ hv => ⟨rfl, rfl, (by decide : 1 + 0 ≤ _), (by decide : 3 + 0 ≤ _)⟩)
    dsimp only [Pt.U, Pt.locs, Pt.cells, Pt.slots] at X24 l24 y24 z24 st24 hQ24
    subst l24 y24 z24
    obtain ⟨rfl, Nq24, e24⟩ := hQ24
    refine own_go st24 ?_
    have N24 := Fr.app N19 Nq24
    show own_Fin _ _ _ _ (T24.setTop (mkF m 220 #[iv p1, iv p2, iv p3, iv p4, iv p5, .val (.long v5_14), .second, .val (.long v7_15), .second, iv zs, .val (.long zx), .second, .val (.double (own_h v5_14)), .second, .val (.double (own_h v7_15)), .second, .val (.double (own_h zx)), .second, rv b18, iv v19_23] [(.int (own_in v5_14 v7_15 zx))]))
    refine own_go (XS.iload X24.here hx rfl (hb hby at_220) rfl (Steps.refl _)) ?_
    show own_Fin _ _ _ _ (T24.setTop (mkF m 222 #[iv p1, iv p2, iv p3, iv p4, iv p5, .val (.long v5_14), .second, .val (.long v7_15), .second, iv zs, .val (.long zx), .second, .val (.double (own_h v5_14)), .second, .val (.double (own_h v7_15)), .second, .val (.double (own_h zx)), .second, rv b18, iv v19_23] [(.int v19_23), (.int (own_in v5_14 v7_15 zx))]))
    refine own_go (XS.icmpNo X24.here hx rfl (hb hby at_222) rfl (teq (show (own_in v5_14 v7_15 zx) = v19_23 from (by rw [← hz_v19_23]; exact own_inex _ _ _))).2 (Steps.refl _)) ?_
    show own_Fin _ _ _ _ (T24.setTop (mkF m 225 #[iv p1, iv p2, iv p3, iv p4, iv p5, .val (.long v5_14), .second, .val (.long v7_15), .second, iv zs, .val (.long zx), .second, .val (.double (own_h v5_14)), .second, .val (.double (own_h v7_15)), .second, .val (.double (own_h zx)), .second, rv b18, iv v19_23] []))
    refine own_go (XS.iconst X24.here hx rfl (hb hby at_225) (Steps.refl _)) ?_
    show own_Fin _ _ _ _ (T24.setTop (mkF m 226 #[iv p1, iv p2, iv p3, iv p4, iv p5, .val (.long v5_14), .second, .val (.long v7_15), .second, iv zs, .val (.long zx), .second, .val (.double (own_h v5_14)), .second, .val (.double (own_h v7_15)), .second, .val (.double (own_h zx)), .second, rv b18, iv v19_23] [(.int (1 : Int32))]))
    refine own_go (XS.goto X24.here hx rfl (pc0 := 226) (pc' := 230) rfl (hb hby at_226) (by decide) (by decide) (Steps.refl _)) ?_
    show own_Fin _ _ _ _ (T24.setTop (mkF m 230 #[iv p1, iv p2, iv p3, iv p4, iv p5, .val (.long v5_14), .second, .val (.long v7_15), .second, iv zs, .val (.long zx), .second, .val (.double (own_h v5_14)), .second, .val (.double (own_h v7_15)), .second, .val (.double (own_h zx)), .second, rv b18, iv v19_23] [(.int (1 : Int32))]))
    obtain ⟨fs25, hr25, hrun25, hended25, hW25, hsame25⟩ := X24.leave (v := some (.int (1 : Int32))) (fun h => by rw [Bd.returns] at h; cases h)
    refine own_done (retN X24 hx (t := .boolean) Bd.returns (by simp) (hb hby at_230) hr25) hrun25 hended25 ⟨_, _, rfl, ?_, ⟨_, rfl⟩, hW25, hsame25.mono (by decide) (by decide)⟩
    show Q0 Z p1 p2 p3 p4 p5 h0 n0 _ T24.heap _
    rw [e24]
    exact ⟨rfl, N24⟩
  have hcs26 : v9_16 = (0 : Int32) ∨ v9_16 = (1 : Int32) ∨ v9_16 = (2 : Int32) ∨ v9_16 = (3 : Int32) ∨ v9_16 = (4 : Int32) ∨ v9_16 = (5 : Int32) ∨ v9_16 = (6 : Int32) ∨ v9_16 = (7 : Int32) := hz_v9_16 ▸ own_n8 p4
  rcases hcs26 with rfl | rfl | rfl | rfl | rfl | rfl | rfl | rfl
  · show own_Fin _ _ _ _ (s₁.setTop (mkF m 30 #[iv p1, iv p2, iv p3, iv p4, iv p5, .val (.long v5_14), .second, .val (.long v7_15), .second, iv (0 : Int32), .unset, .unset, .unset, .unset, .unset, .unset, .unset, .unset, .unset, .unset] []))
    refine own_go (XS.iload X0.here hx rfl (hb hby at_30) rfl (Steps.refl _)) ?_
    show own_Fin _ _ _ _ (s₁.setTop (mkF m 32 #[iv p1, iv p2, iv p3, iv p4, iv p5, .val (.long v5_14), .second, .val (.long v7_15), .second, iv (0 : Int32), .unset, .unset, .unset, .unset, .unset, .unset, .unset, .unset, .unset, .unset] [(.int (0 : Int32))]))
    refine own_go (XS.ifNo X0.here hx rfl (hb hby at_32) rfl ((if0 _ _).trans (teq (by decide : (0 : Int32) = (0 : Int32))).2) (Steps.refl _)) ?_
    show own_Fin _ _ _ _ (s₁.setTop (mkF m 35 #[iv p1, iv p2, iv p3, iv p4, iv p5, .val (.long v5_14), .second, .val (.long v7_15), .second, iv (0 : Int32), .unset, .unset, .unset, .unset, .unset, .unset, .unset, .unset, .unset, .unset] []))
    refine own_by (X0.ldc2Long hx hown (mvT hZ (hw _ (List.mem_of_getElem? (i := 0) rfl))) (g := (mkF m 35 #[iv p1, iv p2, iv p3, iv p4, iv p5, .val (.long v5_14), .second, .val (.long v7_15), .second, iv (0 : Int32), .unset, .unset, .unset, .unset, .unset, .unset, .unset, .unset, .unset, .unset] [])) rfl (hb hby at_35)) ?_
    show own_Fin _ _ _ _ (s₁.setTop (mkF m 38 #[iv p1, iv p2, iv p3, iv p4, iv p5, .val (.long v5_14), .second, .val (.long v7_15), .second, iv (0 : Int32), .unset, .unset, .unset, .unset, .unset, .unset, .unset, .unset, .unset, .unset] [(.long (2 : Int64))]))
    refine own_go (XS.iloadN X0.here hx rfl (hb hby at_38) rfl (Steps.refl _)) ?_
    show own_Fin _ _ _ _ (s₁.setTop (mkF m 39 #[iv p1, iv p2, iv p3, iv p4, iv p5, .val (.long v5_14), .second, .val (.long v7_15), .second, iv (0 : Int32), .unset, .unset, .unset, .unset, .unset, .unset, .unset, .unset, .unset, .unset] [(.int p3), (.long (2 : Int64))]))
    refine own_go (XS.i2l X0.here hx rfl (hb hby at_39) rfl (Steps.refl _)) ?_
    show own_Fin _ _ _ _ (s₁.setTop (mkF m 40 #[iv p1, iv p2, iv p3, iv p4, iv p5, .val (.long v5_14), .second, .val (.long v7_15), .second, iv (0 : Int32), .unset, .unset, .unset, .unset, .unset, .unset, .unset, .unset, .unset, .unset] [(.long (p3.toInt64)), (.long (2 : Int64))]))
    refine own_go (XS.lmul X0.here hx rfl (hb hby at_40) rfl (Steps.refl _)) ?_
    show own_Fin _ _ _ _ (s₁.setTop (mkF m 41 #[iv p1, iv p2, iv p3, iv p4, iv p5, .val (.long v5_14), .second, .val (.long v7_15), .second, iv (0 : Int32), .unset, .unset, .unset, .unset, .unset, .unset, .unset, .unset, .unset, .unset] [(.long ((2 : Int64) * (p3.toInt64)))]))
    refine own_go (XS.lstore X0.here hx rfl (hb hby at_41) rfl rfl (Steps.refl _)) ?_
    show own_Fin _ _ _ _ (s₁.setTop (mkF m 43 #[iv p1, iv p2, iv p3, iv p4, iv p5, .val (.long v5_14), .second, .val (.long v7_15), .second, iv (0 : Int32), .val (.long ((2 : Int64) * (p3.toInt64))), .second, .unset, .unset, .unset, .unset, .unset, .unset, .unset, .unset] []))
    generalize hz_v10_27 : ((2 : Int64) * (p3.toInt64)) = v10_27
    refine own_go (XS.goto X0.here hx rfl (pc0 := 43) (pc' := 143) rfl (hb hby at_43) (by decide) (by decide) (Steps.refl _)) ?_
    show own_Fin _ _ _ _ (s₁.setTop (mkF m 143 #[iv p1, iv p2, iv p3, iv p4, iv p5, .val (.long v5_14), .second, .val (.long v7_15), .second, iv (0 : Int32), .val (.long v10_27), .second, .unset, .unset, .unset, .unset, .unset, .unset, .unset, .unset] []))
    exact jn17 s₁ _ (0 : Int32) v10_27 X0 e0 N0 (hz_v10_27 ▸ own_sr (own_sl p3))
  · show own_Fin _ _ _ _ (s₁.setTop (mkF m 30 #[iv p1, iv p2, iv p3, iv p4, iv p5, .val (.long v5_14), .second, .val (.long v7_15), .second, iv (1 : Int32), .unset, .unset, .unset, .unset, .unset, .unset, .unset, .unset, .unset, .unset] []))
    refine own_go (XS.iload X0.here hx rfl (hb hby at_30) rfl (Steps.refl _)) ?_
    show own_Fin _ _ _ _ (s₁.setTop (mkF m 32 #[iv p1, iv p2, iv p3, iv p4, iv p5, .val (.long v5_14), .second, .val (.long v7_15), .second, iv (1 : Int32), .unset, .unset, .unset, .unset, .unset, .unset, .unset, .unset, .unset, .unset] [(.int (1 : Int32))]))
    refine own_go (XS.ifYes X0.here hx rfl (pc0 := 32) (pc' := 46) rfl (hb hby at_32) rfl ((if0 _ _).trans (feq (by decide : ¬ ((1 : Int32) = (0 : Int32)))).2) (by decide) (by decide) (Steps.refl _)) ?_
    show own_Fin _ _ _ _ (s₁.setTop (mkF m 46 #[iv p1, iv p2, iv p3, iv p4, iv p5, .val (.long v5_14), .second, .val (.long v7_15), .second, iv (1 : Int32), .unset, .unset, .unset, .unset, .unset, .unset, .unset, .unset, .unset, .unset] []))
    refine own_go (XS.iload X0.here hx rfl (hb hby at_46) rfl (Steps.refl _)) ?_
    show own_Fin _ _ _ _ (s₁.setTop (mkF m 48 #[iv p1, iv p2, iv p3, iv p4, iv p5, .val (.long v5_14), .second, .val (.long v7_15), .second, iv (1 : Int32), .unset, .unset, .unset, .unset, .unset, .unset, .unset, .unset, .unset, .unset] [(.int (1 : Int32))]))
    refine own_go (XS.iconst X0.here hx rfl (hb hby at_48) (Steps.refl _)) ?_
    show own_Fin _ _ _ _ (s₁.setTop (mkF m 49 #[iv p1, iv p2, iv p3, iv p4, iv p5, .val (.long v5_14), .second, .val (.long v7_15), .second, iv (1 : Int32), .unset, .unset, .unset, .unset, .unset, .unset, .unset, .unset, .unset, .unset] [(.int (1 : Int32)), (.int (1 : Int32))]))
    refine own_go (XS.icmpNo X0.here hx rfl (hb hby at_49) rfl (teq (by decide : (1 : Int32) = (1 : Int32))).2 (Steps.refl _)) ?_
    show own_Fin _ _ _ _ (s₁.setTop (mkF m 52 #[iv p1, iv p2, iv p3, iv p4, iv p5, .val (.long v5_14), .second, .val (.long v7_15), .second, iv (1 : Int32), .unset, .unset, .unset, .unset, .unset, .unset, .unset, .unset, .unset, .unset] []))
    refine own_go (XS.lload X0.here hx rfl (hb hby at_52) rfl (Steps.refl _)) ?_
    show own_Fin _ _ _ _ (s₁.setTop (mkF m 54 #[iv p1, iv p2, iv p3, iv p4, iv p5, .val (.long v5_14), .second, .val (.long v7_15), .second, iv (1 : Int32), .unset, .unset, .unset, .unset, .unset, .unset, .unset, .unset, .unset, .unset] [(.long v5_14)]))
    refine own_go (XS.lstore X0.here hx rfl (hb hby at_54) rfl rfl (Steps.refl _)) ?_
    show own_Fin _ _ _ _ (s₁.setTop (mkF m 56 #[iv p1, iv p2, iv p3, iv p4, iv p5, .val (.long v5_14), .second, .val (.long v7_15), .second, iv (1 : Int32), .val (.long v5_14), .second, .unset, .unset, .unset, .unset, .unset, .unset, .unset, .unset] []))
    refine own_go (XS.goto X0.here hx rfl (pc0 := 56) (pc' := 143) rfl (hb hby at_56) (by decide) (by decide) (Steps.refl _)) ?_
    show own_Fin _ _ _ _ (s₁.setTop (mkF m 143 #[iv p1, iv p2, iv p3, iv p4, iv p5, .val (.long v5_14), .second, .val (.long v7_15), .second, iv (1 : Int32), .val (.long v5_14), .second, .unset, .unset, .unset, .unset, .unset, .unset, .unset, .unset] []))
    exact jn17 s₁ _ (1 : Int32) v5_14 X0 e0 N0 (own_sr hlo)
  · show own_Fin _ _ _ _ (s₁.setTop (mkF m 30 #[iv p1, iv p2, iv p3, iv p4, iv p5, .val (.long v5_14), .second, .val (.long v7_15), .second, iv (2 : Int32), .unset, .unset, .unset, .unset, .unset, .unset, .unset, .unset, .unset, .unset] []))
    refine own_go (XS.iload X0.here hx rfl (hb hby at_30) rfl (Steps.refl _)) ?_
    show own_Fin _ _ _ _ (s₁.setTop (mkF m 32 #[iv p1, iv p2, iv p3, iv p4, iv p5, .val (.long v5_14), .second, .val (.long v7_15), .second, iv (2 : Int32), .unset, .unset, .unset, .unset, .unset, .unset, .unset, .unset, .unset, .unset] [(.int (2 : Int32))]))
    refine own_go (XS.ifYes X0.here hx rfl (pc0 := 32) (pc' := 46) rfl (hb hby at_32) rfl ((if0 _ _).trans (feq (by decide : ¬ ((2 : Int32) = (0 : Int32)))).2) (by decide) (by decide) (Steps.refl _)) ?_
    show own_Fin _ _ _ _ (s₁.setTop (mkF m 46 #[iv p1, iv p2, iv p3, iv p4, iv p5, .val (.long v5_14), .second, .val (.long v7_15), .second, iv (2 : Int32), .unset, .unset, .unset, .unset, .unset, .unset, .unset, .unset, .unset, .unset] []))
    refine own_go (XS.iload X0.here hx rfl (hb hby at_46) rfl (Steps.refl _)) ?_
    show own_Fin _ _ _ _ (s₁.setTop (mkF m 48 #[iv p1, iv p2, iv p3, iv p4, iv p5, .val (.long v5_14), .second, .val (.long v7_15), .second, iv (2 : Int32), .unset, .unset, .unset, .unset, .unset, .unset, .unset, .unset, .unset, .unset] [(.int (2 : Int32))]))
    refine own_go (XS.iconst X0.here hx rfl (hb hby at_48) (Steps.refl _)) ?_
    show own_Fin _ _ _ _ (s₁.setTop (mkF m 49 #[iv p1, iv p2, iv p3, iv p4, iv p5, .val (.long v5_14), .second, .val (.long v7_15), .second, iv (2 : Int32), .unset, .unset, .unset, .unset, .unset, .unset, .unset, .unset, .unset, .unset] [(.int (1 : Int32)), (.int (2 : Int32))]))
    refine own_go (XS.icmpYes X0.here hx rfl (pc0 := 49) (pc' := 59) rfl (hb hby at_49) rfl (feq (by decide : ¬ ((2 : Int32) = (1 : Int32)))).2 (by decide) (by decide) (Steps.refl _)) ?_
    show own_Fin _ _ _ _ (s₁.setTop (mkF m 59 #[iv p1, iv p2, iv p3, iv p4, iv p5, .val (.long v5_14), .second, .val (.long v7_15), .second, iv (2 : Int32), .unset, .unset, .unset, .unset, .unset, .unset, .unset, .unset, .unset, .unset] []))
    refine own_go (XS.iload X0.here hx rfl (hb hby at_59) rfl (Steps.refl _)) ?_
    show own_Fin _ _ _ _ (s₁.setTop (mkF m 61 #[iv p1, iv p2, iv p3, iv p4, iv p5, .val (.long v5_14), .second, .val (.long v7_15), .second, iv (2 : Int32), .unset, .unset, .unset, .unset, .unset, .unset, .unset, .unset, .unset, .unset] [(.int (2 : Int32))]))
    refine own_go (XS.iconst X0.here hx rfl (hb hby at_61) (Steps.refl _)) ?_
    show own_Fin _ _ _ _ (s₁.setTop (mkF m 62 #[iv p1, iv p2, iv p3, iv p4, iv p5, .val (.long v5_14), .second, .val (.long v7_15), .second, iv (2 : Int32), .unset, .unset, .unset, .unset, .unset, .unset, .unset, .unset, .unset, .unset] [(.int (2 : Int32)), (.int (2 : Int32))]))
    refine own_go (XS.icmpNo X0.here hx rfl (hb hby at_62) rfl (teq (by decide : (2 : Int32) = (2 : Int32))).2 (Steps.refl _)) ?_
    show own_Fin _ _ _ _ (s₁.setTop (mkF m 65 #[iv p1, iv p2, iv p3, iv p4, iv p5, .val (.long v5_14), .second, .val (.long v7_15), .second, iv (2 : Int32), .unset, .unset, .unset, .unset, .unset, .unset, .unset, .unset, .unset, .unset] []))
    refine own_go (XS.lload X0.here hx rfl (hb hby at_65) rfl (Steps.refl _)) ?_
    show own_Fin _ _ _ _ (s₁.setTop (mkF m 67 #[iv p1, iv p2, iv p3, iv p4, iv p5, .val (.long v5_14), .second, .val (.long v7_15), .second, iv (2 : Int32), .unset, .unset, .unset, .unset, .unset, .unset, .unset, .unset, .unset, .unset] [(.long v7_15)]))
    refine own_go (XS.lstore X0.here hx rfl (hb hby at_67) rfl rfl (Steps.refl _)) ?_
    show own_Fin _ _ _ _ (s₁.setTop (mkF m 69 #[iv p1, iv p2, iv p3, iv p4, iv p5, .val (.long v5_14), .second, .val (.long v7_15), .second, iv (2 : Int32), .val (.long v7_15), .second, .unset, .unset, .unset, .unset, .unset, .unset, .unset, .unset] []))
    refine own_go (XS.goto X0.here hx rfl (pc0 := 69) (pc' := 143) rfl (hb hby at_69) (by decide) (by decide) (Steps.refl _)) ?_
    show own_Fin _ _ _ _ (s₁.setTop (mkF m 143 #[iv p1, iv p2, iv p3, iv p4, iv p5, .val (.long v5_14), .second, .val (.long v7_15), .second, iv (2 : Int32), .val (.long v7_15), .second, .unset, .unset, .unset, .unset, .unset, .unset, .unset, .unset] []))
    exact jn17 s₁ _ (2 : Int32) v7_15 X0 e0 N0 (own_sr hhi)
  · show own_Fin _ _ _ _ (s₁.setTop (mkF m 30 #[iv p1, iv p2, iv p3, iv p4, iv p5, .val (.long v5_14), .second, .val (.long v7_15), .second, iv (3 : Int32), .unset, .unset, .unset, .unset, .unset, .unset, .unset, .unset, .unset, .unset] []))
    refine own_go (XS.iload X0.here hx rfl (hb hby at_30) rfl (Steps.refl _)) ?_
    show own_Fin _ _ _ _ (s₁.setTop (mkF m 32 #[iv p1, iv p2, iv p3, iv p4, iv p5, .val (.long v5_14), .second, .val (.long v7_15), .second, iv (3 : Int32), .unset, .unset, .unset, .unset, .unset, .unset, .unset, .unset, .unset, .unset] [(.int (3 : Int32))]))
    refine own_go (XS.ifYes X0.here hx rfl (pc0 := 32) (pc' := 46) rfl (hb hby at_32) rfl ((if0 _ _).trans (feq (by decide : ¬ ((3 : Int32) = (0 : Int32)))).2) (by decide) (by decide) (Steps.refl _)) ?_
    show own_Fin _ _ _ _ (s₁.setTop (mkF m 46 #[iv p1, iv p2, iv p3, iv p4, iv p5, .val (.long v5_14), .second, .val (.long v7_15), .second, iv (3 : Int32), .unset, .unset, .unset, .unset, .unset, .unset, .unset, .unset, .unset, .unset] []))
    refine own_go (XS.iload X0.here hx rfl (hb hby at_46) rfl (Steps.refl _)) ?_
    show own_Fin _ _ _ _ (s₁.setTop (mkF m 48 #[iv p1, iv p2, iv p3, iv p4, iv p5, .val (.long v5_14), .second, .val (.long v7_15), .second, iv (3 : Int32), .unset, .unset, .unset, .unset, .unset, .unset, .unset, .unset, .unset, .unset] [(.int (3 : Int32))]))
    refine own_go (XS.iconst X0.here hx rfl (hb hby at_48) (Steps.refl _)) ?_
    show own_Fin _ _ _ _ (s₁.setTop (mkF m 49 #[iv p1, iv p2, iv p3, iv p4, iv p5, .val (.long v5_14), .second, .val (.long v7_15), .second, iv (3 : Int32), .unset, .unset, .unset, .unset, .unset, .unset, .unset, .unset, .unset, .unset] [(.int (1 : Int32)), (.int (3 : Int32))]))
    refine own_go (XS.icmpYes X0.here hx rfl (pc0 := 49) (pc' := 59) rfl (hb hby at_49) rfl (feq (by decide : ¬ ((3 : Int32) = (1 : Int32)))).2 (by decide) (by decide) (Steps.refl _)) ?_
    show own_Fin _ _ _ _ (s₁.setTop (mkF m 59 #[iv p1, iv p2, iv p3, iv p4, iv p5, .val (.long v5_14), .second, .val (.long v7_15), .second, iv (3 : Int32), .unset, .unset, .unset, .unset, .unset, .unset, .unset, .unset, .unset, .unset] []))
    refine own_go (XS.iload X0.here hx rfl (hb hby at_59) rfl (Steps.refl _)) ?_
    show own_Fin _ _ _ _ (s₁.setTop (mkF m 61 #[iv p1, iv p2, iv p3, iv p4, iv p5, .val (.long v5_14), .second, .val (.long v7_15), .second, iv (3 : Int32), .unset, .unset, .unset, .unset, .unset, .unset, .unset, .unset, .unset, .unset] [(.int (3 : Int32))]))
    refine own_go (XS.iconst X0.here hx rfl (hb hby at_61) (Steps.refl _)) ?_
    show own_Fin _ _ _ _ (s₁.setTop (mkF m 62 #[iv p1, iv p2, iv p3, iv p4, iv p5, .val (.long v5_14), .second, .val (.long v7_15), .second, iv (3 : Int32), .unset, .unset, .unset, .unset, .unset, .unset, .unset, .unset, .unset, .unset] [(.int (2 : Int32)), (.int (3 : Int32))]))
    refine own_go (XS.icmpYes X0.here hx rfl (pc0 := 62) (pc' := 72) rfl (hb hby at_62) rfl (feq (by decide : ¬ ((3 : Int32) = (2 : Int32)))).2 (by decide) (by decide) (Steps.refl _)) ?_
    show own_Fin _ _ _ _ (s₁.setTop (mkF m 72 #[iv p1, iv p2, iv p3, iv p4, iv p5, .val (.long v5_14), .second, .val (.long v7_15), .second, iv (3 : Int32), .unset, .unset, .unset, .unset, .unset, .unset, .unset, .unset, .unset, .unset] []))
    refine own_go (XS.iload X0.here hx rfl (hb hby at_72) rfl (Steps.refl _)) ?_
    show own_Fin _ _ _ _ (s₁.setTop (mkF m 74 #[iv p1, iv p2, iv p3, iv p4, iv p5, .val (.long v5_14), .second, .val (.long v7_15), .second, iv (3 : Int32), .unset, .unset, .unset, .unset, .unset, .unset, .unset, .unset, .unset, .unset] [(.int (3 : Int32))]))
    refine own_go (XS.iconst X0.here hx rfl (hb hby at_74) (Steps.refl _)) ?_
    show own_Fin _ _ _ _ (s₁.setTop (mkF m 75 #[iv p1, iv p2, iv p3, iv p4, iv p5, .val (.long v5_14), .second, .val (.long v7_15), .second, iv (3 : Int32), .unset, .unset, .unset, .unset, .unset, .unset, .unset, .unset, .unset, .unset] [(.int (3 : Int32)), (.int (3 : Int32))]))
    refine own_go (XS.icmpNo X0.here hx rfl (hb hby at_75) rfl (teq (by decide : (3 : Int32) = (3 : Int32))).2 (Steps.refl _)) ?_
    show own_Fin _ _ _ _ (s₁.setTop (mkF m 78 #[iv p1, iv p2, iv p3, iv p4, iv p5, .val (.long v5_14), .second, .val (.long v7_15), .second, iv (3 : Int32), .unset, .unset, .unset, .unset, .unset, .unset, .unset, .unset, .unset, .unset] []))
    refine own_go (XS.lload X0.here hx rfl (hb hby at_78) rfl (Steps.refl _)) ?_
    show own_Fin _ _ _ _ (s₁.setTop (mkF m 80 #[iv p1, iv p2, iv p3, iv p4, iv p5, .val (.long v5_14), .second, .val (.long v7_15), .second, iv (3 : Int32), .unset, .unset, .unset, .unset, .unset, .unset, .unset, .unset, .unset, .unset] [(.long v5_14)]))
    refine own_go (XS.lconst X0.here hx rfl (hb hby at_80) (Steps.refl _)) ?_
    show own_Fin _ _ _ _ (s₁.setTop (mkF m 81 #[iv p1, iv p2, iv p3, iv p4, iv p5, .val (.long v5_14), .second, .val (.long v7_15), .second, iv (3 : Int32), .unset, .unset, .unset, .unset, .unset, .unset, .unset, .unset, .unset, .unset] [(.long (1 : Int64)), (.long v5_14)]))
    refine own_go (XS.lsub X0.here hx rfl (hb hby at_81) rfl (Steps.refl _)) ?_
    show own_Fin _ _ _ _ (s₁.setTop (mkF m 82 #[iv p1, iv p2, iv p3, iv p4, iv p5, .val (.long v5_14), .second, .val (.long v7_15), .second, iv (3 : Int32), .unset, .unset, .unset, .unset, .unset, .unset, .unset, .unset, .unset, .unset] [(.long (v5_14 - (1 : Int64)))]))
    refine own_go (XS.lstore X0.here hx rfl (hb hby at_82) rfl rfl (Steps.refl _)) ?_
    show own_Fin _ _ _ _ (s₁.setTop (mkF m 84 #[iv p1, iv p2, iv p3, iv p4, iv p5, .val (.long v5_14), .second, .val (.long v7_15), .second, iv (3 : Int32), .val (.long (v5_14 - (1 : Int64))), .second, .unset, .unset, .unset, .unset, .unset, .unset, .unset, .unset] []))
    generalize hz_v10_28 : (v5_14 - (1 : Int64)) = v10_28
    refine own_go (XS.goto X0.here hx rfl (pc0 := 84) (pc' := 143) rfl (hb hby at_84) (by decide) (by decide) (Steps.refl _)) ?_
    show own_Fin _ _ _ _ (s₁.setTop (mkF m 143 #[iv p1, iv p2, iv p3, iv p4, iv p5, .val (.long v5_14), .second, .val (.long v7_15), .second, iv (3 : Int32), .val (.long v10_28), .second, .unset, .unset, .unset, .unset, .unset, .unset, .unset, .unset] []))
    exact jn17 s₁ _ (3 : Int32) v10_28 X0 e0 N0 (hz_v10_28 ▸ own_sm hlo)
  · show own_Fin _ _ _ _ (s₁.setTop (mkF m 30 #[iv p1, iv p2, iv p3, iv p4, iv p5, .val (.long v5_14), .second, .val (.long v7_15), .second, iv (4 : Int32), .unset, .unset, .unset, .unset, .unset, .unset, .unset, .unset, .unset, .unset] []))
    refine own_go (XS.iload X0.here hx rfl (hb hby at_30) rfl (Steps.refl _)) ?_
    show own_Fin _ _ _ _ (s₁.setTop (mkF m 32 #[iv p1, iv p2, iv p3, iv p4, iv p5, .val (.long v5_14), .second, .val (.long v7_15), .second, iv (4 : Int32), .unset, .unset, .unset, .unset, .unset, .unset, .unset, .unset, .unset, .unset] [(.int (4 : Int32))]))
    refine own_go (XS.ifYes X0.here hx rfl (pc0 := 32) (pc' := 46) rfl (hb hby at_32) rfl ((if0 _ _).trans (feq (by decide : ¬ ((4 : Int32) = (0 : Int32)))).2) (by decide) (by decide) (Steps.refl _)) ?_
    show own_Fin _ _ _ _ (s₁.setTop (mkF m 46 #[iv p1, iv p2, iv p3, iv p4, iv p5, .val (.long v5_14), .second, .val (.long v7_15), .second, iv (4 : Int32), .unset, .unset, .unset, .unset, .unset, .unset, .unset, .unset, .unset, .unset] []))
    refine own_go (XS.iload X0.here hx rfl (hb hby at_46) rfl (Steps.refl _)) ?_
    show own_Fin _ _ _ _ (s₁.setTop (mkF m 48 #[iv p1, iv p2, iv p3, iv p4, iv p5, .val (.long v5_14), .second, .val (.long v7_15), .second, iv (4 : Int32), .unset, .unset, .unset, .unset, .unset, .unset, .unset, .unset, .unset, .unset] [(.int (4 : Int32))]))
    refine own_go (XS.iconst X0.here hx rfl (hb hby at_48) (Steps.refl _)) ?_
    show own_Fin _ _ _ _ (s₁.setTop (mkF m 49 #[iv p1, iv p2, iv p3, iv p4, iv p5, .val (.long v5_14), .second, .val (.long v7_15), .second, iv (4 : Int32), .unset, .unset, .unset, .unset, .unset, .unset, .unset, .unset, .unset, .unset] [(.int (1 : Int32)), (.int (4 : Int32))]))
    refine own_go (XS.icmpYes X0.here hx rfl (pc0 := 49) (pc' := 59) rfl (hb hby at_49) rfl (feq (by decide : ¬ ((4 : Int32) = (1 : Int32)))).2 (by decide) (by decide) (Steps.refl _)) ?_
    show own_Fin _ _ _ _ (s₁.setTop (mkF m 59 #[iv p1, iv p2, iv p3, iv p4, iv p5, .val (.long v5_14), .second, .val (.long v7_15), .second, iv (4 : Int32), .unset, .unset, .unset, .unset, .unset, .unset, .unset, .unset, .unset, .unset] []))
    refine own_go (XS.iload X0.here hx rfl (hb hby at_59) rfl (Steps.refl _)) ?_
    show own_Fin _ _ _ _ (s₁.setTop (mkF m 61 #[iv p1, iv p2, iv p3, iv p4, iv p5, .val (.long v5_14), .second, .val (.long v7_15), .second, iv (4 : Int32), .unset, .unset, .unset, .unset, .unset, .unset, .unset, .unset, .unset, .unset] [(.int (4 : Int32))]))
    refine own_go (XS.iconst X0.here hx rfl (hb hby at_61) (Steps.refl _)) ?_
    show own_Fin _ _ _ _ (s₁.setTop (mkF m 62 #[iv p1, iv p2, iv p3, iv p4, iv p5, .val (.long v5_14), .second, .val (.long v7_15), .second, iv (4 : Int32), .unset, .unset, .unset, .unset, .unset, .unset, .unset, .unset, .unset, .unset] [(.int (2 : Int32)), (.int (4 : Int32))]))
    refine own_go (XS.icmpYes X0.here hx rfl (pc0 := 62) (pc' := 72) rfl (hb hby at_62) rfl (feq (by decide : ¬ ((4 : Int32) = (2 : Int32)))).2 (by decide) (by decide) (Steps.refl _)) ?_
    show own_Fin _ _ _ _ (s₁.setTop (mkF m 72 #[iv p1, iv p2, iv p3, iv p4, iv p5, .val (.long v5_14), .second, .val (.long v7_15), .second, iv (4 : Int32), .unset, .unset, .unset, .unset, .unset, .unset, .unset, .unset, .unset, .unset] []))
    refine own_go (XS.iload X0.here hx rfl (hb hby at_72) rfl (Steps.refl _)) ?_
    show own_Fin _ _ _ _ (s₁.setTop (mkF m 74 #[iv p1, iv p2, iv p3, iv p4, iv p5, .val (.long v5_14), .second, .val (.long v7_15), .second, iv (4 : Int32), .unset, .unset, .unset, .unset, .unset, .unset, .unset, .unset, .unset, .unset] [(.int (4 : Int32))]))
    refine own_go (XS.iconst X0.here hx rfl (hb hby at_74) (Steps.refl _)) ?_
    show own_Fin _ _ _ _ (s₁.setTop (mkF m 75 #[iv p1, iv p2, iv p3, iv p4, iv p5, .val (.long v5_14), .second, .val (.long v7_15), .second, iv (4 : Int32), .unset, .unset, .unset, .unset, .unset, .unset, .unset, .unset, .unset, .unset] [(.int (3 : Int32)), (.int (4 : Int32))]))
    refine own_go (XS.icmpYes X0.here hx rfl (pc0 := 75) (pc' := 87) rfl (hb hby at_75) rfl (feq (by decide : ¬ ((4 : Int32) = (3 : Int32)))).2 (by decide) (by decide) (Steps.refl _)) ?_
    show own_Fin _ _ _ _ (s₁.setTop (mkF m 87 #[iv p1, iv p2, iv p3, iv p4, iv p5, .val (.long v5_14), .second, .val (.long v7_15), .second, iv (4 : Int32), .unset, .unset, .unset, .unset, .unset, .unset, .unset, .unset, .unset, .unset] []))
    refine own_go (XS.iload X0.here hx rfl (hb hby at_87) rfl (Steps.refl _)) ?_
    show own_Fin _ _ _ _ (s₁.setTop (mkF m 89 #[iv p1, iv p2, iv p3, iv p4, iv p5, .val (.long v5_14), .second, .val (.long v7_15), .second, iv (4 : Int32), .unset, .unset, .unset, .unset, .unset, .unset, .unset, .unset, .unset, .unset] [(.int (4 : Int32))]))
    refine own_go (XS.iconst X0.here hx rfl (hb hby at_89) (Steps.refl _)) ?_
    show own_Fin _ _ _ _ (s₁.setTop (mkF m 90 #[iv p1, iv p2, iv p3, iv p4, iv p5, .val (.long v5_14), .second, .val (.long v7_15), .second, iv (4 : Int32), .unset, .unset, .unset, .unset, .unset, .unset, .unset, .unset, .unset, .unset] [(.int (4 : Int32)), (.int (4 : Int32))]))
    refine own_go (XS.icmpNo X0.here hx rfl (hb hby at_90) rfl (teq (by decide : (4 : Int32) = (4 : Int32))).2 (Steps.refl _)) ?_
    show own_Fin _ _ _ _ (s₁.setTop (mkF m 93 #[iv p1, iv p2, iv p3, iv p4, iv p5, .val (.long v5_14), .second, .val (.long v7_15), .second, iv (4 : Int32), .unset, .unset, .unset, .unset, .unset, .unset, .unset, .unset, .unset, .unset] []))
    refine own_go (XS.lload X0.here hx rfl (hb hby at_93) rfl (Steps.refl _)) ?_
    show own_Fin _ _ _ _ (s₁.setTop (mkF m 95 #[iv p1, iv p2, iv p3, iv p4, iv p5, .val (.long v5_14), .second, .val (.long v7_15), .second, iv (4 : Int32), .unset, .unset, .unset, .unset, .unset, .unset, .unset, .unset, .unset, .unset] [(.long v7_15)]))
    refine own_go (XS.lconst X0.here hx rfl (hb hby at_95) (Steps.refl _)) ?_
    show own_Fin _ _ _ _ (s₁.setTop (mkF m 96 #[iv p1, iv p2, iv p3, iv p4, iv p5, .val (.long v5_14), .second, .val (.long v7_15), .second, iv (4 : Int32), .unset, .unset, .unset, .unset, .unset, .unset, .unset, .unset, .unset, .unset] [(.long (1 : Int64)), (.long v7_15)]))
    refine own_go (XS.ladd X0.here hx rfl (hb hby at_96) rfl (Steps.refl _)) ?_
    show own_Fin _ _ _ _ (s₁.setTop (mkF m 97 #[iv p1, iv p2, iv p3, iv p4, iv p5, .val (.long v5_14), .second, .val (.long v7_15), .second, iv (4 : Int32), .unset, .unset, .unset, .unset, .unset, .unset, .unset, .unset, .unset, .unset] [(.long (v7_15 + (1 : Int64)))]))
    refine own_go (XS.lstore X0.here hx rfl (hb hby at_97) rfl rfl (Steps.refl _)) ?_
    show own_Fin _ _ _ _ (s₁.setTop (mkF m 99 #[iv p1, iv p2, iv p3, iv p4, iv p5, .val (.long v5_14), .second, .val (.long v7_15), .second, iv (4 : Int32), .val (.long (v7_15 + (1 : Int64))), .second, .unset, .unset, .unset, .unset, .unset, .unset, .unset, .unset] []))
    generalize hz_v10_29 : (v7_15 + (1 : Int64)) = v10_29
    refine own_go (XS.goto X0.here hx rfl (pc0 := 99) (pc' := 143) rfl (hb hby at_99) (by decide) (by decide) (Steps.refl _)) ?_
    show own_Fin _ _ _ _ (s₁.setTop (mkF m 143 #[iv p1, iv p2, iv p3, iv p4, iv p5, .val (.long v5_14), .second, .val (.long v7_15), .second, iv (4 : Int32), .val (.long v10_29), .second, .unset, .unset, .unset, .unset, .unset, .unset, .unset, .unset] []))
    exact jn17 s₁ _ (4 : Int32) v10_29 X0 e0 N0 (hz_v10_29 ▸ own_sp hhi)
  · show own_Fin _ _ _ _ (s₁.setTop (mkF m 30 #[iv p1, iv p2, iv p3, iv p4, iv p5, .val (.long v5_14), .second, .val (.long v7_15), .second, iv (5 : Int32), .unset, .unset, .unset, .unset, .unset, .unset, .unset, .unset, .unset, .unset] []))
    refine own_go (XS.iload X0.here hx rfl (hb hby at_30) rfl (Steps.refl _)) ?_
    show own_Fin _ _ _ _ (s₁.setTop (mkF m 32 #[iv p1, iv p2, iv p3, iv p4, iv p5, .val (.long v5_14), .second, .val (.long v7_15), .second, iv (5 : Int32), .unset, .unset, .unset, .unset, .unset, .unset, .unset, .unset, .unset, .unset] [(.int (5 : Int32))]))
    refine own_go (XS.ifYes X0.here hx rfl (pc0 := 32) (pc' := 46) rfl (hb hby at_32) rfl ((if0 _ _).trans (feq (by decide : ¬ ((5 : Int32) = (0 : Int32)))).2) (by decide) (by decide) (Steps.refl _)) ?_
    show own_Fin _ _ _ _ (s₁.setTop (mkF m 46 #[iv p1, iv p2, iv p3, iv p4, iv p5, .val (.long v5_14), .second, .val (.long v7_15), .second, iv (5 : Int32), .unset, .unset, .unset, .unset, .unset, .unset, .unset, .unset, .unset, .unset] []))
    refine own_go (XS.iload X0.here hx rfl (hb hby at_46) rfl (Steps.refl _)) ?_
    show own_Fin _ _ _ _ (s₁.setTop (mkF m 48 #[iv p1, iv p2, iv p3, iv p4, iv p5, .val (.long v5_14), .second, .val (.long v7_15), .second, iv (5 : Int32), .unset, .unset, .unset, .unset, .unset, .unset, .unset, .unset, .unset, .unset] [(.int (5 : Int32))]))
    refine own_go (XS.iconst X0.here hx rfl (hb hby at_48) (Steps.refl _)) ?_
    show own_Fin _ _ _ _ (s₁.setTop (mkF m 49 #[iv p1, iv p2, iv p3, iv p4, iv p5, .val (.long v5_14), .second, .val (.long v7_15), .second, iv (5 : Int32), .unset, .unset, .unset, .unset, .unset, .unset, .unset, .unset, .unset, .unset] [(.int (1 : Int32)), (.int (5 : Int32))]))
    refine own_go (XS.icmpYes X0.here hx rfl (pc0 := 49) (pc' := 59) rfl (hb hby at_49) rfl (feq (by decide : ¬ ((5 : Int32) = (1 : Int32)))).2 (by decide) (by decide) (Steps.refl _)) ?_
    show own_Fin _ _ _ _ (s₁.setTop (mkF m 59 #[iv p1, iv p2, iv p3, iv p4, iv p5, .val (.long v5_14), .second, .val (.long v7_15), .second, iv (5 : Int32), .unset, .unset, .unset, .unset, .unset, .unset, .unset, .unset, .unset, .unset] []))
    refine own_go (XS.iload X0.here hx rfl (hb hby at_59) rfl (Steps.refl _)) ?_
    show own_Fin _ _ _ _ (s₁.setTop (mkF m 61 #[iv p1, iv p2, iv p3, iv p4, iv p5, .val (.long v5_14), .second, .val (.long v7_15), .second, iv (5 : Int32), .unset, .unset, .unset, .unset, .unset, .unset, .unset, .unset, .unset, .unset] [(.int (5 : Int32))]))
    refine own_go (XS.iconst X0.here hx rfl (hb hby at_61) (Steps.refl _)) ?_
    show own_Fin _ _ _ _ (s₁.setTop (mkF m 62 #[iv p1, iv p2, iv p3, iv p4, iv p5, .val (.long v5_14), .second, .val (.long v7_15), .second, iv (5 : Int32), .unset, .unset, .unset, .unset, .unset, .unset, .unset, .unset, .unset, .unset] [(.int (2 : Int32)), (.int (5 : Int32))]))
    refine own_go (XS.icmpYes X0.here hx rfl (pc0 := 62) (pc' := 72) rfl (hb hby at_62) rfl (feq (by decide : ¬ ((5 : Int32) = (2 : Int32)))).2 (by decide) (by decide) (Steps.refl _)) ?_
    show own_Fin _ _ _ _ (s₁.setTop (mkF m 72 #[iv p1, iv p2, iv p3, iv p4, iv p5, .val (.long v5_14), .second, .val (.long v7_15), .second, iv (5 : Int32), .unset, .unset, .unset, .unset, .unset, .unset, .unset, .unset, .unset, .unset] []))
    refine own_go (XS.iload X0.here hx rfl (hb hby at_72) rfl (Steps.refl _)) ?_
    show own_Fin _ _ _ _ (s₁.setTop (mkF m 74 #[iv p1, iv p2, iv p3, iv p4, iv p5, .val (.long v5_14), .second, .val (.long v7_15), .second, iv (5 : Int32), .unset, .unset, .unset, .unset, .unset, .unset, .unset, .unset, .unset, .unset] [(.int (5 : Int32))]))
    refine own_go (XS.iconst X0.here hx rfl (hb hby at_74) (Steps.refl _)) ?_
    show own_Fin _ _ _ _ (s₁.setTop (mkF m 75 #[iv p1, iv p2, iv p3, iv p4, iv p5, .val (.long v5_14), .second, .val (.long v7_15), .second, iv (5 : Int32), .unset, .unset, .unset, .unset, .unset, .unset, .unset, .unset, .unset, .unset] [(.int (3 : Int32)), (.int (5 : Int32))]))
    refine own_go (XS.icmpYes X0.here hx rfl (pc0 := 75) (pc' := 87) rfl (hb hby at_75) rfl (feq (by decide : ¬ ((5 : Int32) = (3 : Int32)))).2 (by decide) (by decide) (Steps.refl _)) ?_
    show own_Fin _ _ _ _ (s₁.setTop (mkF m 87 #[iv p1, iv p2, iv p3, iv p4, iv p5, .val (.long v5_14), .second, .val (.long v7_15), .second, iv (5 : Int32), .unset, .unset, .unset, .unset, .unset, .unset, .unset, .unset, .unset, .unset] []))
    refine own_go (XS.iload X0.here hx rfl (hb hby at_87) rfl (Steps.refl _)) ?_
    show own_Fin _ _ _ _ (s₁.setTop (mkF m 89 #[iv p1, iv p2, iv p3, iv p4, iv p5, .val (.long v5_14), .second, .val (.long v7_15), .second, iv (5 : Int32), .unset, .unset, .unset, .unset, .unset, .unset, .unset, .unset, .unset, .unset] [(.int (5 : Int32))]))
    refine own_go (XS.iconst X0.here hx rfl (hb hby at_89) (Steps.refl _)) ?_
    show own_Fin _ _ _ _ (s₁.setTop (mkF m 90 #[iv p1, iv p2, iv p3, iv p4, iv p5, .val (.long v5_14), .second, .val (.long v7_15), .second, iv (5 : Int32), .unset, .unset, .unset, .unset, .unset, .unset, .unset, .unset, .unset, .unset] [(.int (4 : Int32)), (.int (5 : Int32))]))
    refine own_go (XS.icmpYes X0.here hx rfl (pc0 := 90) (pc' := 102) rfl (hb hby at_90) rfl (feq (by decide : ¬ ((5 : Int32) = (4 : Int32)))).2 (by decide) (by decide) (Steps.refl _)) ?_
    show own_Fin _ _ _ _ (s₁.setTop (mkF m 102 #[iv p1, iv p2, iv p3, iv p4, iv p5, .val (.long v5_14), .second, .val (.long v7_15), .second, iv (5 : Int32), .unset, .unset, .unset, .unset, .unset, .unset, .unset, .unset, .unset, .unset] []))
    refine own_go (XS.iload X0.here hx rfl (hb hby at_102) rfl (Steps.refl _)) ?_
    show own_Fin _ _ _ _ (s₁.setTop (mkF m 104 #[iv p1, iv p2, iv p3, iv p4, iv p5, .val (.long v5_14), .second, .val (.long v7_15), .second, iv (5 : Int32), .unset, .unset, .unset, .unset, .unset, .unset, .unset, .unset, .unset, .unset] [(.int (5 : Int32))]))
    refine own_go (XS.iconst X0.here hx rfl (hb hby at_104) (Steps.refl _)) ?_
    show own_Fin _ _ _ _ (s₁.setTop (mkF m 105 #[iv p1, iv p2, iv p3, iv p4, iv p5, .val (.long v5_14), .second, .val (.long v7_15), .second, iv (5 : Int32), .unset, .unset, .unset, .unset, .unset, .unset, .unset, .unset, .unset, .unset] [(.int (5 : Int32)), (.int (5 : Int32))]))
    refine own_go (XS.icmpNo X0.here hx rfl (hb hby at_105) rfl (teq (by decide : (5 : Int32) = (5 : Int32))).2 (Steps.refl _)) ?_
    show own_Fin _ _ _ _ (s₁.setTop (mkF m 108 #[iv p1, iv p2, iv p3, iv p4, iv p5, .val (.long v5_14), .second, .val (.long v7_15), .second, iv (5 : Int32), .unset, .unset, .unset, .unset, .unset, .unset, .unset, .unset, .unset, .unset] []))
    refine own_go (XS.lload X0.here hx rfl (hb hby at_108) rfl (Steps.refl _)) ?_
    show own_Fin _ _ _ _ (s₁.setTop (mkF m 110 #[iv p1, iv p2, iv p3, iv p4, iv p5, .val (.long v5_14), .second, .val (.long v7_15), .second, iv (5 : Int32), .unset, .unset, .unset, .unset, .unset, .unset, .unset, .unset, .unset, .unset] [(.long v5_14)]))
    refine own_go (XS.lconst X0.here hx rfl (hb hby at_110) (Steps.refl _)) ?_
    show own_Fin _ _ _ _ (s₁.setTop (mkF m 111 #[iv p1, iv p2, iv p3, iv p4, iv p5, .val (.long v5_14), .second, .val (.long v7_15), .second, iv (5 : Int32), .unset, .unset, .unset, .unset, .unset, .unset, .unset, .unset, .unset, .unset] [(.long (1 : Int64)), (.long v5_14)]))
    refine own_go (XS.ladd X0.here hx rfl (hb hby at_111) rfl (Steps.refl _)) ?_
    show own_Fin _ _ _ _ (s₁.setTop (mkF m 112 #[iv p1, iv p2, iv p3, iv p4, iv p5, .val (.long v5_14), .second, .val (.long v7_15), .second, iv (5 : Int32), .unset, .unset, .unset, .unset, .unset, .unset, .unset, .unset, .unset, .unset] [(.long (v5_14 + (1 : Int64)))]))
    refine own_go (XS.lstore X0.here hx rfl (hb hby at_112) rfl rfl (Steps.refl _)) ?_
    show own_Fin _ _ _ _ (s₁.setTop (mkF m 114 #[iv p1, iv p2, iv p3, iv p4, iv p5, .val (.long v5_14), .second, .val (.long v7_15), .second, iv (5 : Int32), .val (.long (v5_14 + (1 : Int64))), .second, .unset, .unset, .unset, .unset, .unset, .unset, .unset, .unset] []))
    generalize hz_v10_30 : (v5_14 + (1 : Int64)) = v10_30
    refine own_go (XS.goto X0.here hx rfl (pc0 := 114) (pc' := 143) rfl (hb hby at_114) (by decide) (by decide) (Steps.refl _)) ?_
    show own_Fin _ _ _ _ (s₁.setTop (mkF m 143 #[iv p1, iv p2, iv p3, iv p4, iv p5, .val (.long v5_14), .second, .val (.long v7_15), .second, iv (5 : Int32), .val (.long v10_30), .second, .unset, .unset, .unset, .unset, .unset, .unset, .unset, .unset] []))
    exact jn17 s₁ _ (5 : Int32) v10_30 X0 e0 N0 (hz_v10_30 ▸ own_sp hlo)
  · show own_Fin _ _ _ _ (s₁.setTop (mkF m 30 #[iv p1, iv p2, iv p3, iv p4, iv p5, .val (.long v5_14), .second, .val (.long v7_15), .second, iv (6 : Int32), .unset, .unset, .unset, .unset, .unset, .unset, .unset, .unset, .unset, .unset] []))
    refine own_go (XS.iload X0.here hx rfl (hb hby at_30) rfl (Steps.refl _)) ?_
    show own_Fin _ _ _ _ (s₁.setTop (mkF m 32 #[iv p1, iv p2, iv p3, iv p4, iv p5, .val (.long v5_14), .second, .val (.long v7_15), .second, iv (6 : Int32), .unset, .unset, .unset, .unset, .unset, .unset, .unset, .unset, .unset, .unset] [(.int (6 : Int32))]))
    refine own_go (XS.ifYes X0.here hx rfl (pc0 := 32) (pc' := 46) rfl (hb hby at_32) rfl ((if0 _ _).trans (feq (by decide : ¬ ((6 : Int32) = (0 : Int32)))).2) (by decide) (by decide) (Steps.refl _)) ?_
    show own_Fin _ _ _ _ (s₁.setTop (mkF m 46 #[iv p1, iv p2, iv p3, iv p4, iv p5, .val (.long v5_14), .second, .val (.long v7_15), .second, iv (6 : Int32), .unset, .unset, .unset, .unset, .unset, .unset, .unset, .unset, .unset, .unset] []))
    refine own_go (XS.iload X0.here hx rfl (hb hby at_46) rfl (Steps.refl _)) ?_
    show own_Fin _ _ _ _ (s₁.setTop (mkF m 48 #[iv p1, iv p2, iv p3, iv p4, iv p5, .val (.long v5_14), .second, .val (.long v7_15), .second, iv (6 : Int32), .unset, .unset, .unset, .unset, .unset, .unset, .unset, .unset, .unset, .unset] [(.int (6 : Int32))]))
    refine own_go (XS.iconst X0.here hx rfl (hb hby at_48) (Steps.refl _)) ?_
    show own_Fin _ _ _ _ (s₁.setTop (mkF m 49 #[iv p1, iv p2, iv p3, iv p4, iv p5, .val (.long v5_14), .second, .val (.long v7_15), .second, iv (6 : Int32), .unset, .unset, .unset, .unset, .unset, .unset, .unset, .unset, .unset, .unset] [(.int (1 : Int32)), (.int (6 : Int32))]))
    refine own_go (XS.icmpYes X0.here hx rfl (pc0 := 49) (pc' := 59) rfl (hb hby at_49) rfl (feq (by decide : ¬ ((6 : Int32) = (1 : Int32)))).2 (by decide) (by decide) (Steps.refl _)) ?_
    show own_Fin _ _ _ _ (s₁.setTop (mkF m 59 #[iv p1, iv p2, iv p3, iv p4, iv p5, .val (.long v5_14), .second, .val (.long v7_15), .second, iv (6 : Int32), .unset, .unset, .unset, .unset, .unset, .unset, .unset, .unset, .unset, .unset] []))
    refine own_go (XS.iload X0.here hx rfl (hb hby at_59) rfl (Steps.refl _)) ?_
    show own_Fin _ _ _ _ (s₁.setTop (mkF m 61 #[iv p1, iv p2, iv p3, iv p4, iv p5, .val (.long v5_14), .second, .val (.long v7_15), .second, iv (6 : Int32), .unset, .unset, .unset, .unset, .unset, .unset, .unset, .unset, .unset, .unset] [(.int (6 : Int32))]))
    refine own_go (XS.iconst X0.here hx rfl (hb hby at_61) (Steps.refl _)) ?_
    show own_Fin _ _ _ _ (s₁.setTop (mkF m 62 #[iv p1, iv p2, iv p3, iv p4, iv p5, .val (.long v5_14), .second, .val (.long v7_15), .second, iv (6 : Int32), .unset, .unset, .unset, .unset, .unset, .unset, .unset, .unset, .unset, .unset] [(.int (2 : Int32)), (.int (6 : Int32))]))
    refine own_go (XS.icmpYes X0.here hx rfl (pc0 := 62) (pc' := 72) rfl (hb hby at_62) rfl (feq (by decide : ¬ ((6 : Int32) = (2 : Int32)))).2 (by decide) (by decide) (Steps.refl _)) ?_
    show own_Fin _ _ _ _ (s₁.setTop (mkF m 72 #[iv p1, iv p2, iv p3, iv p4, iv p5, .val (.long v5_14), .second, .val (.long v7_15), .second, iv (6 : Int32), .unset, .unset, .unset, .unset, .unset, .unset, .unset, .unset, .unset, .unset] []))
    refine own_go (XS.iload X0.here hx rfl (hb hby at_72) rfl (Steps.refl _)) ?_
    show own_Fin _ _ _ _ (s₁.setTop (mkF m 74 #[iv p1, iv p2, iv p3, iv p4, iv p5, .val (.long v5_14), .second, .val (.long v7_15), .second, iv (6 : Int32), .unset, .unset, .unset, .unset, .unset, .unset, .unset, .unset, .unset, .unset] [(.int (6 : Int32))]))
    refine own_go (XS.iconst X0.here hx rfl (hb hby at_74) (Steps.refl _)) ?_
    show own_Fin _ _ _ _ (s₁.setTop (mkF m 75 #[iv p1, iv p2, iv p3, iv p4, iv p5, .val (.long v5_14), .second, .val (.long v7_15), .second, iv (6 : Int32), .unset, .unset, .unset, .unset, .unset, .unset, .unset, .unset, .unset, .unset] [(.int (3 : Int32)), (.int (6 : Int32))]))
    refine own_go (XS.icmpYes X0.here hx rfl (pc0 := 75) (pc' := 87) rfl (hb hby at_75) rfl (feq (by decide : ¬ ((6 : Int32) = (3 : Int32)))).2 (by decide) (by decide) (Steps.refl _)) ?_
    show own_Fin _ _ _ _ (s₁.setTop (mkF m 87 #[iv p1, iv p2, iv p3, iv p4, iv p5, .val (.long v5_14), .second, .val (.long v7_15), .second, iv (6 : Int32), .unset, .unset, .unset, .unset, .unset, .unset, .unset, .unset, .unset, .unset] []))
    refine own_go (XS.iload X0.here hx rfl (hb hby at_87) rfl (Steps.refl _)) ?_
    show own_Fin _ _ _ _ (s₁.setTop (mkF m 89 #[iv p1, iv p2, iv p3, iv p4, iv p5, .val (.long v5_14), .second, .val (.long v7_15), .second, iv (6 : Int32), .unset, .unset, .unset, .unset, .unset, .unset, .unset, .unset, .unset, .unset] [(.int (6 : Int32))]))
    refine own_go (XS.iconst X0.here hx rfl (hb hby at_89) (Steps.refl _)) ?_
    show own_Fin _ _ _ _ (s₁.setTop (mkF m 90 #[iv p1, iv p2, iv p3, iv p4, iv p5, .val (.long v5_14), .second, .val (.long v7_15), .second, iv (6 : Int32), .unset, .unset, .unset, .unset, .unset, .unset, .unset, .unset, .unset, .unset] [(.int (4 : Int32)), (.int (6 : Int32))]))
    refine own_go (XS.icmpYes X0.here hx rfl (pc0 := 90) (pc' := 102) rfl (hb hby at_90) rfl (feq (by decide : ¬ ((6 : Int32) = (4 : Int32)))).2 (by decide) (by decide) (Steps.refl _)) ?_
    show own_Fin _ _ _ _ (s₁.setTop (mkF m 102 #[iv p1, iv p2, iv p3, iv p4, iv p5, .val (.long v5_14), .second, .val (.long v7_15), .second, iv (6 : Int32), .unset, .unset, .unset, .unset, .unset, .unset, .unset, .unset, .unset, .unset] []))
    refine own_go (XS.iload X0.here hx rfl (hb hby at_102) rfl (Steps.refl _)) ?_
    show own_Fin _ _ _ _ (s₁.setTop (mkF m 104 #[iv p1, iv p2, iv p3, iv p4, iv p5, .val (.long v5_14), .second, .val (.long v7_15), .second, iv (6 : Int32), .unset, .unset, .unset, .unset, .unset, .unset, .unset, .unset, .unset, .unset] [(.int (6 : Int32))]))
    refine own_go (XS.iconst X0.here hx rfl (hb hby at_104) (Steps.refl _)) ?_
    show own_Fin _ _ _ _ (s₁.setTop (mkF m 105 #[iv p1, iv p2, iv p3, iv p4, iv p5, .val (.long v5_14), .second, .val (.long v7_15), .second, iv (6 : Int32), .unset, .unset, .unset, .unset, .unset, .unset, .unset, .unset, .unset, .unset] [(.int (5 : Int32)), (.int (6 : Int32))]))
    refine own_go (XS.icmpYes X0.here hx rfl (pc0 := 105) (pc' := 117) rfl (hb hby at_105) rfl (feq (by decide : ¬ ((6 : Int32) = (5 : Int32)))).2 (by decide) (by decide) (Steps.refl _)) ?_
    show own_Fin _ _ _ _ (s₁.setTop (mkF m 117 #[iv p1, iv p2, iv p3, iv p4, iv p5, .val (.long v5_14), .second, .val (.long v7_15), .second, iv (6 : Int32), .unset, .unset, .unset, .unset, .unset, .unset, .unset, .unset, .unset, .unset] []))
    refine own_go (XS.iload X0.here hx rfl (hb hby at_117) rfl (Steps.refl _)) ?_
    show own_Fin _ _ _ _ (s₁.setTop (mkF m 119 #[iv p1, iv p2, iv p3, iv p4, iv p5, .val (.long v5_14), .second, .val (.long v7_15), .second, iv (6 : Int32), .unset, .unset, .unset, .unset, .unset, .unset, .unset, .unset, .unset, .unset] [(.int (6 : Int32))]))
    refine own_go (XS.bipush X0.here hx rfl (hb hby at_119) (Steps.refl _)) ?_
    show own_Fin _ _ _ _ (s₁.setTop (mkF m 121 #[iv p1, iv p2, iv p3, iv p4, iv p5, .val (.long v5_14), .second, .val (.long v7_15), .second, iv (6 : Int32), .unset, .unset, .unset, .unset, .unset, .unset, .unset, .unset, .unset, .unset] [(.int (6 : Int32)), (.int (6 : Int32))]))
    refine own_go (XS.icmpNo X0.here hx rfl (hb hby at_121) rfl (teq (by decide : (6 : Int32) = (6 : Int32))).2 (Steps.refl _)) ?_
    show own_Fin _ _ _ _ (s₁.setTop (mkF m 124 #[iv p1, iv p2, iv p3, iv p4, iv p5, .val (.long v5_14), .second, .val (.long v7_15), .second, iv (6 : Int32), .unset, .unset, .unset, .unset, .unset, .unset, .unset, .unset, .unset, .unset] []))
    refine own_go (XS.lload X0.here hx rfl (hb hby at_124) rfl (Steps.refl _)) ?_
    show own_Fin _ _ _ _ (s₁.setTop (mkF m 126 #[iv p1, iv p2, iv p3, iv p4, iv p5, .val (.long v5_14), .second, .val (.long v7_15), .second, iv (6 : Int32), .unset, .unset, .unset, .unset, .unset, .unset, .unset, .unset, .unset, .unset] [(.long v7_15)]))
    refine own_go (XS.lconst X0.here hx rfl (hb hby at_126) (Steps.refl _)) ?_
    show own_Fin _ _ _ _ (s₁.setTop (mkF m 127 #[iv p1, iv p2, iv p3, iv p4, iv p5, .val (.long v5_14), .second, .val (.long v7_15), .second, iv (6 : Int32), .unset, .unset, .unset, .unset, .unset, .unset, .unset, .unset, .unset, .unset] [(.long (1 : Int64)), (.long v7_15)]))
    refine own_go (XS.lsub X0.here hx rfl (hb hby at_127) rfl (Steps.refl _)) ?_
    show own_Fin _ _ _ _ (s₁.setTop (mkF m 128 #[iv p1, iv p2, iv p3, iv p4, iv p5, .val (.long v5_14), .second, .val (.long v7_15), .second, iv (6 : Int32), .unset, .unset, .unset, .unset, .unset, .unset, .unset, .unset, .unset, .unset] [(.long (v7_15 - (1 : Int64)))]))
    refine own_go (XS.lstore X0.here hx rfl (hb hby at_128) rfl rfl (Steps.refl _)) ?_
    show own_Fin _ _ _ _ (s₁.setTop (mkF m 130 #[iv p1, iv p2, iv p3, iv p4, iv p5, .val (.long v5_14), .second, .val (.long v7_15), .second, iv (6 : Int32), .val (.long (v7_15 - (1 : Int64))), .second, .unset, .unset, .unset, .unset, .unset, .unset, .unset, .unset] []))
    generalize hz_v10_31 : (v7_15 - (1 : Int64)) = v10_31
    refine own_go (XS.goto X0.here hx rfl (pc0 := 130) (pc' := 143) rfl (hb hby at_130) (by decide) (by decide) (Steps.refl _)) ?_
    show own_Fin _ _ _ _ (s₁.setTop (mkF m 143 #[iv p1, iv p2, iv p3, iv p4, iv p5, .val (.long v5_14), .second, .val (.long v7_15), .second, iv (6 : Int32), .val (.long v10_31), .second, .unset, .unset, .unset, .unset, .unset, .unset, .unset, .unset] []))
    exact jn17 s₁ _ (6 : Int32) v10_31 X0 e0 N0 (hz_v10_31 ▸ own_sm hhi)
  · show own_Fin _ _ _ _ (s₁.setTop (mkF m 30 #[iv p1, iv p2, iv p3, iv p4, iv p5, .val (.long v5_14), .second, .val (.long v7_15), .second, iv (7 : Int32), .unset, .unset, .unset, .unset, .unset, .unset, .unset, .unset, .unset, .unset] []))
    refine own_go (XS.iload X0.here hx rfl (hb hby at_30) rfl (Steps.refl _)) ?_
    show own_Fin _ _ _ _ (s₁.setTop (mkF m 32 #[iv p1, iv p2, iv p3, iv p4, iv p5, .val (.long v5_14), .second, .val (.long v7_15), .second, iv (7 : Int32), .unset, .unset, .unset, .unset, .unset, .unset, .unset, .unset, .unset, .unset] [(.int (7 : Int32))]))
    refine own_go (XS.ifYes X0.here hx rfl (pc0 := 32) (pc' := 46) rfl (hb hby at_32) rfl ((if0 _ _).trans (feq (by decide : ¬ ((7 : Int32) = (0 : Int32)))).2) (by decide) (by decide) (Steps.refl _)) ?_
    show own_Fin _ _ _ _ (s₁.setTop (mkF m 46 #[iv p1, iv p2, iv p3, iv p4, iv p5, .val (.long v5_14), .second, .val (.long v7_15), .second, iv (7 : Int32), .unset, .unset, .unset, .unset, .unset, .unset, .unset, .unset, .unset, .unset] []))
    refine own_go (XS.iload X0.here hx rfl (hb hby at_46) rfl (Steps.refl _)) ?_
    show own_Fin _ _ _ _ (s₁.setTop (mkF m 48 #[iv p1, iv p2, iv p3, iv p4, iv p5, .val (.long v5_14), .second, .val (.long v7_15), .second, iv (7 : Int32), .unset, .unset, .unset, .unset, .unset, .unset, .unset, .unset, .unset, .unset] [(.int (7 : Int32))]))
    refine own_go (XS.iconst X0.here hx rfl (hb hby at_48) (Steps.refl _)) ?_
    show own_Fin _ _ _ _ (s₁.setTop (mkF m 49 #[iv p1, iv p2, iv p3, iv p4, iv p5, .val (.long v5_14), .second, .val (.long v7_15), .second, iv (7 : Int32), .unset, .unset, .unset, .unset, .unset, .unset, .unset, .unset, .unset, .unset] [(.int (1 : Int32)), (.int (7 : Int32))]))
    refine own_go (XS.icmpYes X0.here hx rfl (pc0 := 49) (pc' := 59) rfl (hb hby at_49) rfl (feq (by decide : ¬ ((7 : Int32) = (1 : Int32)))).2 (by decide) (by decide) (Steps.refl _)) ?_
    show own_Fin _ _ _ _ (s₁.setTop (mkF m 59 #[iv p1, iv p2, iv p3, iv p4, iv p5, .val (.long v5_14), .second, .val (.long v7_15), .second, iv (7 : Int32), .unset, .unset, .unset, .unset, .unset, .unset, .unset, .unset, .unset, .unset] []))
    refine own_go (XS.iload X0.here hx rfl (hb hby at_59) rfl (Steps.refl _)) ?_
    show own_Fin _ _ _ _ (s₁.setTop (mkF m 61 #[iv p1, iv p2, iv p3, iv p4, iv p5, .val (.long v5_14), .second, .val (.long v7_15), .second, iv (7 : Int32), .unset, .unset, .unset, .unset, .unset, .unset, .unset, .unset, .unset, .unset] [(.int (7 : Int32))]))
    refine own_go (XS.iconst X0.here hx rfl (hb hby at_61) (Steps.refl _)) ?_
    show own_Fin _ _ _ _ (s₁.setTop (mkF m 62 #[iv p1, iv p2, iv p3, iv p4, iv p5, .val (.long v5_14), .second, .val (.long v7_15), .second, iv (7 : Int32), .unset, .unset, .unset, .unset, .unset, .unset, .unset, .unset, .unset, .unset] [(.int (2 : Int32)), (.int (7 : Int32))]))
    refine own_go (XS.icmpYes X0.here hx rfl (pc0 := 62) (pc' := 72) rfl (hb hby at_62) rfl (feq (by decide : ¬ ((7 : Int32) = (2 : Int32)))).2 (by decide) (by decide) (Steps.refl _)) ?_
    show own_Fin _ _ _ _ (s₁.setTop (mkF m 72 #[iv p1, iv p2, iv p3, iv p4, iv p5, .val (.long v5_14), .second, .val (.long v7_15), .second, iv (7 : Int32), .unset, .unset, .unset, .unset, .unset, .unset, .unset, .unset, .unset, .unset] []))
    refine own_go (XS.iload X0.here hx rfl (hb hby at_72) rfl (Steps.refl _)) ?_
    show own_Fin _ _ _ _ (s₁.setTop (mkF m 74 #[iv p1, iv p2, iv p3, iv p4, iv p5, .val (.long v5_14), .second, .val (.long v7_15), .second, iv (7 : Int32), .unset, .unset, .unset, .unset, .unset, .unset, .unset, .unset, .unset, .unset] [(.int (7 : Int32))]))
    refine own_go (XS.iconst X0.here hx rfl (hb hby at_74) (Steps.refl _)) ?_
    show own_Fin _ _ _ _ (s₁.setTop (mkF m 75 #[iv p1, iv p2, iv p3, iv p4, iv p5, .val (.long v5_14), .second, .val (.long v7_15), .second, iv (7 : Int32), .unset, .unset, .unset, .unset, .unset, .unset, .unset, .unset, .unset, .unset] [(.int (3 : Int32)), (.int (7 : Int32))]))
    refine own_go (XS.icmpYes X0.here hx rfl (pc0 := 75) (pc' := 87) rfl (hb hby at_75) rfl (feq (by decide : ¬ ((7 : Int32) = (3 : Int32)))).2 (by decide) (by decide) (Steps.refl _)) ?_
    show own_Fin _ _ _ _ (s₁.setTop (mkF m 87 #[iv p1, iv p2, iv p3, iv p4, iv p5, .val (.long v5_14), .second, .val (.long v7_15), .second, iv (7 : Int32), .unset, .unset, .unset, .unset, .unset, .unset, .unset, .unset, .unset, .unset] []))
    refine own_go (XS.iload X0.here hx rfl (hb hby at_87) rfl (Steps.refl _)) ?_
    show own_Fin _ _ _ _ (s₁.setTop (mkF m 89 #[iv p1, iv p2, iv p3, iv p4, iv p5, .val (.long v5_14), .second, .val (.long v7_15), .second, iv (7 : Int32), .unset, .unset, .unset, .unset, .unset, .unset, .unset, .unset, .unset, .unset] [(.int (7 : Int32))]))
    refine own_go (XS.iconst X0.here hx rfl (hb hby at_89) (Steps.refl _)) ?_
    show own_Fin _ _ _ _ (s₁.setTop (mkF m 90 #[iv p1, iv p2, iv p3, iv p4, iv p5, .val (.long v5_14), .second, .val (.long v7_15), .second, iv (7 : Int32), .unset, .unset, .unset, .unset, .unset, .unset, .unset, .unset, .unset, .unset] [(.int (4 : Int32)), (.int (7 : Int32))]))
    refine own_go (XS.icmpYes X0.here hx rfl (pc0 := 90) (pc' := 102) rfl (hb hby at_90) rfl (feq (by decide : ¬ ((7 : Int32) = (4 : Int32)))).2 (by decide) (by decide) (Steps.refl _)) ?_
    show own_Fin _ _ _ _ (s₁.setTop (mkF m 102 #[iv p1, iv p2, iv p3, iv p4, iv p5, .val (.long v5_14), .second, .val (.long v7_15), .second, iv (7 : Int32), .unset, .unset, .unset, .unset, .unset, .unset, .unset, .unset, .unset, .unset] []))
    refine own_go (XS.iload X0.here hx rfl (hb hby at_102) rfl (Steps.refl _)) ?_
    show own_Fin _ _ _ _ (s₁.setTop (mkF m 104 #[iv p1, iv p2, iv p3, iv p4, iv p5, .val (.long v5_14), .second, .val (.long v7_15), .second, iv (7 : Int32), .unset, .unset, .unset, .unset, .unset, .unset, .unset, .unset, .unset, .unset] [(.int (7 : Int32))]))
    refine own_go (XS.iconst X0.here hx rfl (hb hby at_104) (Steps.refl _)) ?_
    show own_Fin _ _ _ _ (s₁.setTop (mkF m 105 #[iv p1, iv p2, iv p3, iv p4, iv p5, .val (.long v5_14), .second, .val (.long v7_15), .second, iv (7 : Int32), .unset, .unset, .unset, .unset, .unset, .unset, .unset, .unset, .unset, .unset] [(.int (5 : Int32)), (.int (7 : Int32))]))
    refine own_go (XS.icmpYes X0.here hx rfl (pc0 := 105) (pc' := 117) rfl (hb hby at_105) rfl (feq (by decide : ¬ ((7 : Int32) = (5 : Int32)))).2 (by decide) (by decide) (Steps.refl _)) ?_
    show own_Fin _ _ _ _ (s₁.setTop (mkF m 117 #[iv p1, iv p2, iv p3, iv p4, iv p5, .val (.long v5_14), .second, .val (.long v7_15), .second, iv (7 : Int32), .unset, .unset, .unset, .unset, .unset, .unset, .unset, .unset, .unset, .unset] []))
    refine own_go (XS.iload X0.here hx rfl (hb hby at_117) rfl (Steps.refl _)) ?_
    show own_Fin _ _ _ _ (s₁.setTop (mkF m 119 #[iv p1, iv p2, iv p3, iv p4, iv p5, .val (.long v5_14), .second, .val (.long v7_15), .second, iv (7 : Int32), .unset, .unset, .unset, .unset, .unset, .unset, .unset, .unset, .unset, .unset] [(.int (7 : Int32))]))
    refine own_go (XS.bipush X0.here hx rfl (hb hby at_119) (Steps.refl _)) ?_
    show own_Fin _ _ _ _ (s₁.setTop (mkF m 121 #[iv p1, iv p2, iv p3, iv p4, iv p5, .val (.long v5_14), .second, .val (.long v7_15), .second, iv (7 : Int32), .unset, .unset, .unset, .unset, .unset, .unset, .unset, .unset, .unset, .unset] [(.int (6 : Int32)), (.int (7 : Int32))]))
    refine own_go (XS.icmpYes X0.here hx rfl (pc0 := 121) (pc' := 133) rfl (hb hby at_121) rfl (feq (by decide : ¬ ((7 : Int32) = (6 : Int32)))).2 (by decide) (by decide) (Steps.refl _)) ?_
    show own_Fin _ _ _ _ (s₁.setTop (mkF m 133 #[iv p1, iv p2, iv p3, iv p4, iv p5, .val (.long v5_14), .second, .val (.long v7_15), .second, iv (7 : Int32), .unset, .unset, .unset, .unset, .unset, .unset, .unset, .unset, .unset, .unset] []))
    refine own_by (X0.ldc2Long hx hown (mvT hZ (hw _ (List.mem_of_getElem? (i := 0) rfl))) (g := (mkF m 133 #[iv p1, iv p2, iv p3, iv p4, iv p5, .val (.long v5_14), .second, .val (.long v7_15), .second, iv (7 : Int32), .unset, .unset, .unset, .unset, .unset, .unset, .unset, .unset, .unset, .unset] [])) rfl (hb hby at_133)) ?_
    show own_Fin _ _ _ _ (s₁.setTop (mkF m 136 #[iv p1, iv p2, iv p3, iv p4, iv p5, .val (.long v5_14), .second, .val (.long v7_15), .second, iv (7 : Int32), .unset, .unset, .unset, .unset, .unset, .unset, .unset, .unset, .unset, .unset] [(.long (2 : Int64))]))
    refine own_go (XS.iloadN X0.here hx rfl (hb hby at_136) rfl (Steps.refl _)) ?_
    show own_Fin _ _ _ _ (s₁.setTop (mkF m 137 #[iv p1, iv p2, iv p3, iv p4, iv p5, .val (.long v5_14), .second, .val (.long v7_15), .second, iv (7 : Int32), .unset, .unset, .unset, .unset, .unset, .unset, .unset, .unset, .unset, .unset] [(.int p3), (.long (2 : Int64))]))
    refine own_go (XS.i2l X0.here hx rfl (hb hby at_137) rfl (Steps.refl _)) ?_
    show own_Fin _ _ _ _ (s₁.setTop (mkF m 138 #[iv p1, iv p2, iv p3, iv p4, iv p5, .val (.long v5_14), .second, .val (.long v7_15), .second, iv (7 : Int32), .unset, .unset, .unset, .unset, .unset, .unset, .unset, .unset, .unset, .unset] [(.long (p3.toInt64)), (.long (2 : Int64))]))
    refine own_go (XS.lmul X0.here hx rfl (hb hby at_138) rfl (Steps.refl _)) ?_
    show own_Fin _ _ _ _ (s₁.setTop (mkF m 139 #[iv p1, iv p2, iv p3, iv p4, iv p5, .val (.long v5_14), .second, .val (.long v7_15), .second, iv (7 : Int32), .unset, .unset, .unset, .unset, .unset, .unset, .unset, .unset, .unset, .unset] [(.long ((2 : Int64) * (p3.toInt64)))]))
    refine own_go (XS.lconst X0.here hx rfl (hb hby at_139) (Steps.refl _)) ?_
    show own_Fin _ _ _ _ (s₁.setTop (mkF m 140 #[iv p1, iv p2, iv p3, iv p4, iv p5, .val (.long v5_14), .second, .val (.long v7_15), .second, iv (7 : Int32), .unset, .unset, .unset, .unset, .unset, .unset, .unset, .unset, .unset, .unset] [(.long (1 : Int64)), (.long ((2 : Int64) * (p3.toInt64)))]))
    refine own_go (XS.ladd X0.here hx rfl (hb hby at_140) rfl (Steps.refl _)) ?_
    show own_Fin _ _ _ _ (s₁.setTop (mkF m 141 #[iv p1, iv p2, iv p3, iv p4, iv p5, .val (.long v5_14), .second, .val (.long v7_15), .second, iv (7 : Int32), .unset, .unset, .unset, .unset, .unset, .unset, .unset, .unset, .unset, .unset] [(.long (((2 : Int64) * (p3.toInt64)) + (1 : Int64)))]))
    refine own_go (XS.lstore X0.here hx rfl (hb hby at_141) rfl rfl (Steps.refl _)) ?_
    show own_Fin _ _ _ _ (s₁.setTop (mkF m 143 #[iv p1, iv p2, iv p3, iv p4, iv p5, .val (.long v5_14), .second, .val (.long v7_15), .second, iv (7 : Int32), .val (.long (((2 : Int64) * (p3.toInt64)) + (1 : Int64))), .second, .unset, .unset, .unset, .unset, .unset, .unset, .unset, .unset] []))
    generalize hz_v10_32 : (((2 : Int64) * (p3.toInt64)) + (1 : Int64)) = v10_32
    exact jn17 s₁ _ (7 : Int32) v10_32 X0 e0 N0 (hz_v10_32 ▸ own_sp (own_sl p3))
set_option maxRecDepth 65536 in
set_option maxHeartbeats 40000000 in
theorem comes_1 {Post : Tables → Env → Array Value → State → Outcome → State → Prop} (hpost : ∀ tb e args s v u, (limb_1_1.after args s (.returned v) u = true ∧ limb_1_2.after args s (.returned v) u = true ∧ True) → FrameEnd s (.returned v) u (Jvm.fieldLocs frame_1_writes args s ++ Jvm.arrayLocs frame_1_arrays args s ++ Jvm.staticLocs frame_1_statics s) 16 128 → Post tb e args s (.returned v) u) :
    ArmFor flags0 classFile x code maxLocals ret World_1 tables_1 room_1 Calls_1 rest_1 Pre_1 Post := by
  intro l hfl _ _ p e ha hc hk s m args below hf hA hF happ hP
  obtain ⟨hcalls, hrest, hpre⟩ := hP
  obtain ⟨-, -, -, hnamed, -, -, -, hat⟩ := (Spec.applies_iff hf).mp happ
  obtain ⟨hg, hn⟩ := and_e (Cond.before_iff.mp (show (Jvm.Cond.and given_1 narrow_1).before args s = true from hpre))
  obtain ⟨gg1, gg2⟩ := and_e hg
  obtain ⟨gg3, gg4⟩ := and_e gg2
  obtain ⟨gg5, gg6⟩ := and_e gg4
  obtain ⟨gg7, gg8⟩ := and_e gg6
  obtain ⟨gg9, gg10⟩ := and_e gg8
  obtain ⟨w0, w1, w2, w3, w4, rfl⟩ : ∃ w0 w1 w2 w3 w4 : Value, args = #[w0, w1, w2, w3, w4] := by
    have hs : args.size = 5 := by simpa [Cond.value, given_1] using gg1
    obtain ⟨L⟩ := args
    match L, hs with
    | [w0, w1, w2, w3, w4], _ => exact ⟨w0, w1, w2, w3, w4, rfl⟩
  have hw := fun d (hd : d ∈ tables_1) => atoms_spec (ws := Jvm.Cond.code x code maxLocals ret :: tables_1) hat d (List.mem_cons_of_mem _ hd)
  obtain ⟨i0, ei0⟩ := is_v gg3
  obtain rfl : w0 = (.int i0) := Option.some.inj ei0
  obtain ⟨i1, ei1⟩ := is_v gg5
  obtain rfl : w1 = (.int i1) := Option.some.inj ei1
  obtain ⟨i2, ei2⟩ := is_v gg7
  obtain rfl : w2 = (.int i2) := Option.some.inj ei2
  obtain ⟨i3, ei3⟩ := is_v gg9
  obtain rfl : w3 = (.int i3) := Option.some.inj ei3
  obtain ⟨i4, ei4⟩ := is_v gg10
  obtain rfl : w4 = (.int i4) := Option.some.inj ei4
  obtain ⟨n, o, h1, h2, h3, _, L, rfl, ⟨rfl, N⟩, hq⟩ := rm0 l s _ hw tables_1 i0 i1 i2 i3 i4  s.heap s.heap.size (Nat.le_refl _)  p e ha hc hk s m _ below hf ((Spec.applies_iff_loose hf).mp happ).1 ⟨rfl, State.Warmed39.refl s, rfl⟩ trivial
  refine ⟨n, _, h1, h2, h3, hpost _ _ _ _ _ _ ⟨Cond.after_iff.mpr rfl, Cond.after_iff.mpr (eq_i res_at (Term.int_eval (1)) rfl), trivial⟩ ⟨hq.1, hq.2.1, (hq.2.2.sift fun y hy => Or.inr (N y hy)).mono (by decide) (by decide)⟩⟩
theorem main_1_1 : Claimed_1_1 := comes_1 fun _ _ _ _ _ _ h hF => ⟨h.1, hF⟩
theorem main_1_2 : Claimed_1_2 := comes_1 fun _ _ _ _ _ _ h hF => ⟨h.2.1, hF⟩
end Jvm.Pilot.@@N@@
namespace Jvm.Pilot.@@N@@
open Jvm Jvm.ClassFile Sem Op Lib Jvm.Free Jvm.Stand Jvm.Pilot.@@N@@.Jvm.D
/-! MADE BY PROGRAM (witnessworld.py) out of the Statement's table words and the real class files: 16 classes; the members and pool entries that the words name. The judged class is class 1, her method 1. -/
namespace start1
open Jvm.ClassFile
def u (s : String) : CpInfo := .utf8 (stringToUtf16 s)
/-- a pool by its gaps: so many unusable entries, then the entry; so many at the end -/
def gap : Nat → List CpInfo → List CpInfo
  | 0, r => r
  | n + 1, r => .unusable :: gap n r
def poolList (es : List (Nat × CpInfo)) (last : Nat) : List CpInfo := es.foldr (fun e r => gap e.1 (e.2 :: r)) (gap last [])
def pool (es : List (Nat × CpInfo)) (last : Nat) : Array CpInfo := ⟨poolList es last⟩
def fileOf (pool : Array CpInfo) (this : Nat) (attrs : Array Attribute := #[]) (ms : Array MethodInfo := #[]) (fl : Nat := 33) (sup : Nat := 0) (ifs : Array Nat := #[]) (fds : Array FieldInfo := #[]) : ClassFile where
  minorVersion := 0
  majorVersion := 65
  constantPool := pool
  accessFlags := fl
  thisClass := this
  superClass := sup
  interfaces := ifs
  fields := fds
  methods := ms
  attributes := attrs
def plain (name : String) (sup : Option ClassId) : Class where
  name := name
  kind := .ordinary
  loader := none
  accessFlags := 33
  super := sup
  interfaces := #[]
  cf := none
  fields := #[]
  methods := #[]
  instanceTypes := #[]
  staticTypes := #[]
  resolved := #[]
  callSites := []
  init := .initialized
  statics := none
  mirror := none

def pool0 : Array CpInfo := pool [(5, u "<init>"), (0, u "()V"), (1, .class_ 10), (1, u "java/lang/Object")] 113

def k0c0 : Code := { maxStack := 0, maxLocals := 1, code := object_method_1_code, exceptionTable := #[], attributes := #[] }
def k0m0 : Method := { name := "<init>", desc := "()V", sig := { parameters := [], returnType := none }, accessFlags := 1, code := some k0c0 }
/-- java/lang/Object -/
def k0 : Class := { plain "java/lang/Object" none with
  accessFlags := 33
  interfaces := #[]
  cf := some (fileOf pool0 8 #[] #[{ accessFlags := 1, nameIndex := 5, descriptorIndex := 6, attributes := #[] }] 33 0 #[] #[])
  fields := #[]
  methods := #[k0m0]
  instanceTypes := #[]
  staticTypes := #[]
  resolved := Array.replicate 124 none
  statics := none }

def pool1 : Array CpInfo := pool [(2, .class_ 4), (1, u "java/lang/Object"), (0, u "<init>"), (0, u "()V"), (0, .long 2), (1, .integer 2147483647), (0, .double 4611686018427387904), (1, .class_ 13), (0, u "com/example/tidewalk/tidewalk/problems/RealBox"), (0, .methodref 12 15), (0, .nameAndType 5 16), (0, u "(IDD)V"), (0, .methodref 12 18), (0, .nameAndType 19 20), (0, u "contains"), (0, u "(D)Z"), (0, .class_ 22), (0, u "com/example/tidewalk/tidewalk/problems/RealBoxContainsPinLaw"), (2, u "law"), (0, u "(IIIII)Z")] 3

def k1m0 : Method := { name := "<init>", desc := "()V", sig := { parameters := [], returnType := none }, accessFlags := 2, code := none }
def k1c1 : Code := { maxStack := 7, maxLocals := 20, code := code, exceptionTable := #[], attributes := #[] }
def k1m1 : Method := { name := "law", desc := "(IIIII)Z", sig := { parameters := [.int, .int, .int, .int, .int], returnType := some .boolean }, accessFlags := 9, code := some k1c1 }
/-- com/example/tidewalk/tidewalk/problems/RealBoxContainsPinLaw -/
def k1 : Class := { plain "com/example/tidewalk/tidewalk/problems/RealBoxContainsPinLaw" (some 0) with
  accessFlags := 49
  interfaces := #[]
  cf := some (fileOf pool1 21 #[] #[{ accessFlags := 2, nameIndex := 5, descriptorIndex := 6, attributes := #[] }, { accessFlags := 9, nameIndex := 25, descriptorIndex := 26, attributes := #[] }] 49 2 #[] #[])
  fields := #[]
  methods := #[k1m0, k1m1]
  instanceTypes := #[]
  staticTypes := #[]
  resolved := Array.replicate 30 none
  statics := none }

def pool2 : Array CpInfo := pool [(1, .class_ 2), (0, u "com/example/tidewalk/tidewalk/problems/SearchSpace"), (0, .class_ 4), (0, u "java/lang/Object")] 9

/-- com/example/tidewalk/tidewalk/problems/SearchSpace -/
def k2 : Class := { plain "com/example/tidewalk/tidewalk/problems/SearchSpace" (some 0) with
  accessFlags := 1537
  interfaces := #[]
  cf := some (fileOf pool2 1 #[] #[] 1537 3 #[] #[])
  fields := #[]
  methods := #[]
  instanceTypes := #[]
  staticTypes := #[]
  resolved := Array.replicate 14 none
  statics := none }

def pool3 : Array CpInfo := pool [(1, .methodref 2 3), (0, .class_ 4), (0, .nameAndType 5 6), (0, u "java/lang/Object"), (0, u "<init>"), (0, u "()V"), (9, .methodref 17 18), (0, .class_ 19), (0, .nameAndType 20 21), (0, u "java/lang/Double"), (0, u "isFinite"), (0, u "(D)Z"), (3, .fieldref 26 27), (0, .class_ 28), (0, .nameAndType 29 30), (0, u "com/example/tidewalk/tidewalk/problems/RealBox"), (0, u "dimensions"), (0, u "I"), (0, .fieldref 26 32), (0, .nameAndType 33 34), (0, u "min"), (0, u "D"), (0, .fieldref 26 36), (0, .nameAndType 37 34), (0, u "max"), (10, .class_ 49), (0, u "com/example/tidewalk/tidewalk/problems/SearchSpace"), (0, u "(IDD)V"), (4, u "contains")] 25

def k3c0 : Code := { maxStack := 6, maxLocals := 6, code := prog_41_method_1_code, exceptionTable := #[], attributes := #[] }
def k3m0 : Method := { name := "<init>", desc := "(IDD)V", sig := { parameters := [.int, .double, .double], returnType := none }, accessFlags := 1, code := some k3c0 }
def k3c1 : Code := { maxStack := 4, maxLocals := 3, code := prog_41_method_5_code, exceptionTable := #[], attributes := #[] }
def k3m1 : Method := { name := "contains", desc := "(D)Z", sig := { parameters := [.double], returnType := some .boolean }, accessFlags := 1, code := some k3c1 }
/-- com/example/tidewalk/tidewalk/problems/RealBox -/
def k3 : Class := { plain "com/example/tidewalk/tidewalk/problems/RealBox" (some 0) with
  accessFlags := 49
  interfaces := #[2]
  cf := some (fileOf pool3 26 #[] #[{ accessFlags := 1, nameIndex := 5, descriptorIndex := 50, attributes := #[] }, { accessFlags := 1, nameIndex := 55, descriptorIndex := 21, attributes := #[] }] 49 2 #[48] #[{ accessFlags := 18, nameIndex := 29, descriptorIndex := 30, attributes := #[] }, { accessFlags := 18, nameIndex := 33, descriptorIndex := 34, attributes := #[] }, { accessFlags := 18, nameIndex := 37, descriptorIndex := 34, attributes := #[] }])
  fields := #[{ name := "dimensions", type := .int, accessFlags := 18, slot := 0, constantValue := 0 }, { name := "min", type := .double, accessFlags := 18, slot := 1, constantValue := 0 }, { name := "max", type := .double, accessFlags := 18, slot := 2, constantValue := 0 }]
  methods := #[k3m0, k3m1]
  instanceTypes := #[.int, .double, .double]
  staticTypes := #[]
  resolved := Array.replicate 81 none
  statics := none }

def pool4 : Array CpInfo := pool [(1, .class_ 2), (0, u "java/io/Serializable"), (0, .class_ 4), (0, u "java/lang/Object")] 2

/-- java/io/Serializable -/
def k4 : Class := { plain "java/io/Serializable" (some 0) with
  accessFlags := 1537
  interfaces := #[]
  cf := some (fileOf pool4 1 #[] #[] 1537 3 #[] #[])
  fields := #[]
  methods := #[]
  instanceTypes := #[]
  staticTypes := #[]
  resolved := Array.replicate 7 none
  statics := none }

def pool5 : Array CpInfo := pool [(2, .class_ 4), (1, u "java/lang/Object"), (0, u "<init>"), (0, u "()V"), (1, .class_ 10), (1, u "java/lang/Number"), (2, .class_ 14), (0, u "java/io/Serializable"), (0, u "serialVersionUID"), (0, u "J")] 20

def k5m0 : Method := { name := "<init>", desc := "()V", sig := { parameters := [], returnType := none }, accessFlags := 1, code := none }
/-- java/lang/Number -/
def k5 : Class := { plain "java/lang/Number" (some 0) with
  accessFlags := 1057
  interfaces := #[4]
  cf := some (fileOf pool5 8 #[] #[{ accessFlags := 1, nameIndex := 5, descriptorIndex := 6, attributes := #[] }] 1057 2 #[13] #[{ accessFlags := 26, nameIndex := 15, descriptorIndex := 16, attributes := #[] }])
  fields := #[{ name := "serialVersionUID", type := .long, accessFlags := 26, slot := 0, constantValue := 0 }]
  methods := #[k5m0]
  instanceTypes := #[]
  staticTypes := #[.long]
  resolved := Array.replicate 37 none
  statics := none }

def pool6 : Array CpInfo := pool [(1, .class_ 2), (0, u "java/lang/Comparable"), (0, .class_ 4), (0, u "java/lang/Object")] 7

/-- java/lang/Comparable -/
def k6 : Class := { plain "java/lang/Comparable" (some 0) with
  accessFlags := 1537
  interfaces := #[]
  cf := some (fileOf pool6 1 #[] #[] 1537 3 #[] #[])
  fields := #[]
  methods := #[]
  instanceTypes := #[]
  staticTypes := #[]
  resolved := Array.replicate 12 none
  statics := none }

def pool7 : Array CpInfo := pool [(1, .class_ 2), (0, u "java/lang/constant/Constable"), (0, .class_ 4), (0, u "java/lang/Object")] 6

/-- java/lang/constant/Constable -/
def k7 : Class := { plain "java/lang/constant/Constable" (some 0) with
  accessFlags := 1537
  interfaces := #[]
  cf := some (fileOf pool7 1 #[] #[] 1537 3 #[] #[])
  fields := #[]
  methods := #[]
  instanceTypes := #[]
  staticTypes := #[]
  resolved := Array.replicate 11 none
  statics := none }

def pool8 : Array CpInfo := pool [(1, .class_ 2), (0, u "java/lang/constant/ConstantDesc"), (0, .class_ 4), (0, u "java/lang/Object")] 32

/-- java/lang/constant/ConstantDesc -/
def k8 : Class := { plain "java/lang/constant/ConstantDesc" (some 0) with
  accessFlags := 1537
  interfaces := #[]
  cf := some (fileOf pool8 1 #[] #[] 1537 3 #[] #[])
  fields := #[]
  methods := #[]
  instanceTypes := #[]
  staticTypes := #[]
  resolved := Array.replicate 37 none
  statics := none }

def pool9 : Array CpInfo := pool [(1, .class_ 2), (0, u "java/lang/Double"), (10, u "isFinite"), (0, u "(D)Z"), (8, .class_ 25), (1, u "java/lang/Math"), (12, .methodref 23 39), (0, .nameAndType 40 41), (0, u "abs"), (0, u "(D)D"), (69, .double 9218868437227405311), (2, .class_ 116), (1, u "java/lang/Number"), (3, u "value"), (0, u "D"), (51, u "TYPE"), (0, u "Ljava/lang/Class;"), (0, .class_ 176), (0, u "java/lang/Comparable"), (0, .class_ 178), (0, u "java/lang/constant/Constable"), (0, .class_ 180), (0, u "java/lang/constant/ConstantDesc"), (0, u "POSITIVE_INFINITY"), (3, u "NEGATIVE_INFINITY"), (2, u "NaN"), (2, u "MAX_VALUE"), (0, u "MIN_NORMAL"), (0, u "MIN_VALUE"), (2, u "SIZE"), (0, u "I"), (1, u "PRECISION"), (1, u "MAX_EXPONENT"), (1, u "MIN_EXPONENT"), (1, u "BYTES"), (3, u "serialVersionUID"), (0, u "J")] 79

def k9c0 : Code := { maxStack := 4, maxLocals := 2, code := jdk_117_method_8_code, exceptionTable := #[], attributes := #[] }
def k9m0 : Method := { name := "isFinite", desc := "(D)Z", sig := { parameters := [.double], returnType := some .boolean }, accessFlags := 9, code := some k9c0 }
/-- java/lang/Double -/
def k9 : Class := { plain "java/lang/Double" (some 5) with
  accessFlags := 49
  interfaces := #[6, 7, 8]
  cf := some (fileOf pool9 1 #[] #[{ accessFlags := 9, nameIndex := 13, descriptorIndex := 14, attributes := #[] }] 49 114 #[175, 177, 179] #[{ accessFlags := 25, nameIndex := 181, descriptorIndex := 121, attributes := #[] }, { accessFlags := 25, nameIndex := 185, descriptorIndex := 121, attributes := #[] }, { accessFlags := 25, nameIndex := 188, descriptorIndex := 121, attributes := #[] }, { accessFlags := 25, nameIndex := 191, descriptorIndex := 121, attributes := #[] }, { accessFlags := 25, nameIndex := 192, descriptorIndex := 121, attributes := #[] }, { accessFlags := 25, nameIndex := 193, descriptorIndex := 121, attributes := #[] }, { accessFlags := 25, nameIndex := 196, descriptorIndex := 197, attributes := #[] }, { accessFlags := 25, nameIndex := 199, descriptorIndex := 197, attributes := #[] }, { accessFlags := 25, nameIndex := 201, descriptorIndex := 197, attributes := #[] }, { accessFlags := 25, nameIndex := 203, descriptorIndex := 197, attributes := #[] }, { accessFlags := 25, nameIndex := 205, descriptorIndex := 197, attributes := #[] }, { accessFlags := 25, nameIndex := 173, descriptorIndex := 174, attributes := #[] }, { accessFlags := 18, nameIndex := 120, descriptorIndex := 121, attributes := #[] }, { accessFlags := 26, nameIndex := 209, descriptorIndex := 210, attributes := #[] }])
  fields := #[{ name := "POSITIVE_INFINITY", type := .double, accessFlags := 25, slot := 0, constantValue := 0 }, { name := "NEGATIVE_INFINITY", type := .double, accessFlags := 25, slot := 1, constantValue := 0 }, { name := "NaN", type := .double, accessFlags := 25, slot := 2, constantValue := 0 }, { name := "MAX_VALUE", type := .double, accessFlags := 25, slot := 3, constantValue := 0 }, { name := "MIN_NORMAL", type := .double, accessFlags := 25, slot := 4, constantValue := 0 }, { name := "MIN_VALUE", type := .double, accessFlags := 25, slot := 5, constantValue := 0 }, { name := "SIZE", type := .int, accessFlags := 25, slot := 6, constantValue := 0 }, { name := "PRECISION", type := .int, accessFlags := 25, slot := 7, constantValue := 0 }, { name := "MAX_EXPONENT", type := .int, accessFlags := 25, slot := 8, constantValue := 0 }, { name := "MIN_EXPONENT", type := .int, accessFlags := 25, slot := 9, constantValue := 0 }, { name := "BYTES", type := .int, accessFlags := 25, slot := 10, constantValue := 0 }, { name := "TYPE", type := (.object "java/lang/Class"), accessFlags := 25, slot := 11, constantValue := 0 }, { name := "value", type := .double, accessFlags := 18, slot := 0, constantValue := 0 }, { name := "serialVersionUID", type := .long, accessFlags := 26, slot := 12, constantValue := 0 }]
  methods := #[k9m0]
  instanceTypes := #[.double]
  staticTypes := #[.double, .double, .double, .double, .double, .double, .int, .int, .int, .int, .int, (.object "java/lang/Class"), .long]
  resolved := Array.replicate 290 none
  statics := none }

def pool10 : Array CpInfo := pool [(1, .class_ 2), (0, u "java/lang/Math"), (1, .class_ 6), (1, u "java/lang/Object"), (0, u "<init>"), (0, u "()V"), (5, u "(D)D"), (83, .class_ 100), (1, u "java/lang/Math$RandomNumberGeneratorHolder"), (23, u "abs"), (47, u "negativeZeroFloatBits"), (0, u "J"), (2, u "negativeZeroDoubleBits"), (68, u "$assertionsDisabled"), (0, u "Z"), (91, u "twoToTheDoubleScaleDown"), (0, u "D"), (4, u "twoToTheDoubleScaleUp"), (9, u "E"), (3, u "PI"), (2, u "TAU"), (2, u "DEGREES_TO_RADIANS"), (0, u "RADIANS_TO_DEGREES")] 94

def k10m0 : Method := { name := "<init>", desc := "()V", sig := { parameters := [], returnType := none }, accessFlags := 2, code := none }
def k10c1 : Code := { maxStack := 4, maxLocals := 2, code := jdk_29_method_64_code, exceptionTable := #[], attributes := #[] }
def k10m1 : Method := { name := "abs", desc := "(D)D", sig := { parameters := [.double], returnType := some .double }, accessFlags := 9, code := some k10c1 }
/-- java/lang/Math -/
def k10 : Class := { plain "java/lang/Math" (some 0) with
  accessFlags := 49
  interfaces := #[]
  cf := some (fileOf pool10 1 #[.nestMembers #[98]] #[{ accessFlags := 2, nameIndex := 7, descriptorIndex := 8, attributes := #[] }, { accessFlags := 9, nameIndex := 124, descriptorIndex := 14, attributes := #[] }] 49 4 #[] #[{ accessFlags := 25, nameIndex := 354, descriptorIndex := 339, attributes := #[] }, { accessFlags := 25, nameIndex := 358, descriptorIndex := 339, attributes := #[] }, { accessFlags := 25, nameIndex := 361, descriptorIndex := 339, attributes := #[] }, { accessFlags := 26, nameIndex := 364, descriptorIndex := 339, attributes := #[] }, { accessFlags := 26, nameIndex := 365, descriptorIndex := 339, attributes := #[] }, { accessFlags := 26, nameIndex := 172, descriptorIndex := 173, attributes := #[] }, { accessFlags := 26, nameIndex := 176, descriptorIndex := 173, attributes := #[] }, { accessFlags := 8, nameIndex := 344, descriptorIndex := 339, attributes := #[] }, { accessFlags := 8, nameIndex := 338, descriptorIndex := 339, attributes := #[] }, { accessFlags := 4120, nameIndex := 245, descriptorIndex := 246, attributes := #[] }])
  fields := #[{ name := "E", type := .double, accessFlags := 25, slot := 0, constantValue := 0 }, { name := "PI", type := .double, accessFlags := 25, slot := 1, constantValue := 0 }, { name := "TAU", type := .double, accessFlags := 25, slot := 2, constantValue := 0 }, { name := "DEGREES_TO_RADIANS", type := .double, accessFlags := 26, slot := 3, constantValue := 0 }, { name := "RADIANS_TO_DEGREES", type := .double, accessFlags := 26, slot := 4, constantValue := 0 }, { name := "negativeZeroFloatBits", type := .long, accessFlags := 26, slot := 5, constantValue := 0 }, { name := "negativeZeroDoubleBits", type := .long, accessFlags := 26, slot := 6, constantValue := 0 }, { name := "twoToTheDoubleScaleUp", type := .double, accessFlags := 8, slot := 7, constantValue := 0 }, { name := "twoToTheDoubleScaleDown", type := .double, accessFlags := 8, slot := 8, constantValue := 0 }, { name := "$assertionsDisabled", type := .boolean, accessFlags := 4120, slot := 9, constantValue := 0 }]
  methods := #[k10m0, k10m1]
  instanceTypes := #[]
  staticTypes := #[.double, .double, .double, .double, .double, .long, .long, .double, .double, .boolean]
  resolved := Array.replicate 460 none
  statics := none }

def pool11 : Array CpInfo := pool [(1, u "java/lang/Cloneable"), (0, .class_ 1), (0, u "java/lang/Object"), (0, .class_ 3)] 3

/-- java/lang/Cloneable -/
def k11 : Class := { plain "java/lang/Cloneable" (some 0) with
  accessFlags := 1537
  interfaces := #[]
  cf := some (fileOf pool11 2 #[] #[] 1537 4 #[] #[])
  fields := #[]
  methods := #[]
  instanceTypes := #[]
  staticTypes := #[]
  resolved := Array.replicate 8 none
  statics := none }

/-- the primitive byte -/
def k12 : Class := { plain "byte" none with kind := .primitive 'B', accessFlags := 0x411 }
/-- [B -/
def k13 : Class := { plain "[B" (some 0) with kind := .array 12 .byte, interfaces := #[11, 4], accessFlags := 1041 }

/-- the primitive int -/
def k14 : Class := { plain "int" none with kind := .primitive 'I', accessFlags := 0x411 }
/-- [I -/
def k15 : Class := { plain "[I" (some 0) with kind := .array 14 .int, interfaces := #[11, 4], accessFlags := 1041 }

def heap : Heap := #[]
def classes : Array Class := #[k0, k1, k2, k3, k4, k5, k6, k7, k8, k9, k10, k11, k12, k13, k14, k15]
def interned : List (Array UInt16 × Addr) := []
def slotsUsed : Nat := 0
def theMethod : MethodId := ⟨1, 1⟩
def args0 : Array Value := #[.int 3, .int 7, .int 5, .int 2, .int 4]
def aboutOver (below : List Frame) : State where
  vm := { classes := classes, interned := interned.toArray }
  heap := heap
  slotsUsed := slotsUsed
  threads := #[{ frames := .invoking theMethod args0 :: below }]
def below0 : List Frame := [.native { method := ⟨0, 0⟩, args := #[] }]
def about1 : State := aboutOver below0
def p0 : Program := .bare "" "" ""
def e0 : Env := launch0.env 0 0 0
theorem w_frames : about1.frames = Frame.invoking theMethod args0 :: below0 := rfl
set_option maxRecDepth 65536 in
theorem w_args : argsFit about1.vm theMethod args0 = true := by decide +kernel
set_option maxRecDepth 65536 in
theorem w_heap : heapFits about1 = true := by decide +kernel
set_option maxRecDepth 65536 in
theorem w_runnable : about1.curStatus? = some .runnable := by decide +kernel
set_option maxRecDepth 65536 in
theorem w_alone : about1.alone = true := by decide +kernel
set_option maxRecDepth 65536 in
theorem w_named : about1.methodNamed? x = some theMethod := by decide +kernel
set_option maxRecDepth 65536 in
theorem w_hears : about1.hears theMethod below0 = true := by decide +kernel
set_option maxRecDepth 65536 in
theorem w_ripe : about1.ripe theMethod args0 below0 = true := by decide +kernel
theorem w_running : about1.status = .running := rfl
set_option maxRecDepth 65536 in
theorem w_room : about1.hasRoom e0.platform room_1 = true :=
  launch0.hasRoom_least _ room_1 (by decide +kernel) (by decide +kernel) (by decide +kernel) (by decide +kernel) (by decide +kernel) (by decide +kernel)
theorem allAtoms_all (ts : List Jvm.Cond) (a : Array Jvm.Value) (st : Jvm.State) : (allAtoms ts).before a st = ts.all (fun c => c.before a st) := by
  induction ts with
  | nil => rfl
  | cons c t ih =>
    show (Jvm.Cond.and c (allAtoms t)).before a st = _
    rw [Jvm.Cond.before_and, ih, List.all_cons]
def words1 : List Jvm.Cond := Jvm.Cond.code x code maxLocals ret :: tables_1
/-- a 'code' word, met by the world's own term for the bytes: nothing is compared byte by byte -/
theorem code_word {y : MethodName} {bytes : ByteArray} {mx : Nat} {rt : Option FieldType} {a : Array Value} {s : State} {m : MethodId} {meth : Method} {c : Code} (h1 : s.methodNamed? y = some m) (h2 : s.vm.method? m = some meth) (h3 : meth.code = some c) (h4 : c.code = bytes)
    (h5 : (c.maxLocals == mx && c.exceptionTable.isEmpty && decide (c.maxStack ≤ mostOperands) && decide (meth.sig.returnType = rt) && !meth.locks && decide (parseMethodDescriptor y.desc = some meth.sig)) = true) : (Jvm.Cond.code y bytes mx rt).before a s = true := by
  simp only [Bool.and_eq_true, beq_iff_eq, Bool.not_eq_true', decide_eq_true_eq] at h5
  obtain ⟨⟨⟨⟨⟨g1, g2⟩, g3⟩, g4⟩, g5⟩, g6⟩ := h5
  simp [Cond.before, Cond.holds, Cond.value, h1, h2, h3, h4, g1, g2, g3, g4, g5, g6]
def isCode : Jvm.Cond → Bool
  | .code _ _ _ _ => true
  | _ => false
theorem all_split {L : List Jvm.Cond} {P : Jvm.Cond → Bool} (h1 : L.all (fun c => isCode c || P c) = true) (h2 : ∀ c ∈ L.filter isCode, P c = true) : L.all P = true := by
  refine List.all_eq_true.mpr fun c hc => ?_
  have h := List.all_eq_true.mp h1 c hc
  rcases Bool.eq_false_or_eq_true (isCode c) with hi | hi
  · exact h2 c (List.mem_filter.mpr ⟨hc, hi⟩)
  · simpa [hi] using h
set_option maxRecDepth 65536 in
theorem w_c0 : (Jvm.Cond.code x code maxLocals ret).before args0 about1 = true := code_word (m := ⟨1, 1⟩) (meth := k1m1) (c := k1c1) (by decide +kernel) rfl rfl rfl (by decide +kernel)
set_option maxRecDepth 65536 in
theorem w_c1 : (Jvm.Cond.code ({ cls := "com/example/tidewalk/tidewalk/problems/RealBox", name := "<init>", desc := "(IDD)V" } : Jvm.MethodName) prog_41_method_1_code (6 : Nat) (Option.none : Option Jvm.ClassFile.FieldType)).before args0 about1 = true := code_word (m := ⟨3, 0⟩) (meth := k3m0) (c := k3c0) (by decide +kernel) rfl rfl rfl (by decide +kernel)
set_option maxRecDepth 65536 in
theorem w_c2 : (Jvm.Cond.code ({ cls := "java/lang/Object", name := "<init>", desc := "()V" } : Jvm.MethodName) object_method_1_code (1 : Nat) (Option.none : Option Jvm.ClassFile.FieldType)).before args0 about1 = true := code_word (m := ⟨0, 0⟩) (meth := k0m0) (c := k0c0) (by decide +kernel) rfl rfl rfl (by decide +kernel)
set_option maxRecDepth 65536 in
theorem w_c3 : (Jvm.Cond.code ({ cls := "java/lang/Double", name := "isFinite", desc := "(D)Z" } : Jvm.MethodName) jdk_117_method_8_code (2 : Nat) (Option.some Jvm.ClassFile.FieldType.boolean)).before args0 about1 = true := code_word (m := ⟨9, 0⟩) (meth := k9m0) (c := k9c0) (by decide +kernel) rfl rfl rfl (by decide +kernel)
set_option maxRecDepth 65536 in
theorem w_c4 : (Jvm.Cond.code ({ cls := "java/lang/Math", name := "abs", desc := "(D)D" } : Jvm.MethodName) jdk_29_method_64_code (2 : Nat) (Option.some Jvm.ClassFile.FieldType.double)).before args0 about1 = true := code_word (m := ⟨10, 1⟩) (meth := k10m1) (c := k10c1) (by decide +kernel) rfl rfl rfl (by decide +kernel)
set_option maxRecDepth 65536 in
theorem w_c5 : (Jvm.Cond.code ({ cls := "com/example/tidewalk/tidewalk/problems/RealBox", name := "contains", desc := "(D)Z" } : Jvm.MethodName) prog_41_method_5_code (3 : Nat) (Option.some Jvm.ClassFile.FieldType.boolean)).before args0 about1 = true := code_word (m := ⟨3, 1⟩) (meth := k3m1) (c := k3c1) (by decide +kernel) rfl rfl rfl (by decide +kernel)
def codes1 : List Jvm.Cond := [Jvm.Cond.code x code maxLocals ret, Jvm.Cond.code ({ cls := "com/example/tidewalk/tidewalk/problems/RealBox", name := "<init>", desc := "(IDD)V" } : Jvm.MethodName) prog_41_method_1_code (6 : Nat) (Option.none : Option Jvm.ClassFile.FieldType), Jvm.Cond.code ({ cls := "java/lang/Object", name := "<init>", desc := "()V" } : Jvm.MethodName) object_method_1_code (1 : Nat) (Option.none : Option Jvm.ClassFile.FieldType), Jvm.Cond.code ({ cls := "java/lang/Double", name := "isFinite", desc := "(D)Z" } : Jvm.MethodName) jdk_117_method_8_code (2 : Nat) (Option.some Jvm.ClassFile.FieldType.boolean), Jvm.Cond.code ({ cls := "java/lang/Math", name := "abs", desc := "(D)D" } : Jvm.MethodName) jdk_29_method_64_code (2 : Nat) (Option.some Jvm.ClassFile.FieldType.double), Jvm.Cond.code ({ cls := "com/example/tidewalk/tidewalk/problems/RealBox", name := "contains", desc := "(D)Z" } : Jvm.MethodName) prog_41_method_5_code (3 : Nat) (Option.some Jvm.ClassFile.FieldType.boolean)]
set_option maxRecDepth 65536 in
theorem codes_eq : words1.filter isCode = codes1 := rfl
theorem w_codes : ∀ c ∈ words1.filter isCode, c.before args0 about1 = true := by
  rw [codes_eq]
  intro c hc
  simp only [codes1, List.mem_cons, List.not_mem_nil, or_false] at hc
  rcases hc with rfl | rfl | rfl | rfl | rfl | rfl
  · exact w_c0
  · exact w_c1
  · exact w_c2
  · exact w_c3
  · exact w_c4
  · exact w_c5
set_option maxRecDepth 65536 in
theorem w_t1 : (words1.take 24).all (fun c => isCode c || c.before args0 about1) = true := by decide +kernel
set_option maxRecDepth 65536 in
theorem w_t2 : (words1.drop 24).all (fun c => isCode c || c.before args0 about1) = true := by decide +kernel
theorem w_tables : (allAtoms (Jvm.Cond.code x code maxLocals ret :: tables_1)).before args0 about1 = true := by
  rw [allAtoms_all]
  show words1.all (fun c => c.before args0 about1) = true
  refine all_split ?_ w_codes
  rw [← List.take_append_drop 24 words1, List.all_append, w_t1, w_t2]
  rfl
set_option maxRecDepth 65536 in
theorem w_case : (Jvm.Cond.and given_1 narrow_1).before args0 about1 = true := by decide +kernel
theorem w_applies : (headSpec (Jvm.Cond.code x code maxLocals ret :: tables_1) room_1).applies x e0.platform about1 = true :=
  (Spec.applies_iff w_frames).mpr ⟨w_running, w_runnable, w_alone, w_named, w_hears, w_ripe, w_room, w_tables⟩
theorem atStart : AtStart classFile x code maxLocals ret World_1 tables_1 room_1 Calls_1 rest_1 Pre_1 launch0 p0 e0 about1 theMethod args0 below0 :=
  ⟨lists_1, trivial, launch0.admits_env _ _ _, launch0.least_env, fairChoices_fair.cas, fairChoices_fair.clock, w_frames, w_args, w_heap, w_applies, trivial, trivial, w_case⟩
end start1
theorem witness_1 : WitnessClaimed_1 := ⟨start1.p0, start1.e0, start1.about1, start1.theMethod, start1.args0, start1.below0, start1.atStart⟩
end Jvm.Pilot.@@N@@
