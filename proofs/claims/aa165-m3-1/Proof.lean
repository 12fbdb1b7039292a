import JvmDerived
import JvmDerived.Pilot.@@N@@Statement
import JvmDerived.Pilot.@@N@@Code
set_option linter.unusedVariables false
set_option linter.unusedSimpArgs false
namespace Jvm.Pilot.@@N@@
open Jvm Jvm.ClassFile Sem Op Lib Jvm.Free Jvm.Stand Jvm.LawKit Jvm.RoadKit Bundle Jvm.Pilot.@@N@@.Jvm.D
/-- the run from S ends as G says -/
def own_Fin (p : Program) (e : Env) (below : List Frame) (G : Outcome → State → Prop) (S : State) : Prop :=
  ∃ t o, Steps p.tables e below S t ∧ t.status = .running ∧ Ended t below o ∧ G o t
theorem own_go {p : Program} {e : Env} {below : List Frame} {G : Outcome → State → Prop} {S S' : State} (h : Steps p.tables e below S S') (k : own_Fin p e below G S') : own_Fin p e below G S := by
  obtain ⟨t, o, h1, h2, h3, h4⟩ := k
  exact ⟨t, o, h.trans h1, h2, h3, h4⟩
theorem own_by {p : Program} {e : Env} {below : List Frame} {G : Outcome → State → Prop} {S S' : State} (h : ∀ t, Steps p.tables e below S' t → Steps p.tables e below S t) (k : own_Fin p e below G S') : own_Fin p e below G S := by
  obtain ⟨t, o, h1, h2, h3, h4⟩ := k
  exact ⟨t, o, h t h1, h2, h3, h4⟩
theorem own_done {p : Program} {e : Env} {below : List Frame} {G : Outcome → State → Prop} {S t : State} {o : Outcome} (h1 : Steps p.tables e below S t) (h2 : t.status = .running) (h3 : Ended t below o) (h4 : G o t) : own_Fin p e below G S := ⟨t, o, h1, h2, h3, h4⟩
def own_get (rs : List Int32) (j : Int32) : Int32 := rs.getD j.toNatClampNeg 0
theorem own_getD (rs : List Int32) (j : Int32) : (rs.map Value.int).getD j.toNatClampNeg (.int (0 : Int32)) = .int (own_get rs j) := by
  unfold own_get
  rw [List.getD_eq_getElem?_getD, List.getD_eq_getElem?_getD, List.getElem?_map]
  cases rs[j.toNatClampNeg]? <;> rfl
theorem own_retI {p : Program} {l : Launch} {e : Env} {R : Room} {s : State} {m : MethodId} {args : Array Value} {below : List Frame} {meth : Method} {c : Code} {T : State} {locs : List Loc} {cells slots : Nat} (X : Stand p l e R s m args below meth c T locs cells slots) (hx : p.tables.exec = Jvm.exec) {pc : Nat} {Ls : Array Slot} {z : Int32} {rest : List Value} (hret : meth.sig.returnType = some .int) (hd : decode c.code pc = .ok (.ireturn, 1)) {fs : List Frame}
    (hl : ∀ (f : JFrame) (acts : List Action), f.method = m → f.locked = none → f.entered = [] → (doReturn e (T.setTop f) acts (some (.int z))).1 = T.setFrames fs) : Steps p.tables e below (T.setTop (mkF m pc Ls (.int z :: rest))) (T.setFrames fs) :=
  retOut X hx hret rfl (Or.inl ⟨rfl, Or.inl rfl, z, rfl⟩) hd hl
open Jvm.Free.Fl Jvm.Free.Fl.Abs
section OwnD
open Jvm.FP Jvm.Free.Fl
def own_cl : Option Int64 → UInt64
  | none => 9218868437227405312
  | some v => FP.l2d v
def own_be : Option Int64 → UInt64
  | none => 18442240474082181120
  | some v => FP.l2d v
def own_mx (b : Option Int64) (x : Int64) : Option Int64 := match b with
  | none => some x
  | some y => some (if y < x then x else y)
def own_er (o : Int64) (b : Option Int64) : Option Int64 := b.map (o - ·)
def own_pl (c d : Option Int64) : Option Int64 := match c, d with
  | some a, some b => some (a + b)
  | _, _ => none
def own_lv (b : Option Int64) : Int64 := b.getD (-9223372036854775808)
def own_mxl (x y : Int64) : Int64 := if x < y then y else x
def own_W (n : Int) (b : Option Int64) : Prop := ∀ v, b = some v → -n ≤ v.toInt ∧ v.toInt ≤ n
def own_if (c : Prop) [Decidable c] (b : Option Int64) (x : Int32) : Option Int64 := if c then own_mx b x.toInt64 else b
def own_b3 (j a0 a1 a2 s1 s2 s3 : Int32) : Option Int64 := own_if (a2 = j) (own_if (a1 = j) (own_if (a0 = j) none s1) s2) s3
theorem own_i64 (x : Int32) : -2147483648 ≤ x.toInt64.toInt ∧ x.toInt64.toInt ≤ 2147483647 := by
  rw [Int32.toInt_toInt64]; have h1 := x.le_toInt; have h2 := x.toInt_lt; omega
theorem own_Wn (n : Int) : own_W n none := fun v h => by cases h
theorem own_Wmx {b : Option Int64} (h : own_W 2147483648 b) (x : Int32) : own_W 2147483648 (own_mx b x.toInt64) := fun v hv => by
  have h2 := own_i64 x
  cases b with
  | none => cases hv; omega
  | some y =>
    have h1 := h y rfl
    simp only [own_mx, Option.some.injEq] at hv
    split at hv <;> subst hv <;> omega
theorem own_Wif {b : Option Int64} (h : own_W 2147483648 b) (c : Prop) [Decidable c] (x : Int32) : own_W 2147483648 (own_if c b x) := by
  unfold own_if; split
  · exact own_Wmx h x
  · exact h
theorem own_W3 (j a0 a1 a2 s1 s2 s3 : Int32) : own_W 2147483648 (own_b3 j a0 a1 a2 s1 s2 s3) := own_Wif (own_Wif (own_Wif (own_Wn _) _ _) _ _) _ _
theorem own_bb {v : Int64} {n : Int} (h : -n ≤ v.toInt ∧ v.toInt ≤ n) (hn : n < 9007199254740992) : B53 v := ⟨by omega, by omega⟩
theorem own_isinf {a : UInt64} (h : Core.val64 a = .inf false) : a = 9218868437227405312 := Core.val64_inj (by rw [h]; simp) (h.trans (by decide +kernel))
theorem own_Wer {o : Int32} {b : Option Int64} (h : own_W 2147483648 b) : own_W 4294967296 (own_er o.toInt64 b) := fun v hv => by
  cases b with
  | none => cases hv
  | some y =>
    have h1 := h y rfl
    have h2 := own_i64 o
    simp only [own_er, Option.map_some, Option.some.injEq] at hv
    subst hv
    rw [sub64 (own_bb (n := 2147483648) ⟨by omega, by omega⟩ (by omega)) (own_bb h1 (by omega))]
    omega
theorem own_sub (o : Int32) {b : Option Int64} (h : own_W 2147483648 b) : FP.dsub (FP.l2d o.toInt64) (own_be b) = own_cl (own_er o.toInt64 b) := by
  cases b with
  | none =>
    obtain ⟨s, c, q, e⟩ := Core.l2d_fin o.toInt64
    refine own_isinf ?_
    show Core.val64 (Core.dsub (Core.l2d o.toInt64) 18442240474082181120) = _
    rw [Core.val64_dsub, e, show Core.val64 18442240474082181120 = .inf true from by decide +kernel]
    rfl
  | some y =>
    have h2 := own_i64 o
    exact dsub_w (own_bb (n := 2147483648) ⟨by omega, by omega⟩ (by omega)) (own_bb (h y rfl) (by omega))
theorem own_add {c d : Option Int64} {n k : Int} (hc : own_W n c) (hd : own_W k d) (hn : n < 9007199254740992) (hk : k < 9007199254740992) : FP.dadd (own_cl c) (own_cl d) = own_cl (own_pl c d) := by
  cases c with
  | none =>
    refine own_isinf ?_
    show Core.val64 (Core.dadd 9218868437227405312 (own_cl d)) = _
    rw [Core.val64_dadd, show Core.val64 9218868437227405312 = .inf false from by decide +kernel]
    cases d with
    | none => rw [show Core.val64 (own_cl none) = .inf false from by decide +kernel]; rfl
    | some y =>
      obtain ⟨s, c, q, e⟩ := Core.l2d_fin y
      rw [show Core.val64 (own_cl (some y)) = _ from e]; rfl
  | some x =>
    cases d with
    | none =>
      refine own_isinf ?_
      show Core.val64 (Core.dadd (Core.l2d x) 9218868437227405312) = _
      obtain ⟨s, c, q, e⟩ := Core.l2d_fin x
      rw [Core.val64_dadd, show Core.val64 9218868437227405312 = .inf false from by decide +kernel, e]
      rfl
    | some y => exact dadd_w (own_bb (hc x rfl) hn) (own_bb (hd y rfl) hk)
theorem own_cn (c : Option Int64) : NoNaN64 (own_cl c) := by
  cases c with
  | none => exact (by decide +kernel : NoNaN64 9218868437227405312)
  | some x => exact (l2d_fin x).noNaN
theorem own_bn (c : Option Int64) : NoNaN64 (own_be c) := by
  cases c with
  | none => exact (by decide +kernel : NoNaN64 18442240474082181120)
  | some x => exact (l2d_fin x).noNaN
theorem own_fb (b : Option Int64) (x : Int64) : Fin64 (own_be (own_mx b x)) := by cases b <;> exact l2d_fin _
theorem own_fe (o : Int64) (b : Option Int64) (x : Int64) : Fin64 (own_cl (own_er o (own_mx b x))) := by cases b <;> exact l2d_fin _
theorem own_Wpl {c d : Option Int64} {n k : Int} (hc : own_W n c) (hd : own_W k d) (hn : n < 9007199254740992) (hk : k < 9007199254740992) : own_W (n + k) (own_pl c d) := fun v hv => by
  cases c with
  | none => cases hv
  | some x => cases d with
    | none => cases hv
    | some y =>
      have h1 := hc x rfl
      have h2 := hd y rfl
      simp only [own_pl, Option.some.injEq] at hv
      subst hv
      rw [add64 (own_bb h1 hn) (own_bb h2 hk)]
      omega
theorem own_max {b : Option Int64} (h : own_W 2147483648 b) (x : Int32) : Native.java_lang_Math.nans.pick64 true (own_be b) (FP.l2d x.toInt64) = own_be (own_mx b x.toInt64) := by
  have h2 := own_i64 x
  have bx : B53 x.toInt64 := own_bb (n := 2147483648) ⟨by omega, by omega⟩ (by omega)
  cases b with
  | none =>
    have q := Core.fin_lt_inf (Core.l2d_fin x.toInt64)
    show Native.java_lang_Math.nans.pick64 true 18442240474082181120 (FP.l2d x.toInt64) = FP.l2d x.toInt64
    unfold Native.java_lang_Math.nans.pick64
    rw [show FP.dcmp 18442240474082181120 (FP.l2d x.toInt64) = some .lt from q.2.2.2]
    simp
  | some y =>
    by_cases hy : y < x.toInt64
    · simp only [own_mx, if_pos hy]; exact max_l (own_bb (h y rfl) (by omega)) bx hy
    · simp only [own_mx, if_neg hy]; exact max_g (own_bb (h y rfl) (by omega)) bx hy
theorem own_lvmx {b : Option Int64} (h : own_W 2147483648 b) (x : Int32) : own_mxl (own_lv b) x.toInt64 = own_lv (own_mx b x.toInt64) := by
  cases b with
  | none =>
    have h2 := own_i64 x
    show (if (-9223372036854775808 : Int64) < x.toInt64 then x.toInt64 else _) = x.toInt64
    rw [if_pos]
    rw [Int64.lt_iff_toInt_lt]
    have : (-9223372036854775808 : Int64).toInt = -9223372036854775808 := by decide
    omega
  | some y =>
    show (if y < x.toInt64 then x.toInt64 else y) = own_lv (some (if y < x.toInt64 then x.toInt64 else y))
    rfl
theorem own_lvne {b : Option Int64} (h : own_W 2147483648 b) (hb : ¬ b = none) : ¬ lcmpW (own_lv b) (-9223372036854775808) = 0 := by
  cases b with
  | none => exact absurd rfl hb
  | some y =>
    rw [lw_eq]
    intro q
    have h1 := h y rfl
    have q' : y = (-9223372036854775808 : Int64) := q
    have : (-9223372036854775808 : Int64).toInt = -9223372036854775808 := by decide
    rw [q', this] at h1
    omega
theorem own_lvz {b : Option Int64} (hb : b = none) : lcmpW (own_lv b) (-9223372036854775808) = 0 := by subst hb; decide
theorem own_nz {k : Int64} (hk : ¬ k = 0) : Nz64 (FP.l2d k) := (nz64_iff _).mpr (by have h := (l2d_big hk).1; omega)
theorem own_dn (c : Option Int64) {k : Int64} (hk : ¬ k = 0) : NoNaN64 (FP.ddiv (own_cl c) (FP.l2d k)) := ddiv_out (own_cn c) (l2d_fin _) (own_nz hk)
end OwnD
def own_mn (x y : Int32) : Int32 := if y < x then y else x
def own_mi (x y : Int32) : Int32 := if x < y then y else x
def own_sl (i lo hi k : Int32) : Int32 := own_mn (if i < lo then (1 : Int32) else if i < hi then (2 : Int32) else (3 : Int32)) k
theorem own_k3 (x : Int32) : (x &&& (3 : Int32)) % (3 : Int32) + (1 : Int32) = 1 ∨ (x &&& (3 : Int32)) % (3 : Int32) + (1 : Int32) = 2 ∨ (x &&& (3 : Int32)) % (3 : Int32) + (1 : Int32) = 3 := by
  have h1 : (x &&& (3 : Int32)).toInt = x.toInt % (2 ^ 2 : Nat) := c_mask x 3 2 (by decide) (by decide)
  generalize x &&& (3 : Int32) = y at h1 ⊢
  have h3 : y.toInt = (0 : Int32).toInt ∨ y.toInt = (1 : Int32).toInt ∨ y.toInt = (2 : Int32).toInt ∨ y.toInt = (3 : Int32).toInt := by
    simp only [Int32.reduceToInt]; omega
  simp only [Int32.toInt_inj] at h3
  rcases h3 with rfl | rfl | rfl | rfl <;> decide
theorem own_e1 {o1 : Int64} {b1 : Option Int64} (h1 : ¬ b1 = none) : own_cl (own_pl (some 0) (own_er o1 b1)) = FP.l2d ((0 : Int64) + (o1 - own_lv b1)) := by
  cases b1 <;> first | exact absurd rfl h1 | rfl
theorem own_e2 {o1 o2 : Int64} {b1 b2 : Option Int64} (h1 : ¬ b1 = none) (h2 : ¬ b2 = none) : own_cl (own_pl (own_pl (some 0) (own_er o1 b1)) (own_er o2 b2)) = FP.l2d ((0 : Int64) + (o1 - own_lv b1) + (o2 - own_lv b2)) := by
  cases b1 <;> cases b2 <;> first | exact absurd rfl h1 | exact absurd rfl h2 | rfl
theorem own_e3 {o1 o2 o3 : Int64} {b1 b2 b3 : Option Int64} (h1 : ¬ b1 = none) (h2 : ¬ b2 = none) (h3 : ¬ b3 = none) : own_cl (own_pl (own_pl (own_pl (some 0) (own_er o1 b1)) (own_er o2 b2)) (own_er o3 b3)) = FP.l2d ((0 : Int64) + (o1 - own_lv b1) + (o2 - own_lv b2) + (o3 - own_lv b3)) := by
  cases b1 <;> cases b2 <;> cases b3 <;> first | exact absurd rfl h1 | exact absurd rfl h2 | exact absurd rfl h3 | rfl
theorem own_z1 {o1 : Int64} {b1 : Option Int64} (h : b1 = none) : own_pl (some 0) (own_er o1 b1) = none := by subst h; rfl
theorem own_z2 {o1 o2 : Int64} {b1 b2 : Option Int64} (h : b1 = none ∨ b2 = none) : own_pl (own_pl (some 0) (own_er o1 b1)) (own_er o2 b2) = none := by
  rcases h with rfl | rfl
  · rfl
  · cases b1 <;> rfl
theorem own_z3 {o1 o2 o3 : Int64} {b1 b2 b3 : Option Int64} (h : b1 = none ∨ b2 = none ∨ b3 = none) : own_pl (own_pl (own_pl (some 0) (own_er o1 b1)) (own_er o2 b2)) (own_er o3 b3) = none := by
  rcases h with rfl | rfl | rfl
  · rfl
  · cases b1 <;> rfl
  · cases b1 <;> cases b2 <;> rfl
theorem own_ci {c : Option Int64} {k : Int32} (h : c = none) (hk : k = 1 ∨ k = 2 ∨ k = 3) : cmpValue (FP.dcmp (FP.ddiv (own_cl c) (FP.l2d k.toInt64)) 9218868437227405312) .l = 0 := by
  subst h
  rcases hk with rfl | rfl | rfl <;> decide +kernel
theorem own_ce {c : Option Int64} {v : Int64} {k : Int64} (h : own_cl c = FP.l2d v) (hk : ¬ k = 0) : cmpValue (FP.dcmp (FP.ddiv (own_cl c) (FP.l2d k)) (FP.ddiv (FP.l2d v) (FP.l2d k))) .l = 0 := by
  rw [← h]; exact dcmpV_self (own_dn c hk) _
theorem own_isf {x : UInt64} (h : Fin64 x) : ¬ (0 : Int32) < cmpValue (FP.dcmp (x &&& 0x7fffffffffffffff) 9218868437227405311) .g := by
  rcases (FP.Core.le_max (noNaN64_no.mp h.noNaN)).mpr (fin64_core.mp h) with q | q <;> rw [show FP.dcmp (x &&& 0x7fffffffffffffff) 9218868437227405311 = _ from q] <;> decide
theorem d1_0 : decode jdk_29_method_69_code 0 = .ok (.iload_n 0, 1) := by decide +kernel
theorem d1_1 : decode jdk_29_method_69_code 1 = .ok (.iload_n 1, 1) := by decide +kernel
theorem d1_2 : decode jdk_29_method_69_code 2 = .ok (.if_icmp .gt 7, 3) := by decide +kernel
theorem d1_5 : decode jdk_29_method_69_code 5 = .ok (.iload_n 0, 1) := by decide +kernel
theorem d1_6 : decode jdk_29_method_69_code 6 = .ok (.goto 4, 3) := by decide +kernel
theorem d1_9 : decode jdk_29_method_69_code 9 = .ok (.iload_n 1, 1) := by decide +kernel
theorem d1_10 : decode jdk_29_method_69_code 10 = .ok (.ireturn, 1) := by decide +kernel
theorem ef_mi (m : MethodId) (x0 : Int32) (x1 : Int32) : entryFrame m #[(.int x0), (.int x1)] 2 = mkF m 0 #[.val (.int x0), .val (.int x1)] [] := by first | (simp [entryFrame, mkF, argsToLocals, Value.category]; done) | rfl
def Qmi (Z : State) (p1 : Int32) (p2 : Int32) (h0 : Heap) (n0 : Nat) (v : Option Value) (h : Heap) (L : List Loc) : Prop := v = some (.int (own_mn p1 p2)) ∧ Fr n0 L ∧ h = h0
abbrev Gmi (Z : State) (p1 : Int32) (p2 : Int32) (h0 : Heap) (n0 : Nat) (s : State) : Outcome → State → Prop := fun o U' => ∃ v L, o = .returned v ∧ Qmi Z p1 p2 h0 n0 v U'.heap L ∧ FrameEnd s o U' L ({ frames := 0, cells := 0, slots := 0, locals := 0 } : Room).cells ({ frames := 0, cells := 0, slots := 0, locals := 0 } : Room).slots
set_option maxRecDepth 65536 in
set_option maxHeartbeats 40000000 in
theorem rmmi (l : Launch) (Z : State) (a0 : Array Value) (hw : ∀ d ∈ tables_1, d.before a0 Z = true) (ws : List Jvm.Cond) (p1 : Int32) (p2 : Int32) (h0 : Heap) (n0 : Nat) (Z0 : n0 ≤ h0.size)  :
    MetFree l (⟨"java/lang/Math", "min", "(II)I"⟩ : MethodName) (head1 (Jvm.Cond.code (⟨"java/lang/Math", "min", "(II)I"⟩ : MethodName) jdk_29_method_69_code 2 (some .int) :: ws) ({ frames := 0, cells := 0, slots := 0, locals := 0 } : Room)) (fun a U => a = #[(.int p1), (.int p2)] ∧ Z.Warmed39 U.vm ∧ U.heap = h0) (fun _ _ _ _ _ => True) (fun _ U o U' => ∃ v L, o = .returned v ∧ Qmi Z p1 p2 h0 n0 v U'.heap L ∧ FrameEnd U o U' L ({ frames := 0, cells := 0, slots := 0, locals := 0 } : Room).cells ({ frames := 0, cells := 0, slots := 0, locals := 0 } : Room).slots) := by
  refine MetFree.of_bodySF (Jvm.Free.JP.mathPlain rfl (by decide +kernel)) hisR ?_
  intro p e s m args below meth c s₁ Bd hml0 hP hK
  obtain ⟨rfl, hZ, hh⟩ := hP
  have hx := Bd.exec
  have hby := Bd.bytes
  have hml : c.maxLocals = 2 := hml0
  have hown : s.vm.findClass "java/lang/Math" = some m.cls := findClass_of_methodNamed Bd.named
  have hnm := (name_of_methodNamed Bd.named Bd.method).1
  have X0 : Stand p l e ({ frames := 0, cells := 0, slots := 0, locals := 0 } : Room) s m #[(.int p1), (.int p2)] below meth c s₁ [] 0 0 := Stand.of_body Bd
  have e0 : s₁.heap = h0 := by rw [← hh, Bd.state]; rfl
  have es0 : s.heap = h0 := hh
  have N0 := Fr.nil n0
  show own_Fin p e below (Gmi Z p1 p2 h0 n0 s) (s₁.setTop (entryFrame m #[(.int p1), (.int p2)] 2))
  rw [ef_mi m p1 p2]
  refine own_go (XS.iloadN X0.here hx rfl (hb hby d1_0) rfl (Steps.refl _)) ?_
  show own_Fin _ _ _ _ (s₁.setTop (mkF m 1 #[iv p1, iv p2] [(.int p1)]))
  refine own_go (XS.iloadN X0.here hx rfl (hb hby d1_1) rfl (Steps.refl _)) ?_
  show own_Fin _ _ _ _ (s₁.setTop (mkF m 2 #[iv p1, iv p2] [(.int p2), (.int p1)]))
  by_cases c2_1 : p2 < p1
  · refine own_go (XS.icmpYes X0.here hx rfl (pc0 := 2) (pc' := 9) rfl (hb hby d1_2) rfl (tlt c2_1).2.2.1 (by decide) (by decide) (Steps.refl _)) ?_
    show own_Fin _ _ _ _ (s₁.setTop (mkF m 9 #[iv p1, iv p2] []))
    refine own_go (XS.iloadN X0.here hx rfl (hb hby d1_9) rfl (Steps.refl _)) ?_
    show own_Fin _ _ _ _ (s₁.setTop (mkF m 10 #[iv p1, iv p2] [(.int p2)]))
    obtain ⟨fs2, hr2, hrun2, hended2, hW2, hsame2⟩ := X0.leave (v := some (.int p2)) (fun h => by rw [Bd.returns] at h; cases h)
    refine own_done (own_retI X0 hx Bd.returns (hb hby d1_10) hr2) hrun2 hended2 ⟨_, _, rfl, ?_, ⟨_, rfl⟩, hW2, hsame2.mono (by decide) (by decide)⟩
    show Qmi Z p1 p2 h0 n0 _ s₁.heap _
    rw [e0]
    exact ⟨(by simp [own_mn, c2_1]), N0, rfl⟩
  · refine own_go (XS.icmpNo X0.here hx rfl (hb hby d1_2) rfl (flt c2_1).2.2.1 (Steps.refl _)) ?_
    show own_Fin _ _ _ _ (s₁.setTop (mkF m 5 #[iv p1, iv p2] []))
    refine own_go (XS.iloadN X0.here hx rfl (hb hby d1_5) rfl (Steps.refl _)) ?_
    show own_Fin _ _ _ _ (s₁.setTop (mkF m 6 #[iv p1, iv p2] [(.int p1)]))
    refine own_go (XS.goto X0.here hx rfl (pc0 := 6) (pc' := 10) rfl (hb hby d1_6) (by decide) (by decide) (Steps.refl _)) ?_
    show own_Fin _ _ _ _ (s₁.setTop (mkF m 10 #[iv p1, iv p2] [(.int p1)]))
    obtain ⟨fs3, hr3, hrun3, hended3, hW3, hsame3⟩ := X0.leave (v := some (.int p1)) (fun h => by rw [Bd.returns] at h; cases h)
    refine own_done (own_retI X0 hx Bd.returns (hb hby d1_10) hr3) hrun3 hended3 ⟨_, _, rfl, ?_, ⟨_, rfl⟩, hW3, hsame3.mono (by decide) (by decide)⟩
    show Qmi Z p1 p2 h0 n0 _ s₁.heap _
    rw [e0]
    exact ⟨(by simp [own_mn, c2_1]), N0, rfl⟩
theorem d2_0 : decode jdk_29_method_65_code 0 = .ok (.iload_n 0, 1) := by decide +kernel
theorem d2_1 : decode jdk_29_method_65_code 1 = .ok (.iload_n 1, 1) := by decide +kernel
theorem d2_2 : decode jdk_29_method_65_code 2 = .ok (.if_icmp .lt 7, 3) := by decide +kernel
theorem d2_5 : decode jdk_29_method_65_code 5 = .ok (.iload_n 0, 1) := by decide +kernel
theorem d2_6 : decode jdk_29_method_65_code 6 = .ok (.goto 4, 3) := by decide +kernel
theorem d2_9 : decode jdk_29_method_65_code 9 = .ok (.iload_n 1, 1) := by decide +kernel
theorem d2_10 : decode jdk_29_method_65_code 10 = .ok (.ireturn, 1) := by decide +kernel
theorem ef_ma (m : MethodId) (x0 : Int32) (x1 : Int32) : entryFrame m #[(.int x0), (.int x1)] 2 = mkF m 0 #[.val (.int x0), .val (.int x1)] [] := by first | (simp [entryFrame, mkF, argsToLocals, Value.category]; done) | rfl
def Qma (Z : State) (p1 : Int32) (p2 : Int32) (h0 : Heap) (n0 : Nat) (v : Option Value) (h : Heap) (L : List Loc) : Prop := v = some (.int (own_mi p1 p2)) ∧ Fr n0 L ∧ h = h0
abbrev Gma (Z : State) (p1 : Int32) (p2 : Int32) (h0 : Heap) (n0 : Nat) (s : State) : Outcome → State → Prop := fun o U' => ∃ v L, o = .returned v ∧ Qma Z p1 p2 h0 n0 v U'.heap L ∧ FrameEnd s o U' L ({ frames := 0, cells := 0, slots := 0, locals := 0 } : Room).cells ({ frames := 0, cells := 0, slots := 0, locals := 0 } : Room).slots
set_option maxRecDepth 65536 in
set_option maxHeartbeats 40000000 in
theorem rmma (l : Launch) (Z : State) (a0 : Array Value) (hw : ∀ d ∈ tables_1, d.before a0 Z = true) (ws : List Jvm.Cond) (p1 : Int32) (p2 : Int32) (h0 : Heap) (n0 : Nat) (Z0 : n0 ≤ h0.size)  :
    MetFree l (⟨"java/lang/Math", "max", "(II)I"⟩ : MethodName) (head1 (Jvm.Cond.code (⟨"java/lang/Math", "max", "(II)I"⟩ : MethodName) jdk_29_method_65_code 2 (some .int) :: ws) ({ frames := 0, cells := 0, slots := 0, locals := 0 } : Room)) (fun a U => a = #[(.int p1), (.int p2)] ∧ Z.Warmed39 U.vm ∧ U.heap = h0) (fun _ _ _ _ _ => True) (fun _ U o U' => ∃ v L, o = .returned v ∧ Qma Z p1 p2 h0 n0 v U'.heap L ∧ FrameEnd U o U' L ({ frames := 0, cells := 0, slots := 0, locals := 0 } : Room).cells ({ frames := 0, cells := 0, slots := 0, locals := 0 } : Room).slots) := by
  refine MetFree.of_bodySF (Jvm.Free.JP.mathPlain rfl (by decide +kernel)) hisR ?_
  intro p e s m args below meth c s₁ Bd hml0 hP hK
  obtain ⟨rfl, hZ, hh⟩ := hP
  have hx := Bd.exec
  have hby := Bd.bytes
  have hml : c.maxLocals = 2 := hml0
  have hown : s.vm.findClass "java/lang/Math" = some m.cls := findClass_of_methodNamed Bd.named
  have hnm := (name_of_methodNamed Bd.named Bd.method).1
  have X0 : Stand p l e ({ frames := 0, cells := 0, slots := 0, locals := 0 } : Room) s m #[(.int p1), (.int p2)] below meth c s₁ [] 0 0 := Stand.of_body Bd
  have e0 : s₁.heap = h0 := by rw [← hh, Bd.state]; rfl
  have es0 : s.heap = h0 := hh
  have N0 := Fr.nil n0
  show own_Fin p e below (Gma Z p1 p2 h0 n0 s) (s₁.setTop (entryFrame m #[(.int p1), (.int p2)] 2))
  rw [ef_ma m p1 p2]
  refine own_go (XS.iloadN X0.here hx rfl (hb hby d2_0) rfl (Steps.refl _)) ?_
  show own_Fin _ _ _ _ (s₁.setTop (mkF m 1 #[iv p1, iv p2] [(.int p1)]))
  refine own_go (XS.iloadN X0.here hx rfl (hb hby d2_1) rfl (Steps.refl _)) ?_
  show own_Fin _ _ _ _ (s₁.setTop (mkF m 2 #[iv p1, iv p2] [(.int p2), (.int p1)]))
  by_cases c2_4 : p1 < p2
  · refine own_go (XS.icmpYes X0.here hx rfl (pc0 := 2) (pc' := 9) rfl (hb hby d2_2) rfl (tlt c2_4).1 (by decide) (by decide) (Steps.refl _)) ?_
    show own_Fin _ _ _ _ (s₁.setTop (mkF m 9 #[iv p1, iv p2] []))
    refine own_go (XS.iloadN X0.here hx rfl (hb hby d2_9) rfl (Steps.refl _)) ?_
    show own_Fin _ _ _ _ (s₁.setTop (mkF m 10 #[iv p1, iv p2] [(.int p2)]))
    obtain ⟨fs5, hr5, hrun5, hended5, hW5, hsame5⟩ := X0.leave (v := some (.int p2)) (fun h => by rw [Bd.returns] at h; cases h)
    refine own_done (own_retI X0 hx Bd.returns (hb hby d2_10) hr5) hrun5 hended5 ⟨_, _, rfl, ?_, ⟨_, rfl⟩, hW5, hsame5.mono (by decide) (by decide)⟩
    show Qma Z p1 p2 h0 n0 _ s₁.heap _
    rw [e0]
    exact ⟨(by simp [own_mi, c2_4]), N0, rfl⟩
  · refine own_go (XS.icmpNo X0.here hx rfl (hb hby d2_2) rfl (flt c2_4).1 (Steps.refl _)) ?_
    show own_Fin _ _ _ _ (s₁.setTop (mkF m 5 #[iv p1, iv p2] []))
    refine own_go (XS.iloadN X0.here hx rfl (hb hby d2_5) rfl (Steps.refl _)) ?_
    show own_Fin _ _ _ _ (s₁.setTop (mkF m 6 #[iv p1, iv p2] [(.int p1)]))
    refine own_go (XS.goto X0.here hx rfl (pc0 := 6) (pc' := 10) rfl (hb hby d2_6) (by decide) (by decide) (Steps.refl _)) ?_
    show own_Fin _ _ _ _ (s₁.setTop (mkF m 10 #[iv p1, iv p2] [(.int p1)]))
    obtain ⟨fs6, hr6, hrun6, hended6, hW6, hsame6⟩ := X0.leave (v := some (.int p1)) (fun h => by rw [Bd.returns] at h; cases h)
    refine own_done (own_retI X0 hx Bd.returns (hb hby d2_10) hr6) hrun6 hended6 ⟨_, _, rfl, ?_, ⟨_, rfl⟩, hW6, hsame6.mono (by decide) (by decide)⟩
    show Qma Z p1 p2 h0 n0 _ s₁.heap _
    rw [e0]
    exact ⟨(by simp [own_mi, c2_4]), N0, rfl⟩
theorem d3_0 : decode method_3_code 0 = .ok (.iload_n 0, 1) := by decide +kernel
theorem d3_1 : decode method_3_code 1 = .ok (.iload_n 1, 1) := by decide +kernel
theorem d3_2 : decode method_3_code 2 = .ok (.if_icmp .ge 7, 3) := by decide +kernel
theorem d3_5 : decode method_3_code 5 = .ok (.iconst 1, 1) := by decide +kernel
theorem d3_6 : decode method_3_code 6 = .ok (.goto 13, 3) := by decide +kernel
theorem d3_9 : decode method_3_code 9 = .ok (.iload_n 0, 1) := by decide +kernel
theorem d3_10 : decode method_3_code 10 = .ok (.iload_n 2, 1) := by decide +kernel
theorem d3_11 : decode method_3_code 11 = .ok (.if_icmp .ge 7, 3) := by decide +kernel
theorem d3_14 : decode method_3_code 14 = .ok (.iconst 2, 1) := by decide +kernel
theorem d3_15 : decode method_3_code 15 = .ok (.goto 4, 3) := by decide +kernel
theorem d3_18 : decode method_3_code 18 = .ok (.iconst 3, 1) := by decide +kernel
theorem d3_19 : decode method_3_code 19 = .ok (.istore 4, 2) := by decide +kernel
theorem d3_21 : decode method_3_code 21 = .ok (.iload 4, 2) := by decide +kernel
theorem d3_23 : decode method_3_code 23 = .ok (.iload_n 3, 1) := by decide +kernel
theorem d3_24 : decode method_3_code 24 = .ok (.invokestatic 7, 3) := by decide +kernel
theorem d3_27 : decode method_3_code 27 = .ok (.ireturn, 1) := by decide +kernel
theorem pn_com_example_tidewalk_tidewalk_problems_RunMeasuresBestErrorBeforeChangePinLaw : plainName "com/example/tidewalk/tidewalk/problems/RunMeasuresBestErrorBeforeChangePinLaw" = true := by first | (simp [plainName, overriddenIn]; done) | decide +kernel
theorem ef_sl (m : MethodId) (x0 : Int32) (x1 : Int32) (x2 : Int32) (x3 : Int32) : entryFrame m #[(.int x0), (.int x1), (.int x2), (.int x3)] 5 = mkF m 0 #[.val (.int x0), .val (.int x1), .val (.int x2), .val (.int x3), .unset] [] := by first | (simp [entryFrame, mkF, argsToLocals, Value.category]; done) | rfl
def Qsl (Z : State) (p1 : Int32) (p2 : Int32) (p3 : Int32) (p4 : Int32) (h0 : Heap) (n0 : Nat) (v : Option Value) (h : Heap) (L : List Loc) : Prop := v = some (.int (own_sl p1 p2 p3 p4)) ∧ Fr n0 L ∧ h = h0
abbrev Gsl (Z : State) (p1 : Int32) (p2 : Int32) (p3 : Int32) (p4 : Int32) (h0 : Heap) (n0 : Nat) (s : State) : Outcome → State → Prop := fun o U' => ∃ v L, o = .returned v ∧ Qsl Z p1 p2 p3 p4 h0 n0 v U'.heap L ∧ FrameEnd s o U' L ({ frames := 1, cells := 0, slots := 0, locals := 16 } : Room).cells ({ frames := 1, cells := 0, slots := 0, locals := 16 } : Room).slots
theorem pd__28_II_29_I : parseMethodDescriptor "(II)I" = some ⟨[.int, .int], some .int⟩ := by decide +kernel
set_option maxRecDepth 65536 in
set_option maxHeartbeats 40000000 in
theorem rmsl (l : Launch) (Z : State) (a0 : Array Value) (hw : ∀ d ∈ tables_1, d.before a0 Z = true) (ws : List Jvm.Cond) (p1 : Int32) (p2 : Int32) (p3 : Int32) (p4 : Int32) (h0 : Heap) (n0 : Nat) (Z0 : n0 ≤ h0.size)  :
    MetFree l (⟨"com/example/tidewalk/tidewalk/problems/RunMeasuresBestErrorBeforeChangePinLaw", "slot", "(IIII)I"⟩ : MethodName) (head1 (Jvm.Cond.code (⟨"com/example/tidewalk/tidewalk/problems/RunMeasuresBestErrorBeforeChangePinLaw", "slot", "(IIII)I"⟩ : MethodName) method_3_code 5 (some .int) :: ws) ({ frames := 1, cells := 0, slots := 0, locals := 16 } : Room)) (fun a U => a = #[(.int p1), (.int p2), (.int p3), (.int p4)] ∧ Z.Warmed39 U.vm ∧ U.heap = h0) (fun _ _ _ _ _ => True) (fun _ U o U' => ∃ v L, o = .returned v ∧ Qsl Z p1 p2 p3 p4 h0 n0 v U'.heap L ∧ FrameEnd U o U' L ({ frames := 1, cells := 0, slots := 0, locals := 16 } : Room).cells ({ frames := 1, cells := 0, slots := 0, locals := 16 } : Room).slots) := by
  refine MetFree.of_bodySF (plainFor_of_name pn_com_example_tidewalk_tidewalk_problems_RunMeasuresBestErrorBeforeChangePinLaw) hisR ?_
  intro p e s m args below meth c s₁ Bd hml0 hP hK
  obtain ⟨rfl, hZ, hh⟩ := hP
  have hx := Bd.exec
  have hby := Bd.bytes
  have hml : c.maxLocals = 5 := hml0
  have hown : s.vm.findClass "com/example/tidewalk/tidewalk/problems/RunMeasuresBestErrorBeforeChangePinLaw" = some m.cls := findClass_of_methodNamed Bd.named
  have hnm := (name_of_methodNamed Bd.named Bd.method).1
  have X0 : Stand p l e ({ frames := 1, cells := 0, slots := 0, locals := 16 } : Room) s m #[(.int p1), (.int p2), (.int p3), (.int p4)] below meth c s₁ [] 0 0 := Stand.of_body Bd
  have e0 : s₁.heap = h0 := by rw [← hh, Bd.state]; rfl
  have es0 : s.heap = h0 := hh
  have N0 := Fr.nil n0
  show own_Fin p e below (Gsl Z p1 p2 p3 p4 h0 n0 s) (s₁.setTop (entryFrame m #[(.int p1), (.int p2), (.int p3), (.int p4)] 5))
  rw [ef_sl m p1 p2 p3 p4]
  refine own_go (XS.iloadN X0.here hx rfl (hb hby d3_0) rfl (Steps.refl _)) ?_
  show own_Fin _ _ _ _ (s₁.setTop (mkF m 1 #[iv p1, iv p2, iv p3, iv p4, .unset] [(.int p1)]))
  refine own_go (XS.iloadN X0.here hx rfl (hb hby d3_1) rfl (Steps.refl _)) ?_
  show own_Fin _ _ _ _ (s₁.setTop (mkF m 2 #[iv p1, iv p2, iv p3, iv p4, .unset] [(.int p2), (.int p1)]))
  by_cases c2_7 : p1 < p2
  · refine own_go (XS.icmpNo X0.here hx rfl (hb hby d3_2) rfl (tlt c2_7).2.1 (Steps.refl _)) ?_
    show own_Fin _ _ _ _ (s₁.setTop (mkF m 5 #[iv p1, iv p2, iv p3, iv p4, .unset] []))
    refine own_go (XS.iconst X0.here hx rfl (hb hby d3_5) (Steps.refl _)) ?_
    show own_Fin _ _ _ _ (s₁.setTop (mkF m 6 #[iv p1, iv p2, iv p3, iv p4, .unset] [(.int (1 : Int32))]))
    refine own_go (XS.goto X0.here hx rfl (pc0 := 6) (pc' := 19) rfl (hb hby d3_6) (by decide) (by decide) (Steps.refl _)) ?_
    show own_Fin _ _ _ _ (s₁.setTop (mkF m 19 #[iv p1, iv p2, iv p3, iv p4, .unset] [(.int (1 : Int32))]))
    refine own_go (XS.istore X0.here hx rfl (hb hby d3_19) rfl rfl (Steps.refl _)) ?_
    show own_Fin _ _ _ _ (s₁.setTop (mkF m 21 #[iv p1, iv p2, iv p3, iv p4, iv (1 : Int32)] []))
    refine own_go (XS.iload X0.here hx rfl (hb hby d3_21) rfl (Steps.refl _)) ?_
    show own_Fin _ _ _ _ (s₁.setTop (mkF m 23 #[iv p1, iv p2, iv p3, iv p4, iv (1 : Int32)] [(.int (1 : Int32))]))
    refine own_go (XS.iloadN X0.here hx rfl (hb hby d3_23) rfl (Steps.refl _)) ?_
    show own_Fin _ _ _ _ (s₁.setTop (mkF m 24 #[iv p1, iv p2, iv p3, iv p4, iv (1 : Int32)] [(.int p4), (.int (1 : Int32))]))
    obtain ⟨_, _, ⟨T8, L8, k8, n8⟩, -, X8, ⟨Lc8, hQ8, l8, y8, z8⟩, st8⟩ := Jvm.LawKit.callS X0 hx (y := (⟨"java/lang/Math", "min", "(II)I"⟩ : MethodName)) hown (mvT hZ (hw _ (List.mem_of_getElem? (i := 0) rfl))) (mvT hZ (hw _ (List.mem_of_getElem? (i := 1) rfl))) (mvT hZ (hw _ (List.mem_of_getElem? (i := 2) rfl))) (mvT hZ (hw _ (List.mem_of_getElem? (i := 3) rfl))) (by decide) (backOf (W := 0) (rmmi l Z a0 hw [] (1 : Int32) p4 h0 n0 Z0) hZ (hw _ (List.mem_of_getElem? (i := 3) rfl)) (hw _ (List.mem_of_getElem? (i := 2) rfl)) (by decide) (by decide)) (g := (mkF m 24 #[iv p1, iv p2, iv p3, iv p4, iv (1 : Int32)] [(.int p4), (.int (1 : Int32))])) rfl (by rw [hml]; rfl) (argsL := [(.int (1 : Int32)), (.int p4)]) (rest := []) (lenOf pd__28_II_29_I rfl) rfl (by show 2 * 0 + _ ≤ _; exact Nat.le_of_eq rfl) (hb hby d3_24) (fun _ hv => ⟨rfl, e0, (by decide : 0 + 0 ≤ _), (by decide : 0 + 0 ≤ _)⟩)
    dsimp only [Pt.U, Pt.locs, Pt.cells, Pt.slots] at X8 l8 y8 z8 st8 hQ8
    subst l8 y8 z8
    obtain ⟨rfl, Nq8, e8⟩ := hQ8
    refine own_by st8 ?_
    have N8 := Fr.app N0 Nq8
    show own_Fin _ _ _ _ (T8.setTop (mkF m 27 #[iv p1, iv p2, iv p3, iv p4, iv (1 : Int32)] [(.int (own_mn (1 : Int32) p4))]))
    obtain ⟨fs9, hr9, hrun9, hended9, hW9, hsame9⟩ := X8.leave (v := some (.int (own_mn (1 : Int32) p4))) (fun h => by rw [Bd.returns] at h; cases h)
    refine own_done (own_retI X8 hx Bd.returns (hb hby d3_27) hr9) hrun9 hended9 ⟨_, _, rfl, ?_, ⟨_, rfl⟩, hW9, hsame9.mono (by decide) (by decide)⟩
    show Qsl Z p1 p2 p3 p4 h0 n0 _ T8.heap _
    rw [e8]
    exact ⟨(by simp [own_sl, c2_7]), N8, rfl⟩
  · refine own_go (XS.icmpYes X0.here hx rfl (pc0 := 2) (pc' := 9) rfl (hb hby d3_2) rfl (flt c2_7).2.1 (by decide) (by decide) (Steps.refl _)) ?_
    show own_Fin _ _ _ _ (s₁.setTop (mkF m 9 #[iv p1, iv p2, iv p3, iv p4, .unset] []))
    refine own_go (XS.iloadN X0.here hx rfl (hb hby d3_9) rfl (Steps.refl _)) ?_
    show own_Fin _ _ _ _ (s₁.setTop (mkF m 10 #[iv p1, iv p2, iv p3, iv p4, .unset] [(.int p1)]))
    refine own_go (XS.iloadN X0.here hx rfl (hb hby d3_10) rfl (Steps.refl _)) ?_
    show own_Fin _ _ _ _ (s₁.setTop (mkF m 11 #[iv p1, iv p2, iv p3, iv p4, .unset] [(.int p3), (.int p1)]))
    by_cases c11_10 : p1 < p3
    · refine own_go (XS.icmpNo X0.here hx rfl (hb hby d3_11) rfl (tlt c11_10).2.1 (Steps.refl _)) ?_
      show own_Fin _ _ _ _ (s₁.setTop (mkF m 14 #[iv p1, iv p2, iv p3, iv p4, .unset] []))
      refine own_go (XS.iconst X0.here hx rfl (hb hby d3_14) (Steps.refl _)) ?_
      show own_Fin _ _ _ _ (s₁.setTop (mkF m 15 #[iv p1, iv p2, iv p3, iv p4, .unset] [(.int (2 : Int32))]))
      refine own_go (XS.goto X0.here hx rfl (pc0 := 15) (pc' := 19) rfl (hb hby d3_15) (by decide) (by decide) (Steps.refl _)) ?_
      show own_Fin _ _ _ _ (s₁.setTop (mkF m 19 #[iv p1, iv p2, iv p3, iv p4, .unset] [(.int (2 : Int32))]))
      refine own_go (XS.istore X0.here hx rfl (hb hby d3_19) rfl rfl (Steps.refl _)) ?_
      show own_Fin _ _ _ _ (s₁.setTop (mkF m 21 #[iv p1, iv p2, iv p3, iv p4, iv (2 : Int32)] []))
      refine own_go (XS.iload X0.here hx rfl (hb hby d3_21) rfl (Steps.refl _)) ?_
      show own_Fin _ _ _ _ (s₁.setTop (mkF m 23 #[iv p1, iv p2, iv p3, iv p4, iv (2 : Int32)] [(.int (2 : Int32))]))
      refine own_go (XS.iloadN X0.here hx rfl (hb hby d3_23) rfl (Steps.refl _)) ?_
      show own_Fin _ _ _ _ (s₁.setTop (mkF m 24 #[iv p1, iv p2, iv p3, iv p4, iv (2 : Int32)] [(.int p4), (.int (2 : Int32))]))
      obtain ⟨_, _, ⟨T11, L11, k11, n11⟩, -, X11, ⟨Lc11, hQ11, l11, y11, z11⟩, st11⟩ := Jvm.LawKit.callS X0 hx (y := (⟨"java/lang/Math", "min", "(II)I"⟩ : MethodName)) hown (mvT hZ (hw _ (List.mem_of_getElem? (i := 0) rfl))) (mvT hZ (hw _ (List.mem_of_getElem? (i := 1) rfl))) (mvT hZ (hw _ (List.mem_of_getElem? (i := 2) rfl))) (mvT hZ (hw _ (List.mem_of_getElem? (i := 3) rfl))) (by decide) (backOf (W := 0) (rmmi l Z a0 hw [] (2 : Int32) p4 h0 n0 Z0) hZ (hw _ (List.mem_of_getElem? (i := 3) rfl)) (hw _ (List.mem_of_getElem? (i := 2) rfl)) (by decide) (by decide)) (g := (mkF m 24 #[iv p1, iv p2, iv p3, iv p4, iv (2 : Int32)] [(.int p4), (.int (2 : Int32))])) rfl (by rw [hml]; rfl) (argsL := [(.int (2 : Int32)), (.int p4)]) (rest := []) (lenOf pd__28_II_29_I rfl) rfl (by show 2 * 0 + _ ≤ _; exact Nat.le_of_eq rfl) (hb hby d3_24) (fun _ hv => ⟨rfl, e0, (by decide : 0 + 0 ≤ _), (by decide : 0 + 0 ≤ _)⟩)
      dsimp only [Pt.U, Pt.locs, Pt.cells, Pt.slots] at X11 l11 y11 z11 st11 hQ11
      subst l11 y11 z11
      obtain ⟨rfl, Nq11, e11⟩ := hQ11
      refine own_by st11 ?_
      have N11 := Fr.app N0 Nq11
      show own_Fin _ _ _ _ (T11.setTop (mkF m 27 #[iv p1, iv p2, iv p3, iv p4, iv (2 : Int32)] [(.int (own_mn (2 : Int32) p4))]))
      obtain ⟨fs12, hr12, hrun12, hended12, hW12, hsame12⟩ := X11.leave (v := some (.int (own_mn (2 : Int32) p4))) (fun h => by rw [Bd.returns] at h; cases h)
      refine own_done (own_retI X11 hx Bd.returns (hb hby d3_27) hr12) hrun12 hended12 ⟨_, _, rfl, ?_, ⟨_, rfl⟩, hW12, hsame12.mono (by decide) (by decide)⟩
      show Qsl Z p1 p2 p3 p4 h0 n0 _ T11.heap _
      rw [e11]
      exact ⟨(by simp [own_sl, c2_7, c11_10]), N11, rfl⟩
    · refine own_go (XS.icmpYes X0.here hx rfl (pc0 := 11) (pc' := 18) rfl (hb hby d3_11) rfl (flt c11_10).2.1 (by decide) (by decide) (Steps.refl _)) ?_
      show own_Fin _ _ _ _ (s₁.setTop (mkF m 18 #[iv p1, iv p2, iv p3, iv p4, .unset] []))
      refine own_go (XS.iconst X0.here hx rfl (hb hby d3_18) (Steps.refl _)) ?_
      show own_Fin _ _ _ _ (s₁.setTop (mkF m 19 #[iv p1, iv p2, iv p3, iv p4, .unset] [(.int (3 : Int32))]))
      refine own_go (XS.istore X0.here hx rfl (hb hby d3_19) rfl rfl (Steps.refl _)) ?_
      show own_Fin _ _ _ _ (s₁.setTop (mkF m 21 #[iv p1, iv p2, iv p3, iv p4, iv (3 : Int32)] []))
      refine own_go (XS.iload X0.here hx rfl (hb hby d3_21) rfl (Steps.refl _)) ?_
      show own_Fin _ _ _ _ (s₁.setTop (mkF m 23 #[iv p1, iv p2, iv p3, iv p4, iv (3 : Int32)] [(.int (3 : Int32))]))
      refine own_go (XS.iloadN X0.here hx rfl (hb hby d3_23) rfl (Steps.refl _)) ?_
      show own_Fin _ _ _ _ (s₁.setTop (mkF m 24 #[iv p1, iv p2, iv p3, iv p4, iv (3 : Int32)] [(.int p4), (.int (3 : Int32))]))
      obtain ⟨_, _, ⟨T13, L13, k13, n13⟩, -, X13, ⟨Lc13, hQ13, l13, y13, z13⟩, st13⟩ := Jvm.LawKit.callS X0 hx (y := (⟨"java/lang/Math", "min", "(II)I"⟩ : MethodName)) hown (mvT hZ (hw _ (List.mem_of_getElem? (i := 0) rfl))) (mvT hZ (hw _ (List.mem_of_getElem? (i := 1) rfl))) (mvT hZ (hw _ (List.mem_of_getElem? (i := 2) rfl))) (mvT hZ (hw _ (List.mem_of_getElem? (i := 3) rfl))) (by decide) (backOf (W := 0) (rmmi l Z a0 hw [] (3 : Int32) p4 h0 n0 Z0) hZ (hw _ (List.mem_of_getElem? (i := 3) rfl)) (hw _ (List.mem_of_getElem? (i := 2) rfl)) (by decide) (by decide)) (g := (mkF m 24 #[iv p1, iv p2, iv p3, iv p4, iv (3 : Int32)] [(.int p4), (.int (3 : Int32))])) rfl (by rw [hml]; rfl) (argsL := [(.int (3 : Int32)), (.int p4)]) (rest := []) (lenOf pd__28_II_29_I rfl) rfl (by show 2 * 0 + _ ≤ _; exact Nat.le_of_eq rfl) (hb hby d3_24) (fun _ hv => ⟨rfl, e0, (by decide : 0 + 0 ≤ _), (by decide : 0 + 0 ≤ _)⟩)
      dsimp only [Pt.U, Pt.locs, Pt.cells, Pt.slots] at X13 l13 y13 z13 st13 hQ13
      subst l13 y13 z13
      obtain ⟨rfl, Nq13, e13⟩ := hQ13
      refine own_by st13 ?_
      have N13 := Fr.app N0 Nq13
      show own_Fin _ _ _ _ (T13.setTop (mkF m 27 #[iv p1, iv p2, iv p3, iv p4, iv (3 : Int32)] [(.int (own_mn (3 : Int32) p4))]))
      obtain ⟨fs14, hr14, hrun14, hended14, hW14, hsame14⟩ := X13.leave (v := some (.int (own_mn (3 : Int32) p4))) (fun h => by rw [Bd.returns] at h; cases h)
      refine own_done (own_retI X13 hx Bd.returns (hb hby d3_27) hr14) hrun14 hended14 ⟨_, _, rfl, ?_, ⟨_, rfl⟩, hW14, hsame14.mono (by decide) (by decide)⟩
      show Qsl Z p1 p2 p3 p4 h0 n0 _ T13.heap _
      rw [e13]
      exact ⟨(by simp [own_sl, c2_7, c11_10]), N13, rfl⟩
theorem d4_0 : decode prog_43_method_1_code 0 = .ok (.aload_n 0, 1) := by decide +kernel
theorem d4_1 : decode prog_43_method_1_code 1 = .ok (.invokespecial 1, 3) := by decide +kernel
theorem d4_4 : decode prog_43_method_1_code 4 = .ok (.aload_n 0, 1) := by decide +kernel
theorem d4_5 : decode prog_43_method_1_code 5 = .ok (.ldc2_w 9, 3) := by decide +kernel
theorem d4_8 : decode prog_43_method_1_code 8 = .ok (.putfield 11, 3) := by decide +kernel
theorem d4_11 : decode prog_43_method_1_code 11 = .ok (.aload_n 0, 1) := by decide +kernel
theorem d4_12 : decode prog_43_method_1_code 12 = .ok (.iconst 1, 1) := by decide +kernel
theorem d4_13 : decode prog_43_method_1_code 13 = .ok (.putfield 17, 3) := by decide +kernel
theorem d4_16 : decode prog_43_method_1_code 16 = .ok (.aload_n 0, 1) := by decide +kernel
theorem d4_17 : decode prog_43_method_1_code 17 = .ok (.ldc2_w 21, 3) := by decide +kernel
theorem d4_20 : decode prog_43_method_1_code 20 = .ok (.putfield 23, 3) := by decide +kernel
theorem d4_23 : decode prog_43_method_1_code 23 = .ok (.return_, 1) := by decide +kernel
theorem pn_com_example_tidewalk_tidewalk_problems_RunMeasures : plainName "com/example/tidewalk/tidewalk/problems/RunMeasures" = true := by first | (simp [plainName, overriddenIn]; done) | decide +kernel
theorem ef_ini (m : MethodId) (x0 : Addr) : entryFrame m #[(.ref x0)] 1 = mkF m 0 #[.val (.ref x0)] [] := by first | (simp [entryFrame, mkF, argsToLocals, Value.category]; done) | rfl
def Qini (Z : State) (a1 : Addr) (h0 : Heap) (n0 : Nat) (v : Option Value) (h : Heap) (L : List Loc) : Prop := v = none ∧ Fr n0 L ∧ Keep h0 h [a1] ∧ Exa Z h a1 "com/example/tidewalk/tidewalk/problems/RunMeasures" ∧ Fld Z h a1 "com/example/tidewalk/tidewalk/problems/RunMeasures" "periods" "I" (.int (0 : Int32)) ∧ Fld Z h a1 "com/example/tidewalk/tidewalk/problems/RunMeasures" "closedBestErrorSum" "D" (.double (own_cl (some 0))) ∧ Fld Z h a1 "com/example/tidewalk/tidewalk/problems/RunMeasures" "optimum" "D" (.double (9221120237041090560 : UInt64)) ∧ Fld Z h a1 "com/example/tidewalk/tidewalk/problems/RunMeasures" "best" "D" (.double (own_be none)) ∧ Fld Z h a1 "com/example/tidewalk/tidewalk/problems/RunMeasures" "optimumKnown" "Z" (.int (1 : Int32)) ∧ Fld Z h a1 "com/example/tidewalk/tidewalk/problems/RunMeasures" "evaluations" "J" (.long (0 : Int64)) ∧ Fld Z h a1 "com/example/tidewalk/tidewalk/problems/RunMeasures" "performanceSum" "D" (.double (0 : UInt64)) ∧ Fld Z h a1 "com/example/tidewalk/tidewalk/problems/RunMeasures" "errorSum" "D" (.double (0 : UInt64)) ∧ Fld Z h a1 "com/example/tidewalk/tidewalk/problems/RunMeasures" "optimumSum" "D" (.double (0 : UInt64))
abbrev Gini (Z : State) (a1 : Addr) (h0 : Heap) (n0 : Nat) (s : State) : Outcome → State → Prop := fun o U' => ∃ v L, o = .returned v ∧ Qini Z a1 h0 n0 v U'.heap L ∧ FrameEnd s o U' L ({ frames := 1, cells := 0, slots := 0, locals := 16 } : Room).cells ({ frames := 1, cells := 0, slots := 0, locals := 16 } : Room).slots
set_option maxRecDepth 65536 in
set_option maxHeartbeats 40000000 in
theorem rmini (l : Launch) (Z : State) (a0 : Array Value) (hw : ∀ d ∈ tables_1, d.before a0 Z = true) (ws : List Jvm.Cond) (a1 : Addr) (h0 : Heap) (n0 : Nat) (Z0 : n0 ≤ h0.size) (E_a1 : Exa Z h0 a1 "com/example/tidewalk/tidewalk/problems/RunMeasures") (F_periods_a1 : Fld Z h0 a1 "com/example/tidewalk/tidewalk/problems/RunMeasures" "periods" "I" (.int (0 : Int32))) (F_closedBestErrorSum_a1 : Fld Z h0 a1 "com/example/tidewalk/tidewalk/problems/RunMeasures" "closedBestErrorSum" "D" (.double (0 : UInt64))) (F_optimum_a1 : Fld Z h0 a1 "com/example/tidewalk/tidewalk/problems/RunMeasures" "optimum" "D" (.double (0 : UInt64))) (F_best_a1 : Fld Z h0 a1 "com/example/tidewalk/tidewalk/problems/RunMeasures" "best" "D" (.double (0 : UInt64))) (F_optimumKnown_a1 : Fld Z h0 a1 "com/example/tidewalk/tidewalk/problems/RunMeasures" "optimumKnown" "Z" (.int (0 : Int32))) (F_evaluations_a1 : Fld Z h0 a1 "com/example/tidewalk/tidewalk/problems/RunMeasures" "evaluations" "J" (.long (0 : Int64))) (F_performanceSum_a1 : Fld Z h0 a1 "com/example/tidewalk/tidewalk/problems/RunMeasures" "performanceSum" "D" (.double (0 : UInt64))) (F_errorSum_a1 : Fld Z h0 a1 "com/example/tidewalk/tidewalk/problems/RunMeasures" "errorSum" "D" (.double (0 : UInt64))) (F_optimumSum_a1 : Fld Z h0 a1 "com/example/tidewalk/tidewalk/problems/RunMeasures" "optimumSum" "D" (.double (0 : UInt64))) (g_a1 : n0 ≤ a1) :
    MetFree l (⟨"com/example/tidewalk/tidewalk/problems/RunMeasures", "<init>", "()V"⟩ : MethodName) (head1 (Jvm.Cond.code (⟨"com/example/tidewalk/tidewalk/problems/RunMeasures", "<init>", "()V"⟩ : MethodName) prog_43_method_1_code 1 none :: ws) ({ frames := 1, cells := 0, slots := 0, locals := 16 } : Room)) (fun a U => a = #[(.ref a1)] ∧ Z.Warmed39 U.vm ∧ U.heap = h0) (fun _ _ _ _ _ => True) (fun _ U o U' => ∃ v L, o = .returned v ∧ Qini Z a1 h0 n0 v U'.heap L ∧ FrameEnd U o U' L ({ frames := 1, cells := 0, slots := 0, locals := 16 } : Room).cells ({ frames := 1, cells := 0, slots := 0, locals := 16 } : Room).slots) := by
  refine MetFree.of_bodySF (plainFor_of_name pn_com_example_tidewalk_tidewalk_problems_RunMeasures) hisR ?_
  intro p e s m args below meth c s₁ Bd hml0 hP hK
  obtain ⟨rfl, hZ, hh⟩ := hP
  have hx := Bd.exec
  have hby := Bd.bytes
  have hml : c.maxLocals = 1 := hml0
  have hown : s.vm.findClass "com/example/tidewalk/tidewalk/problems/RunMeasures" = some m.cls := findClass_of_methodNamed Bd.named
  have hnm := (name_of_methodNamed Bd.named Bd.method).1
  have X0 : Stand p l e ({ frames := 1, cells := 0, slots := 0, locals := 16 } : Room) s m #[(.ref a1)] below meth c s₁ [] 0 0 := Stand.of_body Bd
  have e0 : s₁.heap = h0 := by rw [← hh, Bd.state]; rfl
  have es0 : s.heap = h0 := hh
  have N0 := Fr.nil n0
  show own_Fin p e below (Gini Z a1 h0 n0 s) (s₁.setTop (entryFrame m #[(.ref a1)] 1))
  rw [ef_ini m a1]
  have Kz := Keep.refl h0 [a1]
  refine own_go (XS.aloadN X0.here hx rfl (hb hby d4_0) rfl rfl (Steps.refl _)) ?_
  show own_Fin _ _ _ _ (s₁.setTop (mkF m 1 #[rv a1] [(.ref a1)]))
  obtain ⟨T15, X15, e15, st15⟩ := initO X0 hx hZ hown (hw _ (List.mem_of_getElem? (i := 17) rfl)) (hw _ (List.mem_of_getElem? (i := 18) rfl)) (hw _ (List.mem_of_getElem? (i := 19) rfl)) e0 (g := (mkF m 1 #[rv a1] [(.ref a1)])) rfl (by rw [hml]; rfl) rfl (hb hby d4_1) (by decide) (W := 0) (by show 2 * 0 + _ ≤ _; exact Nat.le_of_eq rfl) (by decide)
  refine own_by st15 ?_
  show own_Fin _ _ _ _ (T15.setTop (mkF m 4 #[rv a1] []))
  refine own_go (XS.aloadN X15.here hx rfl (hb hby d4_4) rfl rfl (Steps.refl _)) ?_
  show own_Fin _ _ _ _ (T15.setTop (mkF m 5 #[rv a1] [(.ref a1)]))
  refine own_by (X15.ldc2DoubleC hx hown (mvT hZ (hw _ (List.mem_of_getElem? (i := 20) rfl))) (g := (mkF m 5 #[rv a1] [(.ref a1)])) rfl (hb hby d4_5)) ?_
  show own_Fin _ _ _ _ (T15.setTop (mkF m 8 #[rv a1] [(.double (9221120237041090560 : UInt64)), (.ref a1)]))
  obtain ⟨T16, h16, X16, e16, W16, st16⟩ := putF X15 hx hZ hown (host := "") (Or.inl (hw _ (List.mem_of_getElem? (i := 21) rfl))) Via.refl e15 F_optimum_a1 E_a1 (Or.inl (hw _ (List.mem_of_getElem? (i := 22) rfl))) (hw _ (List.mem_of_getElem? (i := 12) rfl)) (ty := .double) (by decide) rfl rfl (g := (mkF m 8 #[rv a1] [(.double (9221120237041090560 : UInt64)), (.ref a1)])) rfl rfl (hb hby d4_8)
  refine own_by st16 ?_
  have F_optimum_a1_16 := F_optimum_a1.same W16
  have E_a1_16 := E_a1.wr W16
  have F_periods_a1_16 := F_periods_a1.other W16 (Or.inr (slot_ne (Or.inl (hw _ (List.mem_of_getElem? (i := 37) rfl))) (Or.inl (hw _ (List.mem_of_getElem? (i := 22) rfl))) (by decide) (t := .int) (t' := .double) (by decide) (by decide)))
  have F_closedBestErrorSum_a1_16 := F_closedBestErrorSum_a1.other W16 (Or.inr (slot_ne (Or.inl (hw _ (List.mem_of_getElem? (i := 71) rfl))) (Or.inl (hw _ (List.mem_of_getElem? (i := 22) rfl))) (by decide) (t := .double) (t' := .double) (by decide) (by decide)))
  have F_best_a1_16 := F_best_a1.other W16 (Or.inr (slot_ne (Or.inl (hw _ (List.mem_of_getElem? (i := 27) rfl))) (Or.inl (hw _ (List.mem_of_getElem? (i := 22) rfl))) (by decide) (t := .double) (t' := .double) (by decide) (by decide)))
  have F_optimumKnown_a1_16 := F_optimumKnown_a1.other W16 (Or.inr (slot_ne (Or.inl (hw _ (List.mem_of_getElem? (i := 24) rfl))) (Or.inl (hw _ (List.mem_of_getElem? (i := 22) rfl))) (by decide) (t := .boolean) (t' := .double) (by decide) (by decide)))
  have F_evaluations_a1_16 := F_evaluations_a1.other W16 (Or.inr (slot_ne (Or.inl (hw _ (List.mem_of_getElem? (i := 55) rfl))) (Or.inl (hw _ (List.mem_of_getElem? (i := 22) rfl))) (by decide) (t := .long) (t' := .double) (by decide) (by decide)))
  have F_performanceSum_a1_16 := F_performanceSum_a1.other W16 (Or.inr (slot_ne (Or.inl (hw _ (List.mem_of_getElem? (i := 60) rfl))) (Or.inl (hw _ (List.mem_of_getElem? (i := 22) rfl))) (by decide) (t := .double) (t' := .double) (by decide) (by decide)))
  have F_errorSum_a1_16 := F_errorSum_a1.other W16 (Or.inr (slot_ne (Or.inl (hw _ (List.mem_of_getElem? (i := 62) rfl))) (Or.inl (hw _ (List.mem_of_getElem? (i := 22) rfl))) (by decide) (t := .double) (t' := .double) (by decide) (by decide)))
  have F_optimumSum_a1_16 := F_optimumSum_a1.other W16 (Or.inr (slot_ne (Or.inl (hw _ (List.mem_of_getElem? (i := 64) rfl))) (Or.inl (hw _ (List.mem_of_getElem? (i := 22) rfl))) (by decide) (t := .double) (t' := .double) (by decide) (by decide)))
  have N16 := Fr.snoc X16 N0 g_a1
  have Z16 : n0 ≤ h16.size := Nat.le_trans Z0 (Keep.of_wr W16).1
  have K16 := Kz.wr W16 (Or.inl (List.mem_of_getElem? (i := 0) rfl))
  show own_Fin _ _ _ _ (T16.setTop (mkF m 11 #[rv a1] []))
  refine own_go (XS.aloadN X16.here hx rfl (hb hby d4_11) rfl rfl (Steps.refl _)) ?_
  show own_Fin _ _ _ _ (T16.setTop (mkF m 12 #[rv a1] [(.ref a1)]))
  refine own_go (XS.iconst X16.here hx rfl (hb hby d4_12) (Steps.refl _)) ?_
  show own_Fin _ _ _ _ (T16.setTop (mkF m 13 #[rv a1] [(.int (1 : Int32)), (.ref a1)]))
  obtain ⟨T17, h17, X17, e17, W17, st17⟩ := putFN X16 hx hZ hown (hw _ (List.mem_of_getElem? (i := 23) rfl)) Via.refl e16 F_optimumKnown_a1_16 E_a1_16 (Or.inl (hw _ (List.mem_of_getElem? (i := 24) rfl))) (hw _ (List.mem_of_getElem? (i := 12) rfl)) (ty := .boolean) (v' := (.int (nar .boolean (1 : Int32)))) (by decide) rfl (fits_nar_bool _) (g := (mkF m 13 #[rv a1] [(.int (1 : Int32)), (.ref a1)])) rfl rfl (hb hby d4_13)
  refine own_by st17 ?_
  have F_optimumKnown_a1_17 := F_optimumKnown_a1_16.same W17
  have E_a1_17 := E_a1_16.wr W17
  have F_periods_a1_17 := F_periods_a1_16.other W17 (Or.inr (slot_ne (Or.inl (hw _ (List.mem_of_getElem? (i := 37) rfl))) (Or.inl (hw _ (List.mem_of_getElem? (i := 24) rfl))) (by decide) (t := .int) (t' := .boolean) (by decide) (by decide)))
  have F_closedBestErrorSum_a1_17 := F_closedBestErrorSum_a1_16.other W17 (Or.inr (slot_ne (Or.inl (hw _ (List.mem_of_getElem? (i := 71) rfl))) (Or.inl (hw _ (List.mem_of_getElem? (i := 24) rfl))) (by decide) (t := .double) (t' := .boolean) (by decide) (by decide)))
  have F_optimum_a1_17 := F_optimum_a1_16.other W17 (Or.inr (slot_ne (Or.inl (hw _ (List.mem_of_getElem? (i := 22) rfl))) (Or.inl (hw _ (List.mem_of_getElem? (i := 24) rfl))) (by decide) (t := .double) (t' := .boolean) (by decide) (by decide)))
  have F_best_a1_17 := F_best_a1_16.other W17 (Or.inr (slot_ne (Or.inl (hw _ (List.mem_of_getElem? (i := 27) rfl))) (Or.inl (hw _ (List.mem_of_getElem? (i := 24) rfl))) (by decide) (t := .double) (t' := .boolean) (by decide) (by decide)))
  have F_evaluations_a1_17 := F_evaluations_a1_16.other W17 (Or.inr (slot_ne (Or.inl (hw _ (List.mem_of_getElem? (i := 55) rfl))) (Or.inl (hw _ (List.mem_of_getElem? (i := 24) rfl))) (by decide) (t := .long) (t' := .boolean) (by decide) (by decide)))
  have F_performanceSum_a1_17 := F_performanceSum_a1_16.other W17 (Or.inr (slot_ne (Or.inl (hw _ (List.mem_of_getElem? (i := 60) rfl))) (Or.inl (hw _ (List.mem_of_getElem? (i := 24) rfl))) (by decide) (t := .double) (t' := .boolean) (by decide) (by decide)))
  have F_errorSum_a1_17 := F_errorSum_a1_16.other W17 (Or.inr (slot_ne (Or.inl (hw _ (List.mem_of_getElem? (i := 62) rfl))) (Or.inl (hw _ (List.mem_of_getElem? (i := 24) rfl))) (by decide) (t := .double) (t' := .boolean) (by decide) (by decide)))
  have F_optimumSum_a1_17 := F_optimumSum_a1_16.other W17 (Or.inr (slot_ne (Or.inl (hw _ (List.mem_of_getElem? (i := 64) rfl))) (Or.inl (hw _ (List.mem_of_getElem? (i := 24) rfl))) (by decide) (t := .double) (t' := .boolean) (by decide) (by decide)))
  have N17 := Fr.snoc X17 N16 g_a1
  have Z17 : n0 ≤ h17.size := Nat.le_trans Z16 (Keep.of_wr W17).1
  have K17 := K16.wr W17 (Or.inl (List.mem_of_getElem? (i := 0) rfl))
  show own_Fin _ _ _ _ (T17.setTop (mkF m 16 #[rv a1] []))
  refine own_go (XS.aloadN X17.here hx rfl (hb hby d4_16) rfl rfl (Steps.refl _)) ?_
  show own_Fin _ _ _ _ (T17.setTop (mkF m 17 #[rv a1] [(.ref a1)]))
  refine own_by (X17.ldc2DoubleC hx hown (mvT hZ (hw _ (List.mem_of_getElem? (i := 25) rfl))) (g := (mkF m 17 #[rv a1] [(.ref a1)])) rfl (hb hby d4_17)) ?_
  show own_Fin _ _ _ _ (T17.setTop (mkF m 20 #[rv a1] [(.double (18442240474082181120 : UInt64)), (.ref a1)]))
  obtain ⟨T18, h18, X18, e18, W18, st18⟩ := putF X17 hx hZ hown (host := "") (Or.inl (hw _ (List.mem_of_getElem? (i := 26) rfl))) Via.refl e17 F_best_a1_17 E_a1_17 (Or.inl (hw _ (List.mem_of_getElem? (i := 27) rfl))) (hw _ (List.mem_of_getElem? (i := 12) rfl)) (ty := .double) (by decide) rfl rfl (g := (mkF m 20 #[rv a1] [(.double (18442240474082181120 : UInt64)), (.ref a1)])) rfl rfl (hb hby d4_20)
  refine own_by st18 ?_
  have F_best_a1_18 := F_best_a1_17.same W18
  have E_a1_18 := E_a1_17.wr W18
  have F_periods_a1_18 := F_periods_a1_17.other W18 (Or.inr (slot_ne (Or.inl (hw _ (List.mem_of_getElem? (i := 37) rfl))) (Or.inl (hw _ (List.mem_of_getElem? (i := 27) rfl))) (by decide) (t := .int) (t' := .double) (by decide) (by decide)))
  have F_closedBestErrorSum_a1_18 := F_closedBestErrorSum_a1_17.other W18 (Or.inr (slot_ne (Or.inl (hw _ (List.mem_of_getElem? (i := 71) rfl))) (Or.inl (hw _ (List.mem_of_getElem? (i := 27) rfl))) (by decide) (t := .double) (t' := .double) (by decide) (by decide)))
  have F_optimum_a1_18 := F_optimum_a1_17.other W18 (Or.inr (slot_ne (Or.inl (hw _ (List.mem_of_getElem? (i := 22) rfl))) (Or.inl (hw _ (List.mem_of_getElem? (i := 27) rfl))) (by decide) (t := .double) (t' := .double) (by decide) (by decide)))
  have F_optimumKnown_a1_18 := F_optimumKnown_a1_17.other W18 (Or.inr (slot_ne (Or.inl (hw _ (List.mem_of_getElem? (i := 24) rfl))) (Or.inl (hw _ (List.mem_of_getElem? (i := 27) rfl))) (by decide) (t := .boolean) (t' := .double) (by decide) (by decide)))
  have F_evaluations_a1_18 := F_evaluations_a1_17.other W18 (Or.inr (slot_ne (Or.inl (hw _ (List.mem_of_getElem? (i := 55) rfl))) (Or.inl (hw _ (List.mem_of_getElem? (i := 27) rfl))) (by decide) (t := .long) (t' := .double) (by decide) (by decide)))
  have F_performanceSum_a1_18 := F_performanceSum_a1_17.other W18 (Or.inr (slot_ne (Or.inl (hw _ (List.mem_of_getElem? (i := 60) rfl))) (Or.inl (hw _ (List.mem_of_getElem? (i := 27) rfl))) (by decide) (t := .double) (t' := .double) (by decide) (by decide)))
  have F_errorSum_a1_18 := F_errorSum_a1_17.other W18 (Or.inr (slot_ne (Or.inl (hw _ (List.mem_of_getElem? (i := 62) rfl))) (Or.inl (hw _ (List.mem_of_getElem? (i := 27) rfl))) (by decide) (t := .double) (t' := .double) (by decide) (by decide)))
  have F_optimumSum_a1_18 := F_optimumSum_a1_17.other W18 (Or.inr (slot_ne (Or.inl (hw _ (List.mem_of_getElem? (i := 64) rfl))) (Or.inl (hw _ (List.mem_of_getElem? (i := 27) rfl))) (by decide) (t := .double) (t' := .double) (by decide) (by decide)))
  have N18 := Fr.snoc X18 N17 g_a1
  have Z18 : n0 ≤ h18.size := Nat.le_trans Z17 (Keep.of_wr W18).1
  have K18 := K17.wr W18 (Or.inl (List.mem_of_getElem? (i := 0) rfl))
  show own_Fin _ _ _ _ (T18.setTop (mkF m 23 #[rv a1] []))
  obtain ⟨fs19, hr19, hrun19, hended19, hW19, hsame19⟩ := X18.leave (v := none) (fun _ => rfl)
  refine own_done (X18.returnOut hx Bd.returns (hb hby d4_23) hr19) hrun19 hended19 ⟨_, _, rfl, ?_, ⟨_, rfl⟩, hW19, hsame19.mono (by decide) (by decide)⟩
  show Qini Z a1 h0 n0 _ T18.heap _
  rw [e18]
  exact ⟨rfl, N18, K18, E_a1_18, F_periods_a1_18, (show Fld _ _ _ _ _ _ _ from by rw [show own_cl (some 0) = 0 from l2d_zero]; exact F_closedBestErrorSum_a1_18), F_optimum_a1_18, F_best_a1_18, F_optimumKnown_a1_18, F_evaluations_a1_18, F_performanceSum_a1_18, F_errorSum_a1_18, F_optimumSum_a1_18⟩
theorem d8_0 : decode jdk_117_method_6_code 0 = .ok (.dload_n 0, 1) := by decide +kernel
theorem d8_1 : decode jdk_117_method_6_code 1 = .ok (.dload_n 0, 1) := by decide +kernel
theorem d8_2 : decode jdk_117_method_6_code 2 = .ok (.dcmp .l, 1) := by decide +kernel
theorem d8_3 : decode jdk_117_method_6_code 3 = .ok (.ifCond .eq 7, 3) := by decide +kernel
theorem d8_6 : decode jdk_117_method_6_code 6 = .ok (.iconst 1, 1) := by decide +kernel
theorem d8_7 : decode jdk_117_method_6_code 7 = .ok (.goto 4, 3) := by decide +kernel
theorem d8_10 : decode jdk_117_method_6_code 10 = .ok (.iconst 0, 1) := by decide +kernel
theorem d8_11 : decode jdk_117_method_6_code 11 = .ok (.ireturn, 1) := by decide +kernel
theorem pn_java_lang_Double : plainName "java/lang/Double" = true := by first | (simp [plainName, overriddenIn]; done) | decide +kernel
theorem ef_isn (m : MethodId) (x0 : UInt64) : entryFrame m #[(.double x0)] 2 = mkF m 0 #[.val (.double x0), .second] [] := by first | (simp [entryFrame, mkF, argsToLocals, Value.category]; done) | rfl
def Qisn (Z : State) (d1 : UInt64) (h0 : Heap) (n0 : Nat) (v : Option Value) (h : Heap) (L : List Loc) : Prop := v = some (.int (0 : Int32)) ∧ Fr n0 L ∧ h = h0
abbrev Gisn (Z : State) (d1 : UInt64) (h0 : Heap) (n0 : Nat) (s : State) : Outcome → State → Prop := fun o U' => ∃ v L, o = .returned v ∧ Qisn Z d1 h0 n0 v U'.heap L ∧ FrameEnd s o U' L ({ frames := 0, cells := 0, slots := 0, locals := 0 } : Room).cells ({ frames := 0, cells := 0, slots := 0, locals := 0 } : Room).slots
set_option maxRecDepth 65536 in
set_option maxHeartbeats 40000000 in
theorem rmisn (l : Launch) (Z : State) (a0 : Array Value) (hw : ∀ d ∈ tables_1, d.before a0 Z = true) (ws : List Jvm.Cond) (d1 : UInt64) (h0 : Heap) (n0 : Nat) (Z0 : n0 ≤ h0.size) (hn : NoNaN64 d1) :
    MetFree l (⟨"java/lang/Double", "isNaN", "(D)Z"⟩ : MethodName) (head1 (Jvm.Cond.code (⟨"java/lang/Double", "isNaN", "(D)Z"⟩ : MethodName) jdk_117_method_6_code 2 (some .boolean) :: ws) ({ frames := 0, cells := 0, slots := 0, locals := 0 } : Room)) (fun a U => a = #[(.double d1)] ∧ Z.Warmed39 U.vm ∧ U.heap = h0) (fun _ _ _ _ _ => True) (fun _ U o U' => ∃ v L, o = .returned v ∧ Qisn Z d1 h0 n0 v U'.heap L ∧ FrameEnd U o U' L ({ frames := 0, cells := 0, slots := 0, locals := 0 } : Room).cells ({ frames := 0, cells := 0, slots := 0, locals := 0 } : Room).slots) := by
  refine MetFree.of_bodySF (plainFor_of_name pn_java_lang_Double) hisR ?_
  intro p e s m args below meth c s₁ Bd hml0 hP hK
  obtain ⟨rfl, hZ, hh⟩ := hP
  have hx := Bd.exec
  have hby := Bd.bytes
  have hml : c.maxLocals = 2 := hml0
  have hown : s.vm.findClass "java/lang/Double" = some m.cls := findClass_of_methodNamed Bd.named
  have hnm := (name_of_methodNamed Bd.named Bd.method).1
  have X0 : Stand p l e ({ frames := 0, cells := 0, slots := 0, locals := 0 } : Room) s m #[(.double d1)] below meth c s₁ [] 0 0 := Stand.of_body Bd
  have e0 : s₁.heap = h0 := by rw [← hh, Bd.state]; rfl
  have es0 : s.heap = h0 := hh
  have N0 := Fr.nil n0
  show own_Fin p e below (Gisn Z d1 h0 n0 s) (s₁.setTop (entryFrame m #[(.double d1)] 2))
  rw [ef_isn m d1]
  refine own_go (XS.dloadN X0.here hx rfl (hb hby d8_0) rfl (Steps.refl _)) ?_
  show own_Fin _ _ _ _ (s₁.setTop (mkF m 1 #[.val (.double d1), .second] [(.double d1)]))
  refine own_go (XS.dloadN X0.here hx rfl (hb hby d8_1) rfl (Steps.refl _)) ?_
  show own_Fin _ _ _ _ (s₁.setTop (mkF m 2 #[.val (.double d1), .second] [(.double d1), (.double d1)]))
  refine own_go (XS.dcmpS X0.here hx rfl (hb hby d8_2) rfl (show cmpValue (FP.dcmp d1 d1) .l = (0 : Int32) from (dcmpV_self hn _)) (Steps.refl _)) ?_
  show own_Fin _ _ _ _ (s₁.setTop (mkF m 3 #[.val (.double d1), .second] [(.int (0 : Int32))]))
  refine own_go (XS.ifYes X0.here hx rfl (pc0 := 3) (pc' := 10) rfl (hb hby d8_3) rfl ((if0 _ _).trans (teq (by decide : (0 : Int32) = (0 : Int32))).1) (by decide) (by decide) (Steps.refl _)) ?_
  show own_Fin _ _ _ _ (s₁.setTop (mkF m 10 #[.val (.double d1), .second] []))
  refine own_go (XS.iconst X0.here hx rfl (hb hby d8_10) (Steps.refl _)) ?_
  show own_Fin _ _ _ _ (s₁.setTop (mkF m 11 #[.val (.double d1), .second] [(.int (0 : Int32))]))
  obtain ⟨fs20, hr20, hrun20, hended20, hW20, hsame20⟩ := X0.leave (v := some (.int (0 : Int32))) (fun h => by rw [Bd.returns] at h; cases h)
  refine own_done (retN X0 hx (t := .boolean) Bd.returns (by simp) (hb hby d8_11) hr20) hrun20 hended20 ⟨_, _, rfl, ?_, ⟨_, rfl⟩, hW20, hsame20.mono (by decide) (by decide)⟩
  show Qisn Z d1 h0 n0 _ s₁.heap _
  rw [e0]
  exact ⟨rfl, N0, rfl⟩
theorem d10_0 : decode jdk_117_method_8_code 0 = .ok (.dload_n 0, 1) := by decide +kernel
theorem d10_1 : decode jdk_117_method_8_code 1 = .ok (.invokestatic 38, 3) := by decide +kernel
theorem d10_4 : decode jdk_117_method_8_code 4 = .ok (.ldc2_w 111, 3) := by decide +kernel
theorem d10_7 : decode jdk_117_method_8_code 7 = .ok (.dcmp .g, 1) := by decide +kernel
theorem d10_8 : decode jdk_117_method_8_code 8 = .ok (.ifCond .gt 7, 3) := by decide +kernel
theorem d10_11 : decode jdk_117_method_8_code 11 = .ok (.iconst 1, 1) := by decide +kernel
theorem d10_12 : decode jdk_117_method_8_code 12 = .ok (.goto 4, 3) := by decide +kernel
theorem d10_15 : decode jdk_117_method_8_code 15 = .ok (.iconst 0, 1) := by decide +kernel
theorem d10_16 : decode jdk_117_method_8_code 16 = .ok (.ireturn, 1) := by decide +kernel
theorem ef_isf (m : MethodId) (x0 : UInt64) : entryFrame m #[(.double x0)] 2 = mkF m 0 #[.val (.double x0), .second] [] := by first | (simp [entryFrame, mkF, argsToLocals, Value.category]; done) | rfl
def Qisf (Z : State) (d1 : UInt64) (h0 : Heap) (n0 : Nat) (v : Option Value) (h : Heap) (L : List Loc) : Prop := v = some (.int (1 : Int32)) ∧ Fr n0 L ∧ h = h0
abbrev Gisf (Z : State) (d1 : UInt64) (h0 : Heap) (n0 : Nat) (s : State) : Outcome → State → Prop := fun o U' => ∃ v L, o = .returned v ∧ Qisf Z d1 h0 n0 v U'.heap L ∧ FrameEnd s o U' L ({ frames := 1, cells := 0, slots := 0, locals := 20 } : Room).cells ({ frames := 1, cells := 0, slots := 0, locals := 20 } : Room).slots
theorem pd__28_D_29_D : parseMethodDescriptor "(D)D" = some ⟨[.double], some .double⟩ := by decide +kernel
set_option maxRecDepth 65536 in
set_option maxHeartbeats 40000000 in
theorem rmisf (l : Launch) (Z : State) (a0 : Array Value) (hw : ∀ d ∈ tables_1, d.before a0 Z = true) (ws : List Jvm.Cond) (d1 : UInt64) (h0 : Heap) (n0 : Nat) (Z0 : n0 ≤ h0.size) (hf : Fin64 d1) :
    MetFree l (⟨"java/lang/Double", "isFinite", "(D)Z"⟩ : MethodName) (head1 (Jvm.Cond.code (⟨"java/lang/Double", "isFinite", "(D)Z"⟩ : MethodName) jdk_117_method_8_code 2 (some .boolean) :: ws) ({ frames := 1, cells := 0, slots := 0, locals := 20 } : Room)) (fun a U => a = #[(.double d1)] ∧ Z.Warmed39 U.vm ∧ U.heap = h0) (fun _ _ _ _ _ => True) (fun _ U o U' => ∃ v L, o = .returned v ∧ Qisf Z d1 h0 n0 v U'.heap L ∧ FrameEnd U o U' L ({ frames := 1, cells := 0, slots := 0, locals := 20 } : Room).cells ({ frames := 1, cells := 0, slots := 0, locals := 20 } : Room).slots) := by
  refine MetFree.of_bodySF (plainFor_of_name pn_java_lang_Double) hisR ?_
  intro p e s m args below meth c s₁ Bd hml0 hP hK
  obtain ⟨rfl, hZ, hh⟩ := hP
  have hx := Bd.exec
  have hby := Bd.bytes
  have hml : c.maxLocals = 2 := hml0
  have hown : s.vm.findClass "java/lang/Double" = some m.cls := findClass_of_methodNamed Bd.named
  have hnm := (name_of_methodNamed Bd.named Bd.method).1
  have X0 : Stand p l e ({ frames := 1, cells := 0, slots := 0, locals := 20 } : Room) s m #[(.double d1)] below meth c s₁ [] 0 0 := Stand.of_body Bd
  have e0 : s₁.heap = h0 := by rw [← hh, Bd.state]; rfl
  have es0 : s.heap = h0 := hh
  have N0 := Fr.nil n0
  show own_Fin p e below (Gisf Z d1 h0 n0 s) (s₁.setTop (entryFrame m #[(.double d1)] 2))
  rw [ef_isf m d1]
  refine own_go (XS.dloadN X0.here hx rfl (hb hby d10_0) rfl (Steps.refl _)) ?_
  show own_Fin _ _ _ _ (s₁.setTop (mkF m 1 #[.val (.double d1), .second] [(.double d1)]))
  obtain ⟨T21, X21, e21, st21⟩ := natS X0 hx hZ hown (hw _ (List.mem_of_getElem? (i := 50) rfl)) (hw _ (List.mem_of_getElem? (i := 51) rfl)) (hw _ (List.mem_of_getElem? (i := 2) rfl)) (hw _ (List.mem_of_getElem? (i := 52) rfl)) (by decide) e0 (W := 0) (F := fun a' => a' = #[.double d1] ∧ NoNaN64 d1) (val := (.double (d1 &&& 0x7fffffffffffffff))) (fun hc => absD_pays d1 hc (by decide) (by decide)) (g := (mkF m 1 #[.val (.double d1), .second] [(.double d1)])) rfl (by rw [hml]; rfl) (argsL := [(.double d1)]) (rest := []) (lenOf pd__28_D_29_D rfl) rfl (by show 2 * 0 + _ ≤ _; exact Nat.le_of_eq rfl) (hb hby d10_1) (by decide) (by decide) ⟨rfl, hf.noNaN⟩ rfl
  refine own_by st21 ?_
  show own_Fin _ _ _ _ (T21.setTop (mkF m 4 #[.val (.double d1), .second] [(.double (d1 &&& 0x7fffffffffffffff))]))
  refine own_by (X21.ldc2DoubleC hx hown (mvT hZ (hw _ (List.mem_of_getElem? (i := 53) rfl))) (g := (mkF m 4 #[.val (.double d1), .second] [(.double (d1 &&& 0x7fffffffffffffff))])) rfl (hb hby d10_4)) ?_
  show own_Fin _ _ _ _ (T21.setTop (mkF m 7 #[.val (.double d1), .second] [(.double (9218868437227405311 : UInt64)), (.double (d1 &&& 0x7fffffffffffffff))]))
  refine own_go (XS.dcmpS X21.here hx rfl (hb hby d10_7) rfl (show cmpValue (FP.dcmp (d1 &&& 0x7fffffffffffffff) (9218868437227405311 : UInt64)) .g = (cmpValue (FP.dcmp (d1 &&& 0x7fffffffffffffff) (9218868437227405311 : UInt64)) .g) from rfl) (Steps.refl _)) ?_
  show own_Fin _ _ _ _ (T21.setTop (mkF m 8 #[.val (.double d1), .second] [(.int (cmpValue (FP.dcmp (d1 &&& 0x7fffffffffffffff) (9218868437227405311 : UInt64)) .g))]))
  refine own_go (XS.ifNo X21.here hx rfl (hb hby d10_8) rfl ((if0 _ _).trans (flt (show ¬ ((0 : Int32) < (cmpValue (FP.dcmp (d1 &&& 0x7fffffffffffffff) (9218868437227405311 : UInt64)) .g)) from (own_isf hf))).2.2.1) (Steps.refl _)) ?_
  show own_Fin _ _ _ _ (T21.setTop (mkF m 11 #[.val (.double d1), .second] []))
  refine own_go (XS.iconst X21.here hx rfl (hb hby d10_11) (Steps.refl _)) ?_
  show own_Fin _ _ _ _ (T21.setTop (mkF m 12 #[.val (.double d1), .second] [(.int (1 : Int32))]))
  refine own_go (XS.goto X21.here hx rfl (pc0 := 12) (pc' := 16) rfl (hb hby d10_12) (by decide) (by decide) (Steps.refl _)) ?_
  show own_Fin _ _ _ _ (T21.setTop (mkF m 16 #[.val (.double d1), .second] [(.int (1 : Int32))]))
  obtain ⟨fs22, hr22, hrun22, hended22, hW22, hsame22⟩ := X21.leave (v := some (.int (1 : Int32))) (fun h => by rw [Bd.returns] at h; cases h)
  refine own_done (retN X21 hx (t := .boolean) Bd.returns (by simp) (hb hby d10_16) hr22) hrun22 hended22 ⟨_, _, rfl, ?_, ⟨_, rfl⟩, hW22, hsame22.mono (by decide) (by decide)⟩
  show Qisf Z d1 h0 n0 _ T21.heap _
  rw [e21]
  exact ⟨rfl, N0, rfl⟩
theorem d9_0 : decode prog_43_method_3_code 0 = .ok (.aload_n 0, 1) := by decide +kernel
theorem d9_1 : decode prog_43_method_3_code 1 = .ok (.getfield 26, 3) := by decide +kernel
theorem d9_4 : decode prog_43_method_3_code 4 = .ok (.ifCond .ne 13, 3) := by decide +kernel
theorem d9_7 : decode prog_43_method_3_code 7 = .ok (.new 37, 3) := by decide +kernel
theorem d9_10 : decode prog_43_method_3_code 10 = .ok (.dup, 1) := by decide +kernel
theorem d9_11 : decode prog_43_method_3_code 11 = .ok (.ldc 39, 2) := by decide +kernel
theorem d9_13 : decode prog_43_method_3_code 13 = .ok (.invokespecial 41, 3) := by decide +kernel
theorem d9_16 : decode prog_43_method_3_code 16 = .ok (.athrow, 1) := by decide +kernel
theorem d9_17 : decode prog_43_method_3_code 17 = .ok (.dload_n 1, 1) := by decide +kernel
theorem d9_18 : decode prog_43_method_3_code 18 = .ok (.invokestatic 44, 3) := by decide +kernel
theorem d9_21 : decode prog_43_method_3_code 21 = .ok (.ifCond .ne 17, 3) := by decide +kernel
theorem d9_24 : decode prog_43_method_3_code 24 = .ok (.new 47, 3) := by decide +kernel
theorem d9_27 : decode prog_43_method_3_code 27 = .ok (.dup, 1) := by decide +kernel
theorem d9_28 : decode prog_43_method_3_code 28 = .ok (.dload_n 1, 1) := by decide +kernel
theorem d9_34 : decode prog_43_method_3_code 34 = .ok (.invokespecial 53, 3) := by decide +kernel
theorem d9_37 : decode prog_43_method_3_code 37 = .ok (.athrow, 1) := by decide +kernel
theorem d9_38 : decode prog_43_method_3_code 38 = .ok (.aload_n 0, 1) := by decide +kernel
theorem d9_39 : decode prog_43_method_3_code 39 = .ok (.dup, 1) := by decide +kernel
theorem d9_40 : decode prog_43_method_3_code 40 = .ok (.getfield 54, 3) := by decide +kernel
theorem d9_43 : decode prog_43_method_3_code 43 = .ok (.lconst 1, 1) := by decide +kernel
theorem d9_44 : decode prog_43_method_3_code 44 = .ok (.ladd, 1) := by decide +kernel
theorem d9_45 : decode prog_43_method_3_code 45 = .ok (.putfield 54, 3) := by decide +kernel
theorem d9_48 : decode prog_43_method_3_code 48 = .ok (.aload_n 0, 1) := by decide +kernel
theorem d9_49 : decode prog_43_method_3_code 49 = .ok (.aload_n 0, 1) := by decide +kernel
theorem d9_50 : decode prog_43_method_3_code 50 = .ok (.getfield 23, 3) := by decide +kernel
theorem d9_53 : decode prog_43_method_3_code 53 = .ok (.dload_n 1, 1) := by decide +kernel
theorem d9_54 : decode prog_43_method_3_code 54 = .ok (.invokestatic 58, 3) := by decide +kernel
theorem d9_57 : decode prog_43_method_3_code 57 = .ok (.putfield 23, 3) := by decide +kernel
theorem d9_60 : decode prog_43_method_3_code 60 = .ok (.aload_n 0, 1) := by decide +kernel
theorem d9_61 : decode prog_43_method_3_code 61 = .ok (.dup, 1) := by decide +kernel
theorem d9_62 : decode prog_43_method_3_code 62 = .ok (.getfield 64, 3) := by decide +kernel
theorem d9_65 : decode prog_43_method_3_code 65 = .ok (.aload_n 0, 1) := by decide +kernel
theorem d9_66 : decode prog_43_method_3_code 66 = .ok (.getfield 23, 3) := by decide +kernel
theorem d9_69 : decode prog_43_method_3_code 69 = .ok (.dadd, 1) := by decide +kernel
theorem d9_70 : decode prog_43_method_3_code 70 = .ok (.putfield 64, 3) := by decide +kernel
theorem d9_73 : decode prog_43_method_3_code 73 = .ok (.aload_n 0, 1) := by decide +kernel
theorem d9_74 : decode prog_43_method_3_code 74 = .ok (.dup, 1) := by decide +kernel
theorem d9_75 : decode prog_43_method_3_code 75 = .ok (.getfield 67, 3) := by decide +kernel
theorem d9_78 : decode prog_43_method_3_code 78 = .ok (.aload_n 0, 1) := by decide +kernel
theorem d9_79 : decode prog_43_method_3_code 79 = .ok (.getfield 11, 3) := by decide +kernel
theorem d9_82 : decode prog_43_method_3_code 82 = .ok (.aload_n 0, 1) := by decide +kernel
theorem d9_83 : decode prog_43_method_3_code 83 = .ok (.getfield 23, 3) := by decide +kernel
theorem d9_86 : decode prog_43_method_3_code 86 = .ok (.dsub, 1) := by decide +kernel
theorem d9_87 : decode prog_43_method_3_code 87 = .ok (.dadd, 1) := by decide +kernel
theorem d9_88 : decode prog_43_method_3_code 88 = .ok (.putfield 67, 3) := by decide +kernel
theorem d9_91 : decode prog_43_method_3_code 91 = .ok (.aload_n 0, 1) := by decide +kernel
theorem d9_92 : decode prog_43_method_3_code 92 = .ok (.dup, 1) := by decide +kernel
theorem d9_93 : decode prog_43_method_3_code 93 = .ok (.getfield 70, 3) := by decide +kernel
theorem d9_96 : decode prog_43_method_3_code 96 = .ok (.aload_n 0, 1) := by decide +kernel
theorem d9_97 : decode prog_43_method_3_code 97 = .ok (.getfield 11, 3) := by decide +kernel
theorem d9_100 : decode prog_43_method_3_code 100 = .ok (.dadd, 1) := by decide +kernel
theorem d9_101 : decode prog_43_method_3_code 101 = .ok (.putfield 70, 3) := by decide +kernel
theorem d9_104 : decode prog_43_method_3_code 104 = .ok (.return_, 1) := by decide +kernel
theorem ef_rc (m : MethodId) (x0 : Addr) (x1 : UInt64) : entryFrame m #[(.ref x0), (.double x1)] 3 = mkF m 0 #[.val (.ref x0), .val (.double x1), .second] [] := by first | (simp [entryFrame, mkF, argsToLocals, Value.category]; done) | rfl
def Qrc (Z : State) (a1 : Addr) (zx : Int32) (zP : Int32) (zc : Option Int64) (zo : Int32) (zb : Option Int64) (ev : Int64) (ps : UInt64) (es : UInt64) (os : UInt64) (h0 : Heap) (n0 : Nat) (v : Option Value) (h : Heap) (L : List Loc) : Prop := ∃ (ps2 : UInt64) (es2 : UInt64) (os2 : UInt64) (ev2 : Int64), v = none ∧ Fr n0 L ∧ Keep h0 h [a1] ∧ Exa Z h a1 "com/example/tidewalk/tidewalk/problems/RunMeasures" ∧ Fld Z h a1 "com/example/tidewalk/tidewalk/problems/RunMeasures" "periods" "I" (.int zP) ∧ Fld Z h a1 "com/example/tidewalk/tidewalk/problems/RunMeasures" "closedBestErrorSum" "D" (.double (own_cl zc)) ∧ Fld Z h a1 "com/example/tidewalk/tidewalk/problems/RunMeasures" "optimum" "D" (.double (FP.l2d zo.toInt64)) ∧ Fld Z h a1 "com/example/tidewalk/tidewalk/problems/RunMeasures" "best" "D" (.double (own_be (own_mx zb zx.toInt64))) ∧ Fld Z h a1 "com/example/tidewalk/tidewalk/problems/RunMeasures" "optimumKnown" "Z" (.int (1 : Int32)) ∧ Fld Z h a1 "com/example/tidewalk/tidewalk/problems/RunMeasures" "evaluations" "J" (.long ev2) ∧ Fld Z h a1 "com/example/tidewalk/tidewalk/problems/RunMeasures" "performanceSum" "D" (.double ps2) ∧ Fld Z h a1 "com/example/tidewalk/tidewalk/problems/RunMeasures" "errorSum" "D" (.double es2) ∧ Fld Z h a1 "com/example/tidewalk/tidewalk/problems/RunMeasures" "optimumSum" "D" (.double os2) ∧ NoNaN64 ps2 ∧ NoNaN64 es2 ∧ NoNaN64 os2
abbrev Grc (Z : State) (a1 : Addr) (zx : Int32) (zP : Int32) (zc : Option Int64) (zo : Int32) (zb : Option Int64) (ev : Int64) (ps : UInt64) (es : UInt64) (os : UInt64) (h0 : Heap) (n0 : Nat) (s : State) : Outcome → State → Prop := fun o U' => ∃ v L, o = .returned v ∧ Qrc Z a1 zx zP zc zo zb ev ps es os h0 n0 v U'.heap L ∧ FrameEnd s o U' L ({ frames := 2, cells := 0, slots := 0, locals := 36 } : Room).cells ({ frames := 2, cells := 0, slots := 0, locals := 36 } : Room).slots
theorem pd__28_D_29_Z : parseMethodDescriptor "(D)Z" = some ⟨[.double], some .boolean⟩ := by decide +kernel
theorem pd__28_DD_29_D : parseMethodDescriptor "(DD)D" = some ⟨[.double, .double], some .double⟩ := by decide +kernel
set_option maxRecDepth 65536 in
set_option maxHeartbeats 40000000 in
theorem rmrc (l : Launch) (Z : State) (a0 : Array Value) (hw : ∀ d ∈ tables_1, d.before a0 Z = true) (ws : List Jvm.Cond) (a1 : Addr) (zx : Int32) (zP : Int32) (zc : Option Int64) (zo : Int32) (zb : Option Int64) (ev : Int64) (ps : UInt64) (es : UInt64) (os : UInt64) (h0 : Heap) (n0 : Nat) (Z0 : n0 ≤ h0.size) (E_a1 : Exa Z h0 a1 "com/example/tidewalk/tidewalk/problems/RunMeasures") (F_periods_a1 : Fld Z h0 a1 "com/example/tidewalk/tidewalk/problems/RunMeasures" "periods" "I" (.int zP)) (F_closedBestErrorSum_a1 : Fld Z h0 a1 "com/example/tidewalk/tidewalk/problems/RunMeasures" "closedBestErrorSum" "D" (.double (own_cl zc))) (F_optimum_a1 : Fld Z h0 a1 "com/example/tidewalk/tidewalk/problems/RunMeasures" "optimum" "D" (.double (FP.l2d zo.toInt64))) (F_best_a1 : Fld Z h0 a1 "com/example/tidewalk/tidewalk/problems/RunMeasures" "best" "D" (.double (own_be zb))) (F_optimumKnown_a1 : Fld Z h0 a1 "com/example/tidewalk/tidewalk/problems/RunMeasures" "optimumKnown" "Z" (.int (1 : Int32))) (F_evaluations_a1 : Fld Z h0 a1 "com/example/tidewalk/tidewalk/problems/RunMeasures" "evaluations" "J" (.long ev)) (F_performanceSum_a1 : Fld Z h0 a1 "com/example/tidewalk/tidewalk/problems/RunMeasures" "performanceSum" "D" (.double ps)) (F_errorSum_a1 : Fld Z h0 a1 "com/example/tidewalk/tidewalk/problems/RunMeasures" "errorSum" "D" (.double es)) (F_optimumSum_a1 : Fld Z h0 a1 "com/example/tidewalk/tidewalk/problems/RunMeasures" "optimumSum" "D" (.double os)) (g_a1 : n0 ≤ a1) (hP : ¬ zP = (0 : Int32)) (hwb : own_W 2147483648 zb) (hps : NoNaN64 ps) (hes : NoNaN64 es) (hos : NoNaN64 os) :
    MetFree l (⟨"com/example/tidewalk/tidewalk/problems/RunMeasures", "record", "(D)V"⟩ : MethodName) (head1 (Jvm.Cond.code (⟨"com/example/tidewalk/tidewalk/problems/RunMeasures", "record", "(D)V"⟩ : MethodName) prog_43_method_3_code 3 none :: ws) ({ frames := 2, cells := 0, slots := 0, locals := 36 } : Room)) (fun a U => a = #[(.ref a1), (.double (FP.l2d zx.toInt64))] ∧ Z.Warmed39 U.vm ∧ U.heap = h0) (fun _ _ _ _ _ => True) (fun _ U o U' => ∃ v L, o = .returned v ∧ Qrc Z a1 zx zP zc zo zb ev ps es os h0 n0 v U'.heap L ∧ FrameEnd U o U' L ({ frames := 2, cells := 0, slots := 0, locals := 36 } : Room).cells ({ frames := 2, cells := 0, slots := 0, locals := 36 } : Room).slots) := by
  refine MetFree.of_bodySF (plainFor_of_name pn_com_example_tidewalk_tidewalk_problems_RunMeasures) hisR ?_
  intro p e s m args below meth c s₁ Bd hml0 hP hK
  obtain ⟨rfl, hZ, hh⟩ := hP
  have hx := Bd.exec
  have hby := Bd.bytes
  have hml : c.maxLocals = 3 := hml0
  have hown : s.vm.findClass "com/example/tidewalk/tidewalk/problems/RunMeasures" = some m.cls := findClass_of_methodNamed Bd.named
  have hnm := (name_of_methodNamed Bd.named Bd.method).1
  have X0 : Stand p l e ({ frames := 2, cells := 0, slots := 0, locals := 36 } : Room) s m #[(.ref a1), (.double (FP.l2d zx.toInt64))] below meth c s₁ [] 0 0 := Stand.of_body Bd
  have e0 : s₁.heap = h0 := by rw [← hh, Bd.state]; rfl
  have es0 : s.heap = h0 := hh
  have N0 := Fr.nil n0
  show own_Fin p e below (Grc Z a1 zx zP zc zo zb ev ps es os h0 n0 s) (s₁.setTop (entryFrame m #[(.ref a1), (.double (FP.l2d zx.toInt64))] 3))
  rw [ef_rc m a1 (FP.l2d zx.toInt64)]
  have Kz := Keep.refl h0 [a1]
  refine own_go (XS.aloadN X0.here hx rfl (hb hby d9_0) rfl rfl (Steps.refl _)) ?_
  show own_Fin _ _ _ _ (s₁.setTop (mkF m 1 #[rv a1, .val (.double (FP.l2d zx.toInt64)), .second] [(.ref a1)]))
  obtain ⟨T23, X23, e23, st23⟩ := getF X0 hx hZ hown (host := "") (Or.inl (hw _ (List.mem_of_getElem? (i := 36) rfl))) Via.refl e0 F_periods_a1 (g := (mkF m 1 #[rv a1, .val (.double (FP.l2d zx.toInt64)), .second] [(.ref a1)])) rfl rfl (hb hby d9_1)
  refine own_by st23 ?_
  show own_Fin _ _ _ _ (T23.setTop (mkF m 4 #[rv a1, .val (.double (FP.l2d zx.toInt64)), .second] [(.int zP)]))
  refine own_go (XS.ifYes X23.here hx rfl (pc0 := 4) (pc' := 17) rfl (hb hby d9_4) rfl ((if0 _ _).trans (feq (show ¬ (zP = (0 : Int32)) from hP)).2) (by decide) (by decide) (Steps.refl _)) ?_
  show own_Fin _ _ _ _ (T23.setTop (mkF m 17 #[rv a1, .val (.double (FP.l2d zx.toInt64)), .second] []))
  refine own_go (XS.dloadN X23.here hx rfl (hb hby d9_17) rfl (Steps.refl _)) ?_
  show own_Fin _ _ _ _ (T23.setTop (mkF m 18 #[rv a1, .val (.double (FP.l2d zx.toInt64)), .second] [(.double (FP.l2d zx.toInt64))]))
  obtain ⟨_, _, ⟨T24, L24, k24, n24⟩, -, X24, ⟨Lc24, hQ24, l24, y24, z24⟩, st24⟩ := Jvm.LawKit.callS X23 hx (y := (⟨"java/lang/Double", "isFinite", "(D)Z"⟩ : MethodName)) hown (mvT hZ (hw _ (List.mem_of_getElem? (i := 47) rfl))) (mvT hZ (hw _ (List.mem_of_getElem? (i := 48) rfl))) (mvT hZ (hw _ (List.mem_of_getElem? (i := 40) rfl))) (mvT hZ (hw _ (List.mem_of_getElem? (i := 49) rfl))) (by decide) (backOf (W := 0) (rmisf l Z a0 hw [] (FP.l2d zx.toInt64) h0 n0 Z0 (l2d_fin _)) hZ (hw _ (List.mem_of_getElem? (i := 49) rfl)) (hw _ (List.mem_of_getElem? (i := 40) rfl)) (by decide) (by decide)) (g := (mkF m 18 #[rv a1, .val (.double (FP.l2d zx.toInt64)), .second] [(.double (FP.l2d zx.toInt64))])) rfl (by rw [hml]; rfl) (argsL := [(.double (FP.l2d zx.toInt64))]) (rest := []) (lenOf pd__28_D_29_Z rfl) rfl (by show 2 * 0 + _ ≤ _; exact Nat.le_of_eq rfl) (hb hby d9_18) (fun _ hv => ⟨rfl, e23, (by decide : 0 + 0 ≤ _), (by decide : 0 + 0 ≤ _)⟩)
  dsimp only [Pt.U, Pt.locs, Pt.cells, Pt.slots] at X24 l24 y24 z24 st24 hQ24
  subst l24 y24 z24
  obtain ⟨rfl, Nq24, e24⟩ := hQ24
  refine own_by st24 ?_
  have N24 := Fr.app N0 Nq24
  show own_Fin _ _ _ _ (T24.setTop (mkF m 21 #[rv a1, .val (.double (FP.l2d zx.toInt64)), .second] [(.int (1 : Int32))]))
  refine own_go (XS.ifYes X24.here hx rfl (pc0 := 21) (pc' := 38) rfl (hb hby d9_21) rfl ((if0 _ _).trans (feq (by decide : ¬ ((1 : Int32) = (0 : Int32)))).2) (by decide) (by decide) (Steps.refl _)) ?_
  show own_Fin _ _ _ _ (T24.setTop (mkF m 38 #[rv a1, .val (.double (FP.l2d zx.toInt64)), .second] []))
  refine own_go (XS.aloadN X24.here hx rfl (hb hby d9_38) rfl rfl (Steps.refl _)) ?_
  show own_Fin _ _ _ _ (T24.setTop (mkF m 39 #[rv a1, .val (.double (FP.l2d zx.toInt64)), .second] [(.ref a1)]))
  refine own_go (XS.dup X24.here hx rfl (hb hby d9_39) rfl rfl (Steps.refl _)) ?_
  show own_Fin _ _ _ _ (T24.setTop (mkF m 40 #[rv a1, .val (.double (FP.l2d zx.toInt64)), .second] [(.ref a1), (.ref a1)]))
  obtain ⟨T25, X25, e25, st25⟩ := getF X24 hx hZ hown (host := "") (Or.inl (hw _ (List.mem_of_getElem? (i := 54) rfl))) Via.refl e24 F_evaluations_a1 (g := (mkF m 40 #[rv a1, .val (.double (FP.l2d zx.toInt64)), .second] [(.ref a1), (.ref a1)])) rfl rfl (hb hby d9_40)
  refine own_by st25 ?_
  show own_Fin _ _ _ _ (T25.setTop (mkF m 43 #[rv a1, .val (.double (FP.l2d zx.toInt64)), .second] [(.long ev), (.ref a1)]))
  refine own_go (XS.lconst X25.here hx rfl (hb hby d9_43) (Steps.refl _)) ?_
  show own_Fin _ _ _ _ (T25.setTop (mkF m 44 #[rv a1, .val (.double (FP.l2d zx.toInt64)), .second] [(.long (1 : Int64)), (.long ev), (.ref a1)]))
  refine own_go (XS.ladd X25.here hx rfl (hb hby d9_44) rfl (Steps.refl _)) ?_
  show own_Fin _ _ _ _ (T25.setTop (mkF m 45 #[rv a1, .val (.double (FP.l2d zx.toInt64)), .second] [(.long (ev + (1 : Int64))), (.ref a1)]))
  obtain ⟨T26, h26, X26, e26, W26, st26⟩ := putF X25 hx hZ hown (host := "") (Or.inl (hw _ (List.mem_of_getElem? (i := 54) rfl))) Via.refl e25 F_evaluations_a1 E_a1 (Or.inl (hw _ (List.mem_of_getElem? (i := 55) rfl))) (hw _ (List.mem_of_getElem? (i := 12) rfl)) (ty := .long) (by decide) rfl rfl (g := (mkF m 45 #[rv a1, .val (.double (FP.l2d zx.toInt64)), .second] [(.long (ev + (1 : Int64))), (.ref a1)])) rfl rfl (hb hby d9_45)
  refine own_by st26 ?_
  have F_evaluations_a1_26 := F_evaluations_a1.same W26
  have E_a1_26 := E_a1.wr W26
  have F_periods_a1_26 := F_periods_a1.other W26 (Or.inr (slot_ne (Or.inl (hw _ (List.mem_of_getElem? (i := 37) rfl))) (Or.inl (hw _ (List.mem_of_getElem? (i := 55) rfl))) (by decide) (t := .int) (t' := .long) (by decide) (by decide)))
  have F_closedBestErrorSum_a1_26 := F_closedBestErrorSum_a1.other W26 (Or.inr (slot_ne (Or.inl (hw _ (List.mem_of_getElem? (i := 71) rfl))) (Or.inl (hw _ (List.mem_of_getElem? (i := 55) rfl))) (by decide) (t := .double) (t' := .long) (by decide) (by decide)))
  have F_optimum_a1_26 := F_optimum_a1.other W26 (Or.inr (slot_ne (Or.inl (hw _ (List.mem_of_getElem? (i := 22) rfl))) (Or.inl (hw _ (List.mem_of_getElem? (i := 55) rfl))) (by decide) (t := .double) (t' := .long) (by decide) (by decide)))
  have F_best_a1_26 := F_best_a1.other W26 (Or.inr (slot_ne (Or.inl (hw _ (List.mem_of_getElem? (i := 27) rfl))) (Or.inl (hw _ (List.mem_of_getElem? (i := 55) rfl))) (by decide) (t := .double) (t' := .long) (by decide) (by decide)))
  have F_optimumKnown_a1_26 := F_optimumKnown_a1.other W26 (Or.inr (slot_ne (Or.inl (hw _ (List.mem_of_getElem? (i := 24) rfl))) (Or.inl (hw _ (List.mem_of_getElem? (i := 55) rfl))) (by decide) (t := .boolean) (t' := .long) (by decide) (by decide)))
  have F_performanceSum_a1_26 := F_performanceSum_a1.other W26 (Or.inr (slot_ne (Or.inl (hw _ (List.mem_of_getElem? (i := 60) rfl))) (Or.inl (hw _ (List.mem_of_getElem? (i := 55) rfl))) (by decide) (t := .double) (t' := .long) (by decide) (by decide)))
  have F_errorSum_a1_26 := F_errorSum_a1.other W26 (Or.inr (slot_ne (Or.inl (hw _ (List.mem_of_getElem? (i := 62) rfl))) (Or.inl (hw _ (List.mem_of_getElem? (i := 55) rfl))) (by decide) (t := .double) (t' := .long) (by decide) (by decide)))
  have F_optimumSum_a1_26 := F_optimumSum_a1.other W26 (Or.inr (slot_ne (Or.inl (hw _ (List.mem_of_getElem? (i := 64) rfl))) (Or.inl (hw _ (List.mem_of_getElem? (i := 55) rfl))) (by decide) (t := .double) (t' := .long) (by decide) (by decide)))
  have N26 := Fr.snoc X26 N24 g_a1
  have Z26 : n0 ≤ h26.size := Nat.le_trans Z0 (Keep.of_wr W26).1
  have K26 := Kz.wr W26 (Or.inl (List.mem_of_getElem? (i := 0) rfl))
  show own_Fin _ _ _ _ (T26.setTop (mkF m 48 #[rv a1, .val (.double (FP.l2d zx.toInt64)), .second] []))
  refine own_go (XS.aloadN X26.here hx rfl (hb hby d9_48) rfl rfl (Steps.refl _)) ?_
  show own_Fin _ _ _ _ (T26.setTop (mkF m 49 #[rv a1, .val (.double (FP.l2d zx.toInt64)), .second] [(.ref a1)]))
  refine own_go (XS.aloadN X26.here hx rfl (hb hby d9_49) rfl rfl (Steps.refl _)) ?_
  show own_Fin _ _ _ _ (T26.setTop (mkF m 50 #[rv a1, .val (.double (FP.l2d zx.toInt64)), .second] [(.ref a1), (.ref a1)]))
  obtain ⟨T27, X27, e27, st27⟩ := getF X26 hx hZ hown (host := "") (Or.inl (hw _ (List.mem_of_getElem? (i := 26) rfl))) Via.refl e26 F_best_a1_26 (g := (mkF m 50 #[rv a1, .val (.double (FP.l2d zx.toInt64)), .second] [(.ref a1), (.ref a1)])) rfl rfl (hb hby d9_50)
  refine own_by st27 ?_
  show own_Fin _ _ _ _ (T27.setTop (mkF m 53 #[rv a1, .val (.double (FP.l2d zx.toInt64)), .second] [(.double (own_be zb)), (.ref a1)]))
  refine own_go (XS.dloadN X27.here hx rfl (hb hby d9_53) rfl (Steps.refl _)) ?_
  show own_Fin _ _ _ _ (T27.setTop (mkF m 54 #[rv a1, .val (.double (FP.l2d zx.toInt64)), .second] [(.double (FP.l2d zx.toInt64)), (.double (own_be zb)), (.ref a1)]))
  obtain ⟨T28, X28, e28, st28⟩ := natS X27 hx hZ hown (hw _ (List.mem_of_getElem? (i := 56) rfl)) (hw _ (List.mem_of_getElem? (i := 57) rfl)) (hw _ (List.mem_of_getElem? (i := 2) rfl)) (hw _ (List.mem_of_getElem? (i := 58) rfl)) (by decide) e27 (W := 1) (F := fun a' => a' = #[.double (own_be zb), .double (FP.l2d zx.toInt64)] ∧ NoNaN64 (own_be zb) ∧ NoNaN64 (FP.l2d zx.toInt64)) (val := (.double (Native.java_lang_Math.nans.pick64 true (own_be zb) (FP.l2d zx.toInt64)))) (fun hc => maxD_pays (own_be zb) (FP.l2d zx.toInt64) hc (by decide) (by decide)) (g := (mkF m 54 #[rv a1, .val (.double (FP.l2d zx.toInt64)), .second] [(.double (FP.l2d zx.toInt64)), (.double (own_be zb)), (.ref a1)])) rfl (by rw [hml]; rfl) (argsL := [(.double (own_be zb)), (.double (FP.l2d zx.toInt64))]) (rest := [(.ref a1)]) (lenOf pd__28_DD_29_D rfl) rfl (by show 2 * 0 + _ ≤ _; exact Nat.le_of_eq rfl) (hb hby d9_54) (by decide) (by decide) ⟨rfl, own_bn _, (l2d_fin _).noNaN⟩ rfl
  refine own_by st28 ?_
  show own_Fin _ _ _ _ (T28.setTop (mkF m 57 #[rv a1, .val (.double (FP.l2d zx.toInt64)), .second] [(.double (Native.java_lang_Math.nans.pick64 true (own_be zb) (FP.l2d zx.toInt64))), (.ref a1)]))
  rw [own_max hwb zx]
  show own_Fin _ _ _ _ (T28.setTop (mkF m 57 #[rv a1, .val (.double (FP.l2d zx.toInt64)), .second] [(.double (own_be (own_mx zb zx.toInt64))), (.ref a1)]))
  obtain ⟨T29, h29, X29, e29, W29, st29⟩ := putF X28 hx hZ hown (host := "") (Or.inl (hw _ (List.mem_of_getElem? (i := 26) rfl))) Via.refl e28 F_best_a1_26 E_a1_26 (Or.inl (hw _ (List.mem_of_getElem? (i := 27) rfl))) (hw _ (List.mem_of_getElem? (i := 12) rfl)) (ty := .double) (by decide) rfl rfl (g := (mkF m 57 #[rv a1, .val (.double (FP.l2d zx.toInt64)), .second] [(.double (own_be (own_mx zb zx.toInt64))), (.ref a1)])) rfl rfl (hb hby d9_57)
  refine own_by st29 ?_
  have F_best_a1_29 := F_best_a1_26.same W29
  have E_a1_29 := E_a1_26.wr W29
  have F_periods_a1_29 := F_periods_a1_26.other W29 (Or.inr (slot_ne (Or.inl (hw _ (List.mem_of_getElem? (i := 37) rfl))) (Or.inl (hw _ (List.mem_of_getElem? (i := 27) rfl))) (by decide) (t := .int) (t' := .double) (by decide) (by decide)))
  have F_closedBestErrorSum_a1_29 := F_closedBestErrorSum_a1_26.other W29 (Or.inr (slot_ne (Or.inl (hw _ (List.mem_of_getElem? (i := 71) rfl))) (Or.inl (hw _ (List.mem_of_getElem? (i := 27) rfl))) (by decide) (t := .double) (t' := .double) (by decide) (by decide)))
  have F_optimum_a1_29 := F_optimum_a1_26.other W29 (Or.inr (slot_ne (Or.inl (hw _ (List.mem_of_getElem? (i := 22) rfl))) (Or.inl (hw _ (List.mem_of_getElem? (i := 27) rfl))) (by decide) (t := .double) (t' := .double) (by decide) (by decide)))
  have F_optimumKnown_a1_29 := F_optimumKnown_a1_26.other W29 (Or.inr (slot_ne (Or.inl (hw _ (List.mem_of_getElem? (i := 24) rfl))) (Or.inl (hw _ (List.mem_of_getElem? (i := 27) rfl))) (by decide) (t := .boolean) (t' := .double) (by decide) (by decide)))
  have F_evaluations_a1_29 := F_evaluations_a1_26.other W29 (Or.inr (slot_ne (Or.inl (hw _ (List.mem_of_getElem? (i := 55) rfl))) (Or.inl (hw _ (List.mem_of_getElem? (i := 27) rfl))) (by decide) (t := .long) (t' := .double) (by decide) (by decide)))
  have F_performanceSum_a1_29 := F_performanceSum_a1_26.other W29 (Or.inr (slot_ne (Or.inl (hw _ (List.mem_of_getElem? (i := 60) rfl))) (Or.inl (hw _ (List.mem_of_getElem? (i := 27) rfl))) (by decide) (t := .double) (t' := .double) (by decide) (by decide)))
  have F_errorSum_a1_29 := F_errorSum_a1_26.other W29 (Or.inr (slot_ne (Or.inl (hw _ (List.mem_of_getElem? (i := 62) rfl))) (Or.inl (hw _ (List.mem_of_getElem? (i := 27) rfl))) (by decide) (t := .double) (t' := .double) (by decide) (by decide)))
  have F_optimumSum_a1_29 := F_optimumSum_a1_26.other W29 (Or.inr (slot_ne (Or.inl (hw _ (List.mem_of_getElem? (i := 64) rfl))) (Or.inl (hw _ (List.mem_of_getElem? (i := 27) rfl))) (by decide) (t := .double) (t' := .double) (by decide) (by decide)))
  have N29 := Fr.snoc X29 N26 g_a1
  have Z29 : n0 ≤ h29.size := Nat.le_trans Z26 (Keep.of_wr W29).1
  have K29 := K26.wr W29 (Or.inl (List.mem_of_getElem? (i := 0) rfl))
  show own_Fin _ _ _ _ (T29.setTop (mkF m 60 #[rv a1, .val (.double (FP.l2d zx.toInt64)), .second] []))
  refine own_go (XS.aloadN X29.here hx rfl (hb hby d9_60) rfl rfl (Steps.refl _)) ?_
  show own_Fin _ _ _ _ (T29.setTop (mkF m 61 #[rv a1, .val (.double (FP.l2d zx.toInt64)), .second] [(.ref a1)]))
  refine own_go (XS.dup X29.here hx rfl (hb hby d9_61) rfl rfl (Steps.refl _)) ?_
  show own_Fin _ _ _ _ (T29.setTop (mkF m 62 #[rv a1, .val (.double (FP.l2d zx.toInt64)), .second] [(.ref a1), (.ref a1)]))
  obtain ⟨T30, X30, e30, st30⟩ := getF X29 hx hZ hown (host := "") (Or.inl (hw _ (List.mem_of_getElem? (i := 59) rfl))) Via.refl e29 F_performanceSum_a1_29 (g := (mkF m 62 #[rv a1, .val (.double (FP.l2d zx.toInt64)), .second] [(.ref a1), (.ref a1)])) rfl rfl (hb hby d9_62)
  refine own_by st30 ?_
  show own_Fin _ _ _ _ (T30.setTop (mkF m 65 #[rv a1, .val (.double (FP.l2d zx.toInt64)), .second] [(.double ps), (.ref a1)]))
  refine own_go (XS.aloadN X30.here hx rfl (hb hby d9_65) rfl rfl (Steps.refl _)) ?_
  show own_Fin _ _ _ _ (T30.setTop (mkF m 66 #[rv a1, .val (.double (FP.l2d zx.toInt64)), .second] [(.ref a1), (.double ps), (.ref a1)]))
  obtain ⟨T31, X31, e31, st31⟩ := getF X30 hx hZ hown (host := "") (Or.inl (hw _ (List.mem_of_getElem? (i := 26) rfl))) Via.refl e30 F_best_a1_29 (g := (mkF m 66 #[rv a1, .val (.double (FP.l2d zx.toInt64)), .second] [(.ref a1), (.double ps), (.ref a1)])) rfl rfl (hb hby d9_66)
  refine own_by st31 ?_
  show own_Fin _ _ _ _ (T31.setTop (mkF m 69 #[rv a1, .val (.double (FP.l2d zx.toInt64)), .second] [(.double (own_be (own_mx zb zx.toInt64))), (.double ps), (.ref a1)]))
  refine own_go (XS.daddS X31.here hx rfl (hb hby d9_69) rfl (dadd_out hps (own_fb _ _)) rfl (Steps.refl _)) ?_
  show own_Fin _ _ _ _ (T31.setTop (mkF m 70 #[rv a1, .val (.double (FP.l2d zx.toInt64)), .second] [(.double (FP.dadd ps (own_be (own_mx zb zx.toInt64)))), (.ref a1)]))
  obtain ⟨T32, h32, X32, e32, W32, st32⟩ := putF X31 hx hZ hown (host := "") (Or.inl (hw _ (List.mem_of_getElem? (i := 59) rfl))) Via.refl e31 F_performanceSum_a1_29 E_a1_29 (Or.inl (hw _ (List.mem_of_getElem? (i := 60) rfl))) (hw _ (List.mem_of_getElem? (i := 12) rfl)) (ty := .double) (by decide) rfl rfl (g := (mkF m 70 #[rv a1, .val (.double (FP.l2d zx.toInt64)), .second] [(.double (FP.dadd ps (own_be (own_mx zb zx.toInt64)))), (.ref a1)])) rfl rfl (hb hby d9_70)
  refine own_by st32 ?_
  have F_performanceSum_a1_32 := F_performanceSum_a1_29.same W32
  have E_a1_32 := E_a1_29.wr W32
  have F_periods_a1_32 := F_periods_a1_29.other W32 (Or.inr (slot_ne (Or.inl (hw _ (List.mem_of_getElem? (i := 37) rfl))) (Or.inl (hw _ (List.mem_of_getElem? (i := 60) rfl))) (by decide) (t := .int) (t' := .double) (by decide) (by decide)))
  have F_closedBestErrorSum_a1_32 := F_closedBestErrorSum_a1_29.other W32 (Or.inr (slot_ne (Or.inl (hw _ (List.mem_of_getElem? (i := 71) rfl))) (Or.inl (hw _ (List.mem_of_getElem? (i := 60) rfl))) (by decide) (t := .double) (t' := .double) (by decide) (by decide)))
  have F_optimum_a1_32 := F_optimum_a1_29.other W32 (Or.inr (slot_ne (Or.inl (hw _ (List.mem_of_getElem? (i := 22) rfl))) (Or.inl (hw _ (List.mem_of_getElem? (i := 60) rfl))) (by decide) (t := .double) (t' := .double) (by decide) (by decide)))
  have F_best_a1_32 := F_best_a1_29.other W32 (Or.inr (slot_ne (Or.inl (hw _ (List.mem_of_getElem? (i := 27) rfl))) (Or.inl (hw _ (List.mem_of_getElem? (i := 60) rfl))) (by decide) (t := .double) (t' := .double) (by decide) (by decide)))
  have F_optimumKnown_a1_32 := F_optimumKnown_a1_29.other W32 (Or.inr (slot_ne (Or.inl (hw _ (List.mem_of_getElem? (i := 24) rfl))) (Or.inl (hw _ (List.mem_of_getElem? (i := 60) rfl))) (by decide) (t := .boolean) (t' := .double) (by decide) (by decide)))
  have F_evaluations_a1_32 := F_evaluations_a1_29.other W32 (Or.inr (slot_ne (Or.inl (hw _ (List.mem_of_getElem? (i := 55) rfl))) (Or.inl (hw _ (List.mem_of_getElem? (i := 60) rfl))) (by decide) (t := .long) (t' := .double) (by decide) (by decide)))
  have F_errorSum_a1_32 := F_errorSum_a1_29.other W32 (Or.inr (slot_ne (Or.inl (hw _ (List.mem_of_getElem? (i := 62) rfl))) (Or.inl (hw _ (List.mem_of_getElem? (i := 60) rfl))) (by decide) (t := .double) (t' := .double) (by decide) (by decide)))
  have F_optimumSum_a1_32 := F_optimumSum_a1_29.other W32 (Or.inr (slot_ne (Or.inl (hw _ (List.mem_of_getElem? (i := 64) rfl))) (Or.inl (hw _ (List.mem_of_getElem? (i := 60) rfl))) (by decide) (t := .double) (t' := .double) (by decide) (by decide)))
  have N32 := Fr.snoc X32 N29 g_a1
  have Z32 : n0 ≤ h32.size := Nat.le_trans Z29 (Keep.of_wr W32).1
  have K32 := K29.wr W32 (Or.inl (List.mem_of_getElem? (i := 0) rfl))
  show own_Fin _ _ _ _ (T32.setTop (mkF m 73 #[rv a1, .val (.double (FP.l2d zx.toInt64)), .second] []))
  refine own_go (XS.aloadN X32.here hx rfl (hb hby d9_73) rfl rfl (Steps.refl _)) ?_
  show own_Fin _ _ _ _ (T32.setTop (mkF m 74 #[rv a1, .val (.double (FP.l2d zx.toInt64)), .second] [(.ref a1)]))
  refine own_go (XS.dup X32.here hx rfl (hb hby d9_74) rfl rfl (Steps.refl _)) ?_
  show own_Fin _ _ _ _ (T32.setTop (mkF m 75 #[rv a1, .val (.double (FP.l2d zx.toInt64)), .second] [(.ref a1), (.ref a1)]))
  obtain ⟨T33, X33, e33, st33⟩ := getF X32 hx hZ hown (host := "") (Or.inl (hw _ (List.mem_of_getElem? (i := 61) rfl))) Via.refl e32 F_errorSum_a1_32 (g := (mkF m 75 #[rv a1, .val (.double (FP.l2d zx.toInt64)), .second] [(.ref a1), (.ref a1)])) rfl rfl (hb hby d9_75)
  refine own_by st33 ?_
  show own_Fin _ _ _ _ (T33.setTop (mkF m 78 #[rv a1, .val (.double (FP.l2d zx.toInt64)), .second] [(.double es), (.ref a1)]))
  refine own_go (XS.aloadN X33.here hx rfl (hb hby d9_78) rfl rfl (Steps.refl _)) ?_
  show own_Fin _ _ _ _ (T33.setTop (mkF m 79 #[rv a1, .val (.double (FP.l2d zx.toInt64)), .second] [(.ref a1), (.double es), (.ref a1)]))
  obtain ⟨T34, X34, e34, st34⟩ := getF X33 hx hZ hown (host := "") (Or.inl (hw _ (List.mem_of_getElem? (i := 21) rfl))) Via.refl e33 F_optimum_a1_32 (g := (mkF m 79 #[rv a1, .val (.double (FP.l2d zx.toInt64)), .second] [(.ref a1), (.double es), (.ref a1)])) rfl rfl (hb hby d9_79)
  refine own_by st34 ?_
  show own_Fin _ _ _ _ (T34.setTop (mkF m 82 #[rv a1, .val (.double (FP.l2d zx.toInt64)), .second] [(.double (FP.l2d zo.toInt64)), (.double es), (.ref a1)]))
  refine own_go (XS.aloadN X34.here hx rfl (hb hby d9_82) rfl rfl (Steps.refl _)) ?_
  show own_Fin _ _ _ _ (T34.setTop (mkF m 83 #[rv a1, .val (.double (FP.l2d zx.toInt64)), .second] [(.ref a1), (.double (FP.l2d zo.toInt64)), (.double es), (.ref a1)]))
  obtain ⟨T35, X35, e35, st35⟩ := getF X34 hx hZ hown (host := "") (Or.inl (hw _ (List.mem_of_getElem? (i := 26) rfl))) Via.refl e34 F_best_a1_32 (g := (mkF m 83 #[rv a1, .val (.double (FP.l2d zx.toInt64)), .second] [(.ref a1), (.double (FP.l2d zo.toInt64)), (.double es), (.ref a1)])) rfl rfl (hb hby d9_83)
  refine own_by st35 ?_
  show own_Fin _ _ _ _ (T35.setTop (mkF m 86 #[rv a1, .val (.double (FP.l2d zx.toInt64)), .second] [(.double (own_be (own_mx zb zx.toInt64))), (.double (FP.l2d zo.toInt64)), (.double es), (.ref a1)]))
  refine own_go (XS.dsubS X35.here hx rfl (hb hby d9_86) rfl (own_sub zo (own_Wmx hwb zx) ▸ own_cn _) (own_sub zo (own_Wmx hwb zx)) (Steps.refl _)) ?_
  show own_Fin _ _ _ _ (T35.setTop (mkF m 87 #[rv a1, .val (.double (FP.l2d zx.toInt64)), .second] [(.double (own_cl (own_er zo.toInt64 (own_mx zb zx.toInt64)))), (.double es), (.ref a1)]))
  refine own_go (XS.daddS X35.here hx rfl (hb hby d9_87) rfl (dadd_out hes (own_fe _ _ _)) rfl (Steps.refl _)) ?_
  show own_Fin _ _ _ _ (T35.setTop (mkF m 88 #[rv a1, .val (.double (FP.l2d zx.toInt64)), .second] [(.double (FP.dadd es (own_cl (own_er zo.toInt64 (own_mx zb zx.toInt64))))), (.ref a1)]))
  obtain ⟨T36, h36, X36, e36, W36, st36⟩ := putF X35 hx hZ hown (host := "") (Or.inl (hw _ (List.mem_of_getElem? (i := 61) rfl))) Via.refl e35 F_errorSum_a1_32 E_a1_32 (Or.inl (hw _ (List.mem_of_getElem? (i := 62) rfl))) (hw _ (List.mem_of_getElem? (i := 12) rfl)) (ty := .double) (by decide) rfl rfl (g := (mkF m 88 #[rv a1, .val (.double (FP.l2d zx.toInt64)), .second] [(.double (FP.dadd es (own_cl (own_er zo.toInt64 (own_mx zb zx.toInt64))))), (.ref a1)])) rfl rfl (hb hby d9_88)
  refine own_by st36 ?_
  have F_errorSum_a1_36 := F_errorSum_a1_32.same W36
  have E_a1_36 := E_a1_32.wr W36
  have F_periods_a1_36 := F_periods_a1_32.other W36 (Or.inr (slot_ne (Or.inl (hw _ (List.mem_of_getElem? (i := 37) rfl))) (Or.inl (hw _ (List.mem_of_getElem? (i := 62) rfl))) (by decide) (t := .int) (t' := .double) (by decide) (by decide)))
  have F_closedBestErrorSum_a1_36 := F_closedBestErrorSum_a1_32.other W36 (Or.inr (slot_ne (Or.inl (hw _ (List.mem_of_getElem? (i := 71) rfl))) (Or.inl (hw _ (List.mem_of_getElem? (i := 62) rfl))) (by decide) (t := .double) (t' := .double) (by decide) (by decide)))
  have F_optimum_a1_36 := F_optimum_a1_32.other W36 (Or.inr (slot_ne (Or.inl (hw _ (List.mem_of_getElem? (i := 22) rfl))) (Or.inl (hw _ (List.mem_of_getElem? (i := 62) rfl))) (by decide) (t := .double) (t' := .double) (by decide) (by decide)))
  have F_best_a1_36 := F_best_a1_32.other W36 (Or.inr (slot_ne (Or.inl (hw _ (List.mem_of_getElem? (i := 27) rfl))) (Or.inl (hw _ (List.mem_of_getElem? (i := 62) rfl))) (by decide) (t := .double) (t' := .double) (by decide) (by decide)))
  have F_optimumKnown_a1_36 := F_optimumKnown_a1_32.other W36 (Or.inr (slot_ne (Or.inl (hw _ (List.mem_of_getElem? (i := 24) rfl))) (Or.inl (hw _ (List.mem_of_getElem? (i := 62) rfl))) (by decide) (t := .boolean) (t' := .double) (by decide) (by decide)))
  have F_evaluations_a1_36 := F_evaluations_a1_32.other W36 (Or.inr (slot_ne (Or.inl (hw _ (List.mem_of_getElem? (i := 55) rfl))) (Or.inl (hw _ (List.mem_of_getElem? (i := 62) rfl))) (by decide) (t := .long) (t' := .double) (by decide) (by decide)))
  have F_performanceSum_a1_36 := F_performanceSum_a1_32.other W36 (Or.inr (slot_ne (Or.inl (hw _ (List.mem_of_getElem? (i := 60) rfl))) (Or.inl (hw _ (List.mem_of_getElem? (i := 62) rfl))) (by decide) (t := .double) (t' := .double) (by decide) (by decide)))
  have F_optimumSum_a1_36 := F_optimumSum_a1_32.other W36 (Or.inr (slot_ne (Or.inl (hw _ (List.mem_of_getElem? (i := 64) rfl))) (Or.inl (hw _ (List.mem_of_getElem? (i := 62) rfl))) (by decide) (t := .double) (t' := .double) (by decide) (by decide)))
  have N36 := Fr.snoc X36 N32 g_a1
  have Z36 : n0 ≤ h36.size := Nat.le_trans Z32 (Keep.of_wr W36).1
  have K36 := K32.wr W36 (Or.inl (List.mem_of_getElem? (i := 0) rfl))
  show own_Fin _ _ _ _ (T36.setTop (mkF m 91 #[rv a1, .val (.double (FP.l2d zx.toInt64)), .second] []))
  refine own_go (XS.aloadN X36.here hx rfl (hb hby d9_91) rfl rfl (Steps.refl _)) ?_
  show own_Fin _ _ _ _ (T36.setTop (mkF m 92 #[rv a1, .val (.double (FP.l2d zx.toInt64)), .second] [(.ref a1)]))
  refine own_go (XS.dup X36.here hx rfl (hb hby d9_92) rfl rfl (Steps.refl _)) ?_
  show own_Fin _ _ _ _ (T36.setTop (mkF m 93 #[rv a1, .val (.double (FP.l2d zx.toInt64)), .second] [(.ref a1), (.ref a1)]))
  obtain ⟨T37, X37, e37, st37⟩ := getF X36 hx hZ hown (host := "") (Or.inl (hw _ (List.mem_of_getElem? (i := 63) rfl))) Via.refl e36 F_optimumSum_a1_36 (g := (mkF m 93 #[rv a1, .val (.double (FP.l2d zx.toInt64)), .second] [(.ref a1), (.ref a1)])) rfl rfl (hb hby d9_93)
  refine own_by st37 ?_
  show own_Fin _ _ _ _ (T37.setTop (mkF m 96 #[rv a1, .val (.double (FP.l2d zx.toInt64)), .second] [(.double os), (.ref a1)]))
  refine own_go (XS.aloadN X37.here hx rfl (hb hby d9_96) rfl rfl (Steps.refl _)) ?_
  show own_Fin _ _ _ _ (T37.setTop (mkF m 97 #[rv a1, .val (.double (FP.l2d zx.toInt64)), .second] [(.ref a1), (.double os), (.ref a1)]))
  obtain ⟨T38, X38, e38, st38⟩ := getF X37 hx hZ hown (host := "") (Or.inl (hw _ (List.mem_of_getElem? (i := 21) rfl))) Via.refl e37 F_optimum_a1_36 (g := (mkF m 97 #[rv a1, .val (.double (FP.l2d zx.toInt64)), .second] [(.ref a1), (.double os), (.ref a1)])) rfl rfl (hb hby d9_97)
  refine own_by st38 ?_
  show own_Fin _ _ _ _ (T38.setTop (mkF m 100 #[rv a1, .val (.double (FP.l2d zx.toInt64)), .second] [(.double (FP.l2d zo.toInt64)), (.double os), (.ref a1)]))
  refine own_go (XS.daddS X38.here hx rfl (hb hby d9_100) rfl (dadd_out hos (l2d_fin _)) rfl (Steps.refl _)) ?_
  show own_Fin _ _ _ _ (T38.setTop (mkF m 101 #[rv a1, .val (.double (FP.l2d zx.toInt64)), .second] [(.double (FP.dadd os (FP.l2d zo.toInt64))), (.ref a1)]))
  obtain ⟨T39, h39, X39, e39, W39, st39⟩ := putF X38 hx hZ hown (host := "") (Or.inl (hw _ (List.mem_of_getElem? (i := 63) rfl))) Via.refl e38 F_optimumSum_a1_36 E_a1_36 (Or.inl (hw _ (List.mem_of_getElem? (i := 64) rfl))) (hw _ (List.mem_of_getElem? (i := 12) rfl)) (ty := .double) (by decide) rfl rfl (g := (mkF m 101 #[rv a1, .val (.double (FP.l2d zx.toInt64)), .second] [(.double (FP.dadd os (FP.l2d zo.toInt64))), (.ref a1)])) rfl rfl (hb hby d9_101)
  refine own_by st39 ?_
  have F_optimumSum_a1_39 := F_optimumSum_a1_36.same W39
  have E_a1_39 := E_a1_36.wr W39
  have F_periods_a1_39 := F_periods_a1_36.other W39 (Or.inr (slot_ne (Or.inl (hw _ (List.mem_of_getElem? (i := 37) rfl))) (Or.inl (hw _ (List.mem_of_getElem? (i := 64) rfl))) (by decide) (t := .int) (t' := .double) (by decide) (by decide)))
  have F_closedBestErrorSum_a1_39 := F_closedBestErrorSum_a1_36.other W39 (Or.inr (slot_ne (Or.inl (hw _ (List.mem_of_getElem? (i := 71) rfl))) (Or.inl (hw _ (List.mem_of_getElem? (i := 64) rfl))) (by decide) (t := .double) (t' := .double) (by decide) (by decide)))
  have F_optimum_a1_39 := F_optimum_a1_36.other W39 (Or.inr (slot_ne (Or.inl (hw _ (List.mem_of_getElem? (i := 22) rfl))) (Or.inl (hw _ (List.mem_of_getElem? (i := 64) rfl))) (by decide) (t := .double) (t' := .double) (by decide) (by decide)))
  have F_best_a1_39 := F_best_a1_36.other W39 (Or.inr (slot_ne (Or.inl (hw _ (List.mem_of_getElem? (i := 27) rfl))) (Or.inl (hw _ (List.mem_of_getElem? (i := 64) rfl))) (by decide) (t := .double) (t' := .double) (by decide) (by decide)))
  have F_optimumKnown_a1_39 := F_optimumKnown_a1_36.other W39 (Or.inr (slot_ne (Or.inl (hw _ (List.mem_of_getElem? (i := 24) rfl))) (Or.inl (hw _ (List.mem_of_getElem? (i := 64) rfl))) (by decide) (t := .boolean) (t' := .double) (by decide) (by decide)))
  have F_evaluations_a1_39 := F_evaluations_a1_36.other W39 (Or.inr (slot_ne (Or.inl (hw _ (List.mem_of_getElem? (i := 55) rfl))) (Or.inl (hw _ (List.mem_of_getElem? (i := 64) rfl))) (by decide) (t := .long) (t' := .double) (by decide) (by decide)))
  have F_performanceSum_a1_39 := F_performanceSum_a1_36.other W39 (Or.inr (slot_ne (Or.inl (hw _ (List.mem_of_getElem? (i := 60) rfl))) (Or.inl (hw _ (List.mem_of_getElem? (i := 64) rfl))) (by decide) (t := .double) (t' := .double) (by decide) (by decide)))
  have F_errorSum_a1_39 := F_errorSum_a1_36.other W39 (Or.inr (slot_ne (Or.inl (hw _ (List.mem_of_getElem? (i := 62) rfl))) (Or.inl (hw _ (List.mem_of_getElem? (i := 64) rfl))) (by decide) (t := .double) (t' := .double) (by decide) (by decide)))
  have N39 := Fr.snoc X39 N36 g_a1
  have Z39 : n0 ≤ h39.size := Nat.le_trans Z36 (Keep.of_wr W39).1
  have K39 := K36.wr W39 (Or.inl (List.mem_of_getElem? (i := 0) rfl))
  show own_Fin _ _ _ _ (T39.setTop (mkF m 104 #[rv a1, .val (.double (FP.l2d zx.toInt64)), .second] []))
  obtain ⟨fs40, hr40, hrun40, hended40, hW40, hsame40⟩ := X39.leave (v := none) (fun _ => rfl)
  refine own_done (X39.returnOut hx Bd.returns (hb hby d9_104) hr40) hrun40 hended40 ⟨_, _, rfl, ?_, ⟨_, rfl⟩, hW40, hsame40.mono (by decide) (by decide)⟩
  show Qrc Z a1 zx zP zc zo zb ev ps es os h0 n0 _ T39.heap _
  rw [e39]
  exact ⟨(FP.dadd ps (own_be (own_mx zb zx.toInt64))), (FP.dadd es (own_cl (own_er zo.toInt64 (own_mx zb zx.toInt64)))), (FP.dadd os (FP.l2d zo.toInt64)), (ev + (1 : Int64)), rfl, N39, K39, E_a1_39, F_periods_a1_39, F_closedBestErrorSum_a1_39, F_optimum_a1_39, F_best_a1_39, F_optimumKnown_a1_39, F_evaluations_a1_39, F_performanceSum_a1_39, F_errorSum_a1_39, F_optimumSum_a1_39, (dadd_out hps (own_fb _ _)), (dadd_out hes (own_fe _ _ _)), (dadd_out hos (l2d_fin _))⟩
theorem own_W0 : own_W 0 (some 0) := fun v h => by cases h; decide
theorem own_Wm {n k : Int} {c : Option Int64} (h : own_W n c) (hn : n ≤ k) : own_W k c := fun v hv => by have := h v hv; omega
theorem d7_0 : decode prog_43_method_2_code 0 = .ok (.aload_n 0, 1) := by decide +kernel
theorem d7_1 : decode prog_43_method_2_code 1 = .ok (.getfield 26, 3) := by decide +kernel
theorem d7_4 : decode prog_43_method_2_code 4 = .ok (.ifCond .le 21, 3) := by decide +kernel
theorem d7_7 : decode prog_43_method_2_code 7 = .ok (.aload_n 0, 1) := by decide +kernel
theorem d7_8 : decode prog_43_method_2_code 8 = .ok (.dup, 1) := by decide +kernel
theorem d7_9 : decode prog_43_method_2_code 9 = .ok (.getfield 30, 3) := by decide +kernel
theorem d7_12 : decode prog_43_method_2_code 12 = .ok (.aload_n 0, 1) := by decide +kernel
theorem d7_13 : decode prog_43_method_2_code 13 = .ok (.getfield 11, 3) := by decide +kernel
theorem d7_16 : decode prog_43_method_2_code 16 = .ok (.aload_n 0, 1) := by decide +kernel
theorem d7_17 : decode prog_43_method_2_code 17 = .ok (.getfield 23, 3) := by decide +kernel
theorem d7_20 : decode prog_43_method_2_code 20 = .ok (.dsub, 1) := by decide +kernel
theorem d7_21 : decode prog_43_method_2_code 21 = .ok (.dadd, 1) := by decide +kernel
theorem d7_22 : decode prog_43_method_2_code 22 = .ok (.putfield 30, 3) := by decide +kernel
theorem d7_25 : decode prog_43_method_2_code 25 = .ok (.aload_n 0, 1) := by decide +kernel
theorem d7_26 : decode prog_43_method_2_code 26 = .ok (.dup, 1) := by decide +kernel
theorem d7_27 : decode prog_43_method_2_code 27 = .ok (.getfield 26, 3) := by decide +kernel
theorem d7_30 : decode prog_43_method_2_code 30 = .ok (.iconst 1, 1) := by decide +kernel
theorem d7_31 : decode prog_43_method_2_code 31 = .ok (.iadd, 1) := by decide +kernel
theorem d7_32 : decode prog_43_method_2_code 32 = .ok (.putfield 26, 3) := by decide +kernel
theorem d7_35 : decode prog_43_method_2_code 35 = .ok (.aload_n 0, 1) := by decide +kernel
theorem d7_36 : decode prog_43_method_2_code 36 = .ok (.dload_n 1, 1) := by decide +kernel
theorem d7_37 : decode prog_43_method_2_code 37 = .ok (.putfield 11, 3) := by decide +kernel
theorem d7_40 : decode prog_43_method_2_code 40 = .ok (.aload_n 0, 1) := by decide +kernel
theorem d7_41 : decode prog_43_method_2_code 41 = .ok (.dup, 1) := by decide +kernel
theorem d7_42 : decode prog_43_method_2_code 42 = .ok (.getfield 17, 3) := by decide +kernel
theorem d7_45 : decode prog_43_method_2_code 45 = .ok (.dload_n 1, 1) := by decide +kernel
theorem d7_46 : decode prog_43_method_2_code 46 = .ok (.invokestatic 33, 3) := by decide +kernel
theorem d7_49 : decode prog_43_method_2_code 49 = .ok (.ifCond .ne 7, 3) := by decide +kernel
theorem d7_52 : decode prog_43_method_2_code 52 = .ok (.iconst 1, 1) := by decide +kernel
theorem d7_53 : decode prog_43_method_2_code 53 = .ok (.goto 4, 3) := by decide +kernel
theorem d7_56 : decode prog_43_method_2_code 56 = .ok (.iconst 0, 1) := by decide +kernel
theorem d7_57 : decode prog_43_method_2_code 57 = .ok (.iand, 1) := by decide +kernel
theorem d7_58 : decode prog_43_method_2_code 58 = .ok (.putfield 17, 3) := by decide +kernel
theorem d7_61 : decode prog_43_method_2_code 61 = .ok (.aload_n 0, 1) := by decide +kernel
theorem d7_62 : decode prog_43_method_2_code 62 = .ok (.ldc2_w 21, 3) := by decide +kernel
theorem d7_65 : decode prog_43_method_2_code 65 = .ok (.putfield 23, 3) := by decide +kernel
theorem d7_68 : decode prog_43_method_2_code 68 = .ok (.return_, 1) := by decide +kernel
theorem ef_sp_0 (m : MethodId) (x0 : Addr) (x1 : UInt64) : entryFrame m #[(.ref x0), (.double x1)] 3 = mkF m 0 #[.val (.ref x0), .val (.double x1), .second] [] := by first | (simp [entryFrame, mkF, argsToLocals, Value.category]; done) | rfl
def Qsp_0 (Z : State) (a1 : Addr) (on : Int32) (ou : UInt64) (ev : Int64) (ps : UInt64) (es : UInt64) (os : UInt64) (h0 : Heap) (n0 : Nat) (v : Option Value) (h : Heap) (L : List Loc) : Prop := v = none ∧ Fr n0 L ∧ Keep h0 h [a1] ∧ Exa Z h a1 "com/example/tidewalk/tidewalk/problems/RunMeasures" ∧ Fld Z h a1 "com/example/tidewalk/tidewalk/problems/RunMeasures" "periods" "I" (.int (1 : Int32)) ∧ Fld Z h a1 "com/example/tidewalk/tidewalk/problems/RunMeasures" "closedBestErrorSum" "D" (.double (own_cl (some 0))) ∧ Fld Z h a1 "com/example/tidewalk/tidewalk/problems/RunMeasures" "optimum" "D" (.double (FP.l2d on.toInt64)) ∧ Fld Z h a1 "com/example/tidewalk/tidewalk/problems/RunMeasures" "best" "D" (.double (own_be none)) ∧ Fld Z h a1 "com/example/tidewalk/tidewalk/problems/RunMeasures" "optimumKnown" "Z" (.int (1 : Int32)) ∧ Fld Z h a1 "com/example/tidewalk/tidewalk/problems/RunMeasures" "evaluations" "J" (.long ev) ∧ Fld Z h a1 "com/example/tidewalk/tidewalk/problems/RunMeasures" "performanceSum" "D" (.double ps) ∧ Fld Z h a1 "com/example/tidewalk/tidewalk/problems/RunMeasures" "errorSum" "D" (.double es) ∧ Fld Z h a1 "com/example/tidewalk/tidewalk/problems/RunMeasures" "optimumSum" "D" (.double os)
abbrev Gsp_0 (Z : State) (a1 : Addr) (on : Int32) (ou : UInt64) (ev : Int64) (ps : UInt64) (es : UInt64) (os : UInt64) (h0 : Heap) (n0 : Nat) (s : State) : Outcome → State → Prop := fun o U' => ∃ v L, o = .returned v ∧ Qsp_0 Z a1 on ou ev ps es os h0 n0 v U'.heap L ∧ FrameEnd s o U' L ({ frames := 1, cells := 0, slots := 0, locals := 20 } : Room).cells ({ frames := 1, cells := 0, slots := 0, locals := 20 } : Room).slots
set_option maxRecDepth 65536 in
set_option maxHeartbeats 40000000 in
theorem rmsp_0 (l : Launch) (Z : State) (a0 : Array Value) (hw : ∀ d ∈ tables_1, d.before a0 Z = true) (ws : List Jvm.Cond) (a1 : Addr) (on : Int32) (ou : UInt64) (ev : Int64) (ps : UInt64) (es : UInt64) (os : UInt64) (h0 : Heap) (n0 : Nat) (Z0 : n0 ≤ h0.size) (E_a1 : Exa Z h0 a1 "com/example/tidewalk/tidewalk/problems/RunMeasures") (F_periods_a1 : Fld Z h0 a1 "com/example/tidewalk/tidewalk/problems/RunMeasures" "periods" "I" (.int (0 : Int32))) (F_closedBestErrorSum_a1 : Fld Z h0 a1 "com/example/tidewalk/tidewalk/problems/RunMeasures" "closedBestErrorSum" "D" (.double (own_cl (some 0)))) (F_optimum_a1 : Fld Z h0 a1 "com/example/tidewalk/tidewalk/problems/RunMeasures" "optimum" "D" (.double ou)) (F_best_a1 : Fld Z h0 a1 "com/example/tidewalk/tidewalk/problems/RunMeasures" "best" "D" (.double (own_be none))) (F_optimumKnown_a1 : Fld Z h0 a1 "com/example/tidewalk/tidewalk/problems/RunMeasures" "optimumKnown" "Z" (.int (1 : Int32))) (F_evaluations_a1 : Fld Z h0 a1 "com/example/tidewalk/tidewalk/problems/RunMeasures" "evaluations" "J" (.long ev)) (F_performanceSum_a1 : Fld Z h0 a1 "com/example/tidewalk/tidewalk/problems/RunMeasures" "performanceSum" "D" (.double ps)) (F_errorSum_a1 : Fld Z h0 a1 "com/example/tidewalk/tidewalk/problems/RunMeasures" "errorSum" "D" (.double es)) (F_optimumSum_a1 : Fld Z h0 a1 "com/example/tidewalk/tidewalk/problems/RunMeasures" "optimumSum" "D" (.double os)) (g_a1 : n0 ≤ a1) :
    MetFree l (⟨"com/example/tidewalk/tidewalk/problems/RunMeasures", "startPeriod", "(D)V"⟩ : MethodName) (head1 (Jvm.Cond.code (⟨"com/example/tidewalk/tidewalk/problems/RunMeasures", "startPeriod", "(D)V"⟩ : MethodName) prog_43_method_2_code 3 none :: ws) ({ frames := 1, cells := 0, slots := 0, locals := 20 } : Room)) (fun a U => a = #[(.ref a1), (.double (FP.l2d on.toInt64))] ∧ Z.Warmed39 U.vm ∧ U.heap = h0) (fun _ _ _ _ _ => True) (fun _ U o U' => ∃ v L, o = .returned v ∧ Qsp_0 Z a1 on ou ev ps es os h0 n0 v U'.heap L ∧ FrameEnd U o U' L ({ frames := 1, cells := 0, slots := 0, locals := 20 } : Room).cells ({ frames := 1, cells := 0, slots := 0, locals := 20 } : Room).slots) := by
  refine MetFree.of_bodySF (plainFor_of_name pn_com_example_tidewalk_tidewalk_problems_RunMeasures) hisR ?_
  intro p e s m args below meth c s₁ Bd hml0 hP hK
  obtain ⟨rfl, hZ, hh⟩ := hP
  have hx := Bd.exec
  have hby := Bd.bytes
  have hml : c.maxLocals = 3 := hml0
  have hown : s.vm.findClass "com/example/tidewalk/tidewalk/problems/RunMeasures" = some m.cls := findClass_of_methodNamed Bd.named
  have hnm := (name_of_methodNamed Bd.named Bd.method).1
  have X0 : Stand p l e ({ frames := 1, cells := 0, slots := 0, locals := 20 } : Room) s m #[(.ref a1), (.double (FP.l2d on.toInt64))] below meth c s₁ [] 0 0 := Stand.of_body Bd
  have e0 : s₁.heap = h0 := by rw [← hh, Bd.state]; rfl
  have es0 : s.heap = h0 := hh
  have N0 := Fr.nil n0
  show own_Fin p e below (Gsp_0 Z a1 on ou ev ps es os h0 n0 s) (s₁.setTop (entryFrame m #[(.ref a1), (.double (FP.l2d on.toInt64))] 3))
  rw [ef_sp_0 m a1 (FP.l2d on.toInt64)]
  have Kz := Keep.refl h0 [a1]
  refine own_go (XS.aloadN X0.here hx rfl (hb hby d7_0) rfl rfl (Steps.refl _)) ?_
  show own_Fin _ _ _ _ (s₁.setTop (mkF m 1 #[rv a1, .val (.double (FP.l2d on.toInt64)), .second] [(.ref a1)]))
  obtain ⟨T41, X41, e41, st41⟩ := getF X0 hx hZ hown (host := "") (Or.inl (hw _ (List.mem_of_getElem? (i := 36) rfl))) Via.refl e0 F_periods_a1 (g := (mkF m 1 #[rv a1, .val (.double (FP.l2d on.toInt64)), .second] [(.ref a1)])) rfl rfl (hb hby d7_1)
  refine own_by st41 ?_
  show own_Fin _ _ _ _ (T41.setTop (mkF m 4 #[rv a1, .val (.double (FP.l2d on.toInt64)), .second] [(.int (0 : Int32))]))
  refine own_go (XS.ifYes X41.here hx rfl (pc0 := 4) (pc' := 25) rfl (hb hby d7_4) rfl ((if0 _ _).trans (flt (by decide : ¬ ((0 : Int32) < (0 : Int32)))).2.2.2) (by decide) (by decide) (Steps.refl _)) ?_
  show own_Fin _ _ _ _ (T41.setTop (mkF m 25 #[rv a1, .val (.double (FP.l2d on.toInt64)), .second] []))
  refine own_go (XS.aloadN X41.here hx rfl (hb hby d7_25) rfl rfl (Steps.refl _)) ?_
  show own_Fin _ _ _ _ (T41.setTop (mkF m 26 #[rv a1, .val (.double (FP.l2d on.toInt64)), .second] [(.ref a1)]))
  refine own_go (XS.dup X41.here hx rfl (hb hby d7_26) rfl rfl (Steps.refl _)) ?_
  show own_Fin _ _ _ _ (T41.setTop (mkF m 27 #[rv a1, .val (.double (FP.l2d on.toInt64)), .second] [(.ref a1), (.ref a1)]))
  obtain ⟨T42, X42, e42, st42⟩ := getF X41 hx hZ hown (host := "") (Or.inl (hw _ (List.mem_of_getElem? (i := 36) rfl))) Via.refl e41 F_periods_a1 (g := (mkF m 27 #[rv a1, .val (.double (FP.l2d on.toInt64)), .second] [(.ref a1), (.ref a1)])) rfl rfl (hb hby d7_27)
  refine own_by st42 ?_
  show own_Fin _ _ _ _ (T42.setTop (mkF m 30 #[rv a1, .val (.double (FP.l2d on.toInt64)), .second] [(.int (0 : Int32)), (.ref a1)]))
  refine own_go (XS.iconst X42.here hx rfl (hb hby d7_30) (Steps.refl _)) ?_
  show own_Fin _ _ _ _ (T42.setTop (mkF m 31 #[rv a1, .val (.double (FP.l2d on.toInt64)), .second] [(.int (1 : Int32)), (.int (0 : Int32)), (.ref a1)]))
  refine own_go (XS.iadd X42.here hx rfl (hb hby d7_31) rfl (Steps.refl _)) ?_
  show own_Fin _ _ _ _ (T42.setTop (mkF m 32 #[rv a1, .val (.double (FP.l2d on.toInt64)), .second] [(.int (1 : Int32)), (.ref a1)]))
  obtain ⟨T43, h43, X43, e43, W43, st43⟩ := putF X42 hx hZ hown (host := "") (Or.inl (hw _ (List.mem_of_getElem? (i := 36) rfl))) Via.refl e42 F_periods_a1 E_a1 (Or.inl (hw _ (List.mem_of_getElem? (i := 37) rfl))) (hw _ (List.mem_of_getElem? (i := 12) rfl)) (ty := .int) (by decide) rfl rfl (g := (mkF m 32 #[rv a1, .val (.double (FP.l2d on.toInt64)), .second] [(.int (1 : Int32)), (.ref a1)])) rfl rfl (hb hby d7_32)
  refine own_by st43 ?_
  have F_periods_a1_43 := F_periods_a1.same W43
  have E_a1_43 := E_a1.wr W43
  have F_closedBestErrorSum_a1_43 := F_closedBestErrorSum_a1.other W43 (Or.inr (slot_ne (Or.inl (hw _ (List.mem_of_getElem? (i := 71) rfl))) (Or.inl (hw _ (List.mem_of_getElem? (i := 37) rfl))) (by decide) (t := .double) (t' := .int) (by decide) (by decide)))
  have F_optimum_a1_43 := F_optimum_a1.other W43 (Or.inr (slot_ne (Or.inl (hw _ (List.mem_of_getElem? (i := 22) rfl))) (Or.inl (hw _ (List.mem_of_getElem? (i := 37) rfl))) (by decide) (t := .double) (t' := .int) (by decide) (by decide)))
  have F_best_a1_43 := F_best_a1.other W43 (Or.inr (slot_ne (Or.inl (hw _ (List.mem_of_getElem? (i := 27) rfl))) (Or.inl (hw _ (List.mem_of_getElem? (i := 37) rfl))) (by decide) (t := .double) (t' := .int) (by decide) (by decide)))
  have F_optimumKnown_a1_43 := F_optimumKnown_a1.other W43 (Or.inr (slot_ne (Or.inl (hw _ (List.mem_of_getElem? (i := 24) rfl))) (Or.inl (hw _ (List.mem_of_getElem? (i := 37) rfl))) (by decide) (t := .boolean) (t' := .int) (by decide) (by decide)))
  have F_evaluations_a1_43 := F_evaluations_a1.other W43 (Or.inr (slot_ne (Or.inl (hw _ (List.mem_of_getElem? (i := 55) rfl))) (Or.inl (hw _ (List.mem_of_getElem? (i := 37) rfl))) (by decide) (t := .long) (t' := .int) (by decide) (by decide)))
  have F_performanceSum_a1_43 := F_performanceSum_a1.other W43 (Or.inr (slot_ne (Or.inl (hw _ (List.mem_of_getElem? (i := 60) rfl))) (Or.inl (hw _ (List.mem_of_getElem? (i := 37) rfl))) (by decide) (t := .double) (t' := .int) (by decide) (by decide)))
  have F_errorSum_a1_43 := F_errorSum_a1.other W43 (Or.inr (slot_ne (Or.inl (hw _ (List.mem_of_getElem? (i := 62) rfl))) (Or.inl (hw _ (List.mem_of_getElem? (i := 37) rfl))) (by decide) (t := .double) (t' := .int) (by decide) (by decide)))
  have F_optimumSum_a1_43 := F_optimumSum_a1.other W43 (Or.inr (slot_ne (Or.inl (hw _ (List.mem_of_getElem? (i := 64) rfl))) (Or.inl (hw _ (List.mem_of_getElem? (i := 37) rfl))) (by decide) (t := .double) (t' := .int) (by decide) (by decide)))
  have N43 := Fr.snoc X43 N0 g_a1
  have Z43 : n0 ≤ h43.size := Nat.le_trans Z0 (Keep.of_wr W43).1
  have K43 := Kz.wr W43 (Or.inl (List.mem_of_getElem? (i := 0) rfl))
  show own_Fin _ _ _ _ (T43.setTop (mkF m 35 #[rv a1, .val (.double (FP.l2d on.toInt64)), .second] []))
  refine own_go (XS.aloadN X43.here hx rfl (hb hby d7_35) rfl rfl (Steps.refl _)) ?_
  show own_Fin _ _ _ _ (T43.setTop (mkF m 36 #[rv a1, .val (.double (FP.l2d on.toInt64)), .second] [(.ref a1)]))
  refine own_go (XS.dloadN X43.here hx rfl (hb hby d7_36) rfl (Steps.refl _)) ?_
  show own_Fin _ _ _ _ (T43.setTop (mkF m 37 #[rv a1, .val (.double (FP.l2d on.toInt64)), .second] [(.double (FP.l2d on.toInt64)), (.ref a1)]))
  obtain ⟨T44, h44, X44, e44, W44, st44⟩ := putF X43 hx hZ hown (host := "") (Or.inl (hw _ (List.mem_of_getElem? (i := 21) rfl))) Via.refl e43 F_optimum_a1_43 E_a1_43 (Or.inl (hw _ (List.mem_of_getElem? (i := 22) rfl))) (hw _ (List.mem_of_getElem? (i := 12) rfl)) (ty := .double) (by decide) rfl rfl (g := (mkF m 37 #[rv a1, .val (.double (FP.l2d on.toInt64)), .second] [(.double (FP.l2d on.toInt64)), (.ref a1)])) rfl rfl (hb hby d7_37)
  refine own_by st44 ?_
  have F_optimum_a1_44 := F_optimum_a1_43.same W44
  have E_a1_44 := E_a1_43.wr W44
  have F_periods_a1_44 := F_periods_a1_43.other W44 (Or.inr (slot_ne (Or.inl (hw _ (List.mem_of_getElem? (i := 37) rfl))) (Or.inl (hw _ (List.mem_of_getElem? (i := 22) rfl))) (by decide) (t := .int) (t' := .double) (by decide) (by decide)))
  have F_closedBestErrorSum_a1_44 := F_closedBestErrorSum_a1_43.other W44 (Or.inr (slot_ne (Or.inl (hw _ (List.mem_of_getElem? (i := 71) rfl))) (Or.inl (hw _ (List.mem_of_getElem? (i := 22) rfl))) (by decide) (t := .double) (t' := .double) (by decide) (by decide)))
  have F_best_a1_44 := F_best_a1_43.other W44 (Or.inr (slot_ne (Or.inl (hw _ (List.mem_of_getElem? (i := 27) rfl))) (Or.inl (hw _ (List.mem_of_getElem? (i := 22) rfl))) (by decide) (t := .double) (t' := .double) (by decide) (by decide)))
  have F_optimumKnown_a1_44 := F_optimumKnown_a1_43.other W44 (Or.inr (slot_ne (Or.inl (hw _ (List.mem_of_getElem? (i := 24) rfl))) (Or.inl (hw _ (List.mem_of_getElem? (i := 22) rfl))) (by decide) (t := .boolean) (t' := .double) (by decide) (by decide)))
  have F_evaluations_a1_44 := F_evaluations_a1_43.other W44 (Or.inr (slot_ne (Or.inl (hw _ (List.mem_of_getElem? (i := 55) rfl))) (Or.inl (hw _ (List.mem_of_getElem? (i := 22) rfl))) (by decide) (t := .long) (t' := .double) (by decide) (by decide)))
  have F_performanceSum_a1_44 := F_performanceSum_a1_43.other W44 (Or.inr (slot_ne (Or.inl (hw _ (List.mem_of_getElem? (i := 60) rfl))) (Or.inl (hw _ (List.mem_of_getElem? (i := 22) rfl))) (by decide) (t := .double) (t' := .double) (by decide) (by decide)))
  have F_errorSum_a1_44 := F_errorSum_a1_43.other W44 (Or.inr (slot_ne (Or.inl (hw _ (List.mem_of_getElem? (i := 62) rfl))) (Or.inl (hw _ (List.mem_of_getElem? (i := 22) rfl))) (by decide) (t := .double) (t' := .double) (by decide) (by decide)))
  have F_optimumSum_a1_44 := F_optimumSum_a1_43.other W44 (Or.inr (slot_ne (Or.inl (hw _ (List.mem_of_getElem? (i := 64) rfl))) (Or.inl (hw _ (List.mem_of_getElem? (i := 22) rfl))) (by decide) (t := .double) (t' := .double) (by decide) (by decide)))
  have N44 := Fr.snoc X44 N43 g_a1
  have Z44 : n0 ≤ h44.size := Nat.le_trans Z43 (Keep.of_wr W44).1
  have K44 := K43.wr W44 (Or.inl (List.mem_of_getElem? (i := 0) rfl))
  show own_Fin _ _ _ _ (T44.setTop (mkF m 40 #[rv a1, .val (.double (FP.l2d on.toInt64)), .second] []))
  refine own_go (XS.aloadN X44.here hx rfl (hb hby d7_40) rfl rfl (Steps.refl _)) ?_
  show own_Fin _ _ _ _ (T44.setTop (mkF m 41 #[rv a1, .val (.double (FP.l2d on.toInt64)), .second] [(.ref a1)]))
  refine own_go (XS.dup X44.here hx rfl (hb hby d7_41) rfl rfl (Steps.refl _)) ?_
  show own_Fin _ _ _ _ (T44.setTop (mkF m 42 #[rv a1, .val (.double (FP.l2d on.toInt64)), .second] [(.ref a1), (.ref a1)]))
  obtain ⟨T45, X45, e45, st45⟩ := getF X44 hx hZ hown (host := "") (Or.inl (hw _ (List.mem_of_getElem? (i := 23) rfl))) Via.refl e44 F_optimumKnown_a1_44 (g := (mkF m 42 #[rv a1, .val (.double (FP.l2d on.toInt64)), .second] [(.ref a1), (.ref a1)])) rfl rfl (hb hby d7_42)
  refine own_by st45 ?_
  show own_Fin _ _ _ _ (T45.setTop (mkF m 45 #[rv a1, .val (.double (FP.l2d on.toInt64)), .second] [(.int (1 : Int32)), (.ref a1)]))
  refine own_go (XS.dloadN X45.here hx rfl (hb hby d7_45) rfl (Steps.refl _)) ?_
  show own_Fin _ _ _ _ (T45.setTop (mkF m 46 #[rv a1, .val (.double (FP.l2d on.toInt64)), .second] [(.double (FP.l2d on.toInt64)), (.int (1 : Int32)), (.ref a1)]))
  obtain ⟨_, _, ⟨T46, L46, k46, n46⟩, -, X46, ⟨Lc46, hQ46, l46, y46, z46⟩, st46⟩ := Jvm.LawKit.callS X45 hx (y := (⟨"java/lang/Double", "isNaN", "(D)Z"⟩ : MethodName)) hown (mvT hZ (hw _ (List.mem_of_getElem? (i := 38) rfl))) (mvT hZ (hw _ (List.mem_of_getElem? (i := 39) rfl))) (mvT hZ (hw _ (List.mem_of_getElem? (i := 40) rfl))) (mvT hZ (hw _ (List.mem_of_getElem? (i := 41) rfl))) (by decide) (backOf (W := 2) (rmisn l Z a0 hw [] (FP.l2d on.toInt64) h44 n0 Z44 (l2d_fin _).noNaN) hZ (hw _ (List.mem_of_getElem? (i := 41) rfl)) (hw _ (List.mem_of_getElem? (i := 40) rfl)) (by decide) (by decide)) (g := (mkF m 46 #[rv a1, .val (.double (FP.l2d on.toInt64)), .second] [(.double (FP.l2d on.toInt64)), (.int (1 : Int32)), (.ref a1)])) rfl (by rw [hml]; rfl) (argsL := [(.double (FP.l2d on.toInt64))]) (rest := [(.int (1 : Int32)), (.ref a1)]) (lenOf pd__28_D_29_Z rfl) rfl (by show 2 * 0 + _ ≤ _; exact Nat.le_of_eq rfl) (hb hby d7_46) (fun _ hv => ⟨rfl, e45, (by decide : 0 + 0 ≤ _), (by decide : 0 + 0 ≤ _)⟩)
  dsimp only [Pt.U, Pt.locs, Pt.cells, Pt.slots] at X46 l46 y46 z46 st46 hQ46
  subst l46 y46 z46
  obtain ⟨rfl, Nq46, e46⟩ := hQ46
  refine own_by st46 ?_
  have N46 := Fr.app N44 Nq46
  show own_Fin _ _ _ _ (T46.setTop (mkF m 49 #[rv a1, .val (.double (FP.l2d on.toInt64)), .second] [(.int (0 : Int32)), (.int (1 : Int32)), (.ref a1)]))
  refine own_go (XS.ifNo X46.here hx rfl (hb hby d7_49) rfl ((if0 _ _).trans (teq (by decide : (0 : Int32) = (0 : Int32))).2) (Steps.refl _)) ?_
  show own_Fin _ _ _ _ (T46.setTop (mkF m 52 #[rv a1, .val (.double (FP.l2d on.toInt64)), .second] [(.int (1 : Int32)), (.ref a1)]))
  refine own_go (XS.iconst X46.here hx rfl (hb hby d7_52) (Steps.refl _)) ?_
  show own_Fin _ _ _ _ (T46.setTop (mkF m 53 #[rv a1, .val (.double (FP.l2d on.toInt64)), .second] [(.int (1 : Int32)), (.int (1 : Int32)), (.ref a1)]))
  refine own_go (XS.goto X46.here hx rfl (pc0 := 53) (pc' := 57) rfl (hb hby d7_53) (by decide) (by decide) (Steps.refl _)) ?_
  show own_Fin _ _ _ _ (T46.setTop (mkF m 57 #[rv a1, .val (.double (FP.l2d on.toInt64)), .second] [(.int (1 : Int32)), (.int (1 : Int32)), (.ref a1)]))
  refine own_go (XS.iand X46.here hx rfl (hb hby d7_57) rfl (Steps.refl _)) ?_
  show own_Fin _ _ _ _ (T46.setTop (mkF m 58 #[rv a1, .val (.double (FP.l2d on.toInt64)), .second] [(.int (1 : Int32)), (.ref a1)]))
  obtain ⟨T47, h47, X47, e47, W47, st47⟩ := putFN X46 hx hZ hown (hw _ (List.mem_of_getElem? (i := 23) rfl)) Via.refl e46 F_optimumKnown_a1_44 E_a1_44 (Or.inl (hw _ (List.mem_of_getElem? (i := 24) rfl))) (hw _ (List.mem_of_getElem? (i := 12) rfl)) (ty := .boolean) (v' := (.int (nar .boolean (1 : Int32)))) (by decide) rfl (fits_nar_bool _) (g := (mkF m 58 #[rv a1, .val (.double (FP.l2d on.toInt64)), .second] [(.int (1 : Int32)), (.ref a1)])) rfl rfl (hb hby d7_58)
  refine own_by st47 ?_
  have F_optimumKnown_a1_47 := F_optimumKnown_a1_44.same W47
  have E_a1_47 := E_a1_44.wr W47
  have F_periods_a1_47 := F_periods_a1_44.other W47 (Or.inr (slot_ne (Or.inl (hw _ (List.mem_of_getElem? (i := 37) rfl))) (Or.inl (hw _ (List.mem_of_getElem? (i := 24) rfl))) (by decide) (t := .int) (t' := .boolean) (by decide) (by decide)))
  have F_closedBestErrorSum_a1_47 := F_closedBestErrorSum_a1_44.other W47 (Or.inr (slot_ne (Or.inl (hw _ (List.mem_of_getElem? (i := 71) rfl))) (Or.inl (hw _ (List.mem_of_getElem? (i := 24) rfl))) (by decide) (t := .double) (t' := .boolean) (by decide) (by decide)))
  have F_optimum_a1_47 := F_optimum_a1_44.other W47 (Or.inr (slot_ne (Or.inl (hw _ (List.mem_of_getElem? (i := 22) rfl))) (Or.inl (hw _ (List.mem_of_getElem? (i := 24) rfl))) (by decide) (t := .double) (t' := .boolean) (by decide) (by decide)))
  have F_best_a1_47 := F_best_a1_44.other W47 (Or.inr (slot_ne (Or.inl (hw _ (List.mem_of_getElem? (i := 27) rfl))) (Or.inl (hw _ (List.mem_of_getElem? (i := 24) rfl))) (by decide) (t := .double) (t' := .boolean) (by decide) (by decide)))
  have F_evaluations_a1_47 := F_evaluations_a1_44.other W47 (Or.inr (slot_ne (Or.inl (hw _ (List.mem_of_getElem? (i := 55) rfl))) (Or.inl (hw _ (List.mem_of_getElem? (i := 24) rfl))) (by decide) (t := .long) (t' := .boolean) (by decide) (by decide)))
  have F_performanceSum_a1_47 := F_performanceSum_a1_44.other W47 (Or.inr (slot_ne (Or.inl (hw _ (List.mem_of_getElem? (i := 60) rfl))) (Or.inl (hw _ (List.mem_of_getElem? (i := 24) rfl))) (by decide) (t := .double) (t' := .boolean) (by decide) (by decide)))
  have F_errorSum_a1_47 := F_errorSum_a1_44.other W47 (Or.inr (slot_ne (Or.inl (hw _ (List.mem_of_getElem? (i := 62) rfl))) (Or.inl (hw _ (List.mem_of_getElem? (i := 24) rfl))) (by decide) (t := .double) (t' := .boolean) (by decide) (by decide)))
  have F_optimumSum_a1_47 := F_optimumSum_a1_44.other W47 (Or.inr (slot_ne (Or.inl (hw _ (List.mem_of_getElem? (i := 64) rfl))) (Or.inl (hw _ (List.mem_of_getElem? (i := 24) rfl))) (by decide) (t := .double) (t' := .boolean) (by decide) (by decide)))
  have N47 := Fr.snoc X47 N46 g_a1
  have Z47 : n0 ≤ h47.size := Nat.le_trans Z44 (Keep.of_wr W47).1
  have K47 := K44.wr W47 (Or.inl (List.mem_of_getElem? (i := 0) rfl))
  show own_Fin _ _ _ _ (T47.setTop (mkF m 61 #[rv a1, .val (.double (FP.l2d on.toInt64)), .second] []))
  refine own_go (XS.aloadN X47.here hx rfl (hb hby d7_61) rfl rfl (Steps.refl _)) ?_
  show own_Fin _ _ _ _ (T47.setTop (mkF m 62 #[rv a1, .val (.double (FP.l2d on.toInt64)), .second] [(.ref a1)]))
  refine own_by (X47.ldc2DoubleC hx hown (mvT hZ (hw _ (List.mem_of_getElem? (i := 25) rfl))) (g := (mkF m 62 #[rv a1, .val (.double (FP.l2d on.toInt64)), .second] [(.ref a1)])) rfl (hb hby d7_62)) ?_
  show own_Fin _ _ _ _ (T47.setTop (mkF m 65 #[rv a1, .val (.double (FP.l2d on.toInt64)), .second] [(.double (18442240474082181120 : UInt64)), (.ref a1)]))
  obtain ⟨T48, h48, X48, e48, W48, st48⟩ := putF X47 hx hZ hown (host := "") (Or.inl (hw _ (List.mem_of_getElem? (i := 26) rfl))) Via.refl e47 F_best_a1_47 E_a1_47 (Or.inl (hw _ (List.mem_of_getElem? (i := 27) rfl))) (hw _ (List.mem_of_getElem? (i := 12) rfl)) (ty := .double) (by decide) rfl rfl (g := (mkF m 65 #[rv a1, .val (.double (FP.l2d on.toInt64)), .second] [(.double (18442240474082181120 : UInt64)), (.ref a1)])) rfl rfl (hb hby d7_65)
  refine own_by st48 ?_
  have F_best_a1_48 := F_best_a1_47.same W48
  have E_a1_48 := E_a1_47.wr W48
  have F_periods_a1_48 := F_periods_a1_47.other W48 (Or.inr (slot_ne (Or.inl (hw _ (List.mem_of_getElem? (i := 37) rfl))) (Or.inl (hw _ (List.mem_of_getElem? (i := 27) rfl))) (by decide) (t := .int) (t' := .double) (by decide) (by decide)))
  have F_closedBestErrorSum_a1_48 := F_closedBestErrorSum_a1_47.other W48 (Or.inr (slot_ne (Or.inl (hw _ (List.mem_of_getElem? (i := 71) rfl))) (Or.inl (hw _ (List.mem_of_getElem? (i := 27) rfl))) (by decide) (t := .double) (t' := .double) (by decide) (by decide)))
  have F_optimum_a1_48 := F_optimum_a1_47.other W48 (Or.inr (slot_ne (Or.inl (hw _ (List.mem_of_getElem? (i := 22) rfl))) (Or.inl (hw _ (List.mem_of_getElem? (i := 27) rfl))) (by decide) (t := .double) (t' := .double) (by decide) (by decide)))
  have F_optimumKnown_a1_48 := F_optimumKnown_a1_47.other W48 (Or.inr (slot_ne (Or.inl (hw _ (List.mem_of_getElem? (i := 24) rfl))) (Or.inl (hw _ (List.mem_of_getElem? (i := 27) rfl))) (by decide) (t := .boolean) (t' := .double) (by decide) (by decide)))
  have F_evaluations_a1_48 := F_evaluations_a1_47.other W48 (Or.inr (slot_ne (Or.inl (hw _ (List.mem_of_getElem? (i := 55) rfl))) (Or.inl (hw _ (List.mem_of_getElem? (i := 27) rfl))) (by decide) (t := .long) (t' := .double) (by decide) (by decide)))
  have F_performanceSum_a1_48 := F_performanceSum_a1_47.other W48 (Or.inr (slot_ne (Or.inl (hw _ (List.mem_of_getElem? (i := 60) rfl))) (Or.inl (hw _ (List.mem_of_getElem? (i := 27) rfl))) (by decide) (t := .double) (t' := .double) (by decide) (by decide)))
  have F_errorSum_a1_48 := F_errorSum_a1_47.other W48 (Or.inr (slot_ne (Or.inl (hw _ (List.mem_of_getElem? (i := 62) rfl))) (Or.inl (hw _ (List.mem_of_getElem? (i := 27) rfl))) (by decide) (t := .double) (t' := .double) (by decide) (by decide)))
  have F_optimumSum_a1_48 := F_optimumSum_a1_47.other W48 (Or.inr (slot_ne (Or.inl (hw _ (List.mem_of_getElem? (i := 64) rfl))) (Or.inl (hw _ (List.mem_of_getElem? (i := 27) rfl))) (by decide) (t := .double) (t' := .double) (by decide) (by decide)))
  have N48 := Fr.snoc X48 N47 g_a1
  have Z48 : n0 ≤ h48.size := Nat.le_trans Z47 (Keep.of_wr W48).1
  have K48 := K47.wr W48 (Or.inl (List.mem_of_getElem? (i := 0) rfl))
  show own_Fin _ _ _ _ (T48.setTop (mkF m 68 #[rv a1, .val (.double (FP.l2d on.toInt64)), .second] []))
  obtain ⟨fs49, hr49, hrun49, hended49, hW49, hsame49⟩ := X48.leave (v := none) (fun _ => rfl)
  refine own_done (X48.returnOut hx Bd.returns (hb hby d7_68) hr49) hrun49 hended49 ⟨_, _, rfl, ?_, ⟨_, rfl⟩, hW49, hsame49.mono (by decide) (by decide)⟩
  show Qsp_0 Z a1 on ou ev ps es os h0 n0 _ T48.heap _
  rw [e48]
  exact ⟨rfl, N48, K48, E_a1_48, F_periods_a1_48, F_closedBestErrorSum_a1_48, F_optimum_a1_48, F_best_a1_48, F_optimumKnown_a1_48, F_evaluations_a1_48, F_performanceSum_a1_48, F_errorSum_a1_48, F_optimumSum_a1_48⟩
theorem ef_sp_1 (m : MethodId) (x0 : Addr) (x1 : UInt64) : entryFrame m #[(.ref x0), (.double x1)] 3 = mkF m 0 #[.val (.ref x0), .val (.double x1), .second] [] := by first | (simp [entryFrame, mkF, argsToLocals, Value.category]; done) | rfl
def Qsp_1 (Z : State) (a1 : Addr) (on : Int32) (zc : Option Int64) (zo : Int32) (zb : Option Int64) (ev : Int64) (ps : UInt64) (es : UInt64) (os : UInt64) (h0 : Heap) (n0 : Nat) (v : Option Value) (h : Heap) (L : List Loc) : Prop := v = none ∧ Fr n0 L ∧ Keep h0 h [a1] ∧ Exa Z h a1 "com/example/tidewalk/tidewalk/problems/RunMeasures" ∧ Fld Z h a1 "com/example/tidewalk/tidewalk/problems/RunMeasures" "periods" "I" (.int (2 : Int32)) ∧ Fld Z h a1 "com/example/tidewalk/tidewalk/problems/RunMeasures" "closedBestErrorSum" "D" (.double (own_cl (own_pl zc (own_er zo.toInt64 zb)))) ∧ Fld Z h a1 "com/example/tidewalk/tidewalk/problems/RunMeasures" "optimum" "D" (.double (FP.l2d on.toInt64)) ∧ Fld Z h a1 "com/example/tidewalk/tidewalk/problems/RunMeasures" "best" "D" (.double (own_be none)) ∧ Fld Z h a1 "com/example/tidewalk/tidewalk/problems/RunMeasures" "optimumKnown" "Z" (.int (1 : Int32)) ∧ Fld Z h a1 "com/example/tidewalk/tidewalk/problems/RunMeasures" "evaluations" "J" (.long ev) ∧ Fld Z h a1 "com/example/tidewalk/tidewalk/problems/RunMeasures" "performanceSum" "D" (.double ps) ∧ Fld Z h a1 "com/example/tidewalk/tidewalk/problems/RunMeasures" "errorSum" "D" (.double es) ∧ Fld Z h a1 "com/example/tidewalk/tidewalk/problems/RunMeasures" "optimumSum" "D" (.double os)
abbrev Gsp_1 (Z : State) (a1 : Addr) (on : Int32) (zc : Option Int64) (zo : Int32) (zb : Option Int64) (ev : Int64) (ps : UInt64) (es : UInt64) (os : UInt64) (h0 : Heap) (n0 : Nat) (s : State) : Outcome → State → Prop := fun o U' => ∃ v L, o = .returned v ∧ Qsp_1 Z a1 on zc zo zb ev ps es os h0 n0 v U'.heap L ∧ FrameEnd s o U' L ({ frames := 1, cells := 0, slots := 0, locals := 20 } : Room).cells ({ frames := 1, cells := 0, slots := 0, locals := 20 } : Room).slots
set_option maxRecDepth 65536 in
set_option maxHeartbeats 40000000 in
theorem rmsp_1 (l : Launch) (Z : State) (a0 : Array Value) (hw : ∀ d ∈ tables_1, d.before a0 Z = true) (ws : List Jvm.Cond) (a1 : Addr) (on : Int32) (zc : Option Int64) (zo : Int32) (zb : Option Int64) (ev : Int64) (ps : UInt64) (es : UInt64) (os : UInt64) (h0 : Heap) (n0 : Nat) (Z0 : n0 ≤ h0.size) (E_a1 : Exa Z h0 a1 "com/example/tidewalk/tidewalk/problems/RunMeasures") (F_periods_a1 : Fld Z h0 a1 "com/example/tidewalk/tidewalk/problems/RunMeasures" "periods" "I" (.int (1 : Int32))) (F_closedBestErrorSum_a1 : Fld Z h0 a1 "com/example/tidewalk/tidewalk/problems/RunMeasures" "closedBestErrorSum" "D" (.double (own_cl zc))) (F_optimum_a1 : Fld Z h0 a1 "com/example/tidewalk/tidewalk/problems/RunMeasures" "optimum" "D" (.double (FP.l2d zo.toInt64))) (F_best_a1 : Fld Z h0 a1 "com/example/tidewalk/tidewalk/problems/RunMeasures" "best" "D" (.double (own_be zb))) (F_optimumKnown_a1 : Fld Z h0 a1 "com/example/tidewalk/tidewalk/problems/RunMeasures" "optimumKnown" "Z" (.int (1 : Int32))) (F_evaluations_a1 : Fld Z h0 a1 "com/example/tidewalk/tidewalk/problems/RunMeasures" "evaluations" "J" (.long ev)) (F_performanceSum_a1 : Fld Z h0 a1 "com/example/tidewalk/tidewalk/problems/RunMeasures" "performanceSum" "D" (.double ps)) (F_errorSum_a1 : Fld Z h0 a1 "com/example/tidewalk/tidewalk/problems/RunMeasures" "errorSum" "D" (.double es)) (F_optimumSum_a1 : Fld Z h0 a1 "com/example/tidewalk/tidewalk/problems/RunMeasures" "optimumSum" "D" (.double os)) (g_a1 : n0 ≤ a1) (hwb : own_W 2147483648 zb) (hc : own_W 17179869184 zc) :
    MetFree l (⟨"com/example/tidewalk/tidewalk/problems/RunMeasures", "startPeriod", "(D)V"⟩ : MethodName) (head1 (Jvm.Cond.code (⟨"com/example/tidewalk/tidewalk/problems/RunMeasures", "startPeriod", "(D)V"⟩ : MethodName) prog_43_method_2_code 3 none :: ws) ({ frames := 1, cells := 0, slots := 0, locals := 20 } : Room)) (fun a U => a = #[(.ref a1), (.double (FP.l2d on.toInt64))] ∧ Z.Warmed39 U.vm ∧ U.heap = h0) (fun _ _ _ _ _ => True) (fun _ U o U' => ∃ v L, o = .returned v ∧ Qsp_1 Z a1 on zc zo zb ev ps es os h0 n0 v U'.heap L ∧ FrameEnd U o U' L ({ frames := 1, cells := 0, slots := 0, locals := 20 } : Room).cells ({ frames := 1, cells := 0, slots := 0, locals := 20 } : Room).slots) := by
  refine MetFree.of_bodySF (plainFor_of_name pn_com_example_tidewalk_tidewalk_problems_RunMeasures) hisR ?_
  intro p e s m args below meth c s₁ Bd hml0 hP hK
  obtain ⟨rfl, hZ, hh⟩ := hP
  have hx := Bd.exec
  have hby := Bd.bytes
  have hml : c.maxLocals = 3 := hml0
  have hown : s.vm.findClass "com/example/tidewalk/tidewalk/problems/RunMeasures" = some m.cls := findClass_of_methodNamed Bd.named
  have hnm := (name_of_methodNamed Bd.named Bd.method).1
  have X0 : Stand p l e ({ frames := 1, cells := 0, slots := 0, locals := 20 } : Room) s m #[(.ref a1), (.double (FP.l2d on.toInt64))] below meth c s₁ [] 0 0 := Stand.of_body Bd
  have e0 : s₁.heap = h0 := by rw [← hh, Bd.state]; rfl
  have es0 : s.heap = h0 := hh
  have N0 := Fr.nil n0
  show own_Fin p e below (Gsp_1 Z a1 on zc zo zb ev ps es os h0 n0 s) (s₁.setTop (entryFrame m #[(.ref a1), (.double (FP.l2d on.toInt64))] 3))
  rw [ef_sp_1 m a1 (FP.l2d on.toInt64)]
  have Kz := Keep.refl h0 [a1]
  refine own_go (XS.aloadN X0.here hx rfl (hb hby d7_0) rfl rfl (Steps.refl _)) ?_
  show own_Fin _ _ _ _ (s₁.setTop (mkF m 1 #[rv a1, .val (.double (FP.l2d on.toInt64)), .second] [(.ref a1)]))
  obtain ⟨T50, X50, e50, st50⟩ := getF X0 hx hZ hown (host := "") (Or.inl (hw _ (List.mem_of_getElem? (i := 36) rfl))) Via.refl e0 F_periods_a1 (g := (mkF m 1 #[rv a1, .val (.double (FP.l2d on.toInt64)), .second] [(.ref a1)])) rfl rfl (hb hby d7_1)
  refine own_by st50 ?_
  show own_Fin _ _ _ _ (T50.setTop (mkF m 4 #[rv a1, .val (.double (FP.l2d on.toInt64)), .second] [(.int (1 : Int32))]))
  refine own_go (XS.ifNo X50.here hx rfl (hb hby d7_4) rfl ((if0 _ _).trans (tlt (by decide : (0 : Int32) < (1 : Int32))).2.2.2) (Steps.refl _)) ?_
  show own_Fin _ _ _ _ (T50.setTop (mkF m 7 #[rv a1, .val (.double (FP.l2d on.toInt64)), .second] []))
  refine own_go (XS.aloadN X50.here hx rfl (hb hby d7_7) rfl rfl (Steps.refl _)) ?_
  show own_Fin _ _ _ _ (T50.setTop (mkF m 8 #[rv a1, .val (.double (FP.l2d on.toInt64)), .second] [(.ref a1)]))
  refine own_go (XS.dup X50.here hx rfl (hb hby d7_8) rfl rfl (Steps.refl _)) ?_
  show own_Fin _ _ _ _ (T50.setTop (mkF m 9 #[rv a1, .val (.double (FP.l2d on.toInt64)), .second] [(.ref a1), (.ref a1)]))
  obtain ⟨T51, X51, e51, st51⟩ := getF X50 hx hZ hown (host := "") (Or.inl (hw _ (List.mem_of_getElem? (i := 70) rfl))) Via.refl e50 F_closedBestErrorSum_a1 (g := (mkF m 9 #[rv a1, .val (.double (FP.l2d on.toInt64)), .second] [(.ref a1), (.ref a1)])) rfl rfl (hb hby d7_9)
  refine own_by st51 ?_
  show own_Fin _ _ _ _ (T51.setTop (mkF m 12 #[rv a1, .val (.double (FP.l2d on.toInt64)), .second] [(.double (own_cl zc)), (.ref a1)]))
  refine own_go (XS.aloadN X51.here hx rfl (hb hby d7_12) rfl rfl (Steps.refl _)) ?_
  show own_Fin _ _ _ _ (T51.setTop (mkF m 13 #[rv a1, .val (.double (FP.l2d on.toInt64)), .second] [(.ref a1), (.double (own_cl zc)), (.ref a1)]))
  obtain ⟨T52, X52, e52, st52⟩ := getF X51 hx hZ hown (host := "") (Or.inl (hw _ (List.mem_of_getElem? (i := 21) rfl))) Via.refl e51 F_optimum_a1 (g := (mkF m 13 #[rv a1, .val (.double (FP.l2d on.toInt64)), .second] [(.ref a1), (.double (own_cl zc)), (.ref a1)])) rfl rfl (hb hby d7_13)
  refine own_by st52 ?_
  show own_Fin _ _ _ _ (T52.setTop (mkF m 16 #[rv a1, .val (.double (FP.l2d on.toInt64)), .second] [(.double (FP.l2d zo.toInt64)), (.double (own_cl zc)), (.ref a1)]))
  refine own_go (XS.aloadN X52.here hx rfl (hb hby d7_16) rfl rfl (Steps.refl _)) ?_
  show own_Fin _ _ _ _ (T52.setTop (mkF m 17 #[rv a1, .val (.double (FP.l2d on.toInt64)), .second] [(.ref a1), (.double (FP.l2d zo.toInt64)), (.double (own_cl zc)), (.ref a1)]))
  obtain ⟨T53, X53, e53, st53⟩ := getF X52 hx hZ hown (host := "") (Or.inl (hw _ (List.mem_of_getElem? (i := 26) rfl))) Via.refl e52 F_best_a1 (g := (mkF m 17 #[rv a1, .val (.double (FP.l2d on.toInt64)), .second] [(.ref a1), (.double (FP.l2d zo.toInt64)), (.double (own_cl zc)), (.ref a1)])) rfl rfl (hb hby d7_17)
  refine own_by st53 ?_
  show own_Fin _ _ _ _ (T53.setTop (mkF m 20 #[rv a1, .val (.double (FP.l2d on.toInt64)), .second] [(.double (own_be zb)), (.double (FP.l2d zo.toInt64)), (.double (own_cl zc)), (.ref a1)]))
  refine own_go (XS.dsubS X53.here hx rfl (hb hby d7_20) rfl (by rw [own_sub zo hwb]; exact own_cn _) (own_sub zo hwb) (Steps.refl _)) ?_
  show own_Fin _ _ _ _ (T53.setTop (mkF m 21 #[rv a1, .val (.double (FP.l2d on.toInt64)), .second] [(.double (own_cl (own_er zo.toInt64 zb))), (.double (own_cl zc)), (.ref a1)]))
  refine own_go (XS.daddS X53.here hx rfl (hb hby d7_21) rfl (by rw [own_add hc (own_Wer hwb) (by decide) (by decide)]; exact own_cn _) (own_add hc (own_Wer hwb) (by decide) (by decide)) (Steps.refl _)) ?_
  show own_Fin _ _ _ _ (T53.setTop (mkF m 22 #[rv a1, .val (.double (FP.l2d on.toInt64)), .second] [(.double (own_cl (own_pl zc (own_er zo.toInt64 zb)))), (.ref a1)]))
  obtain ⟨T54, h54, X54, e54, W54, st54⟩ := putF X53 hx hZ hown (host := "") (Or.inl (hw _ (List.mem_of_getElem? (i := 70) rfl))) Via.refl e53 F_closedBestErrorSum_a1 E_a1 (Or.inl (hw _ (List.mem_of_getElem? (i := 71) rfl))) (hw _ (List.mem_of_getElem? (i := 12) rfl)) (ty := .double) (by decide) rfl rfl (g := (mkF m 22 #[rv a1, .val (.double (FP.l2d on.toInt64)), .second] [(.double (own_cl (own_pl zc (own_er zo.toInt64 zb)))), (.ref a1)])) rfl rfl (hb hby d7_22)
  refine own_by st54 ?_
  have F_closedBestErrorSum_a1_54 := F_closedBestErrorSum_a1.same W54
  have E_a1_54 := E_a1.wr W54
  have F_periods_a1_54 := F_periods_a1.other W54 (Or.inr (slot_ne (Or.inl (hw _ (List.mem_of_getElem? (i := 37) rfl))) (Or.inl (hw _ (List.mem_of_getElem? (i := 71) rfl))) (by decide) (t := .int) (t' := .double) (by decide) (by decide)))
  have F_optimum_a1_54 := F_optimum_a1.other W54 (Or.inr (slot_ne (Or.inl (hw _ (List.mem_of_getElem? (i := 22) rfl))) (Or.inl (hw _ (List.mem_of_getElem? (i := 71) rfl))) (by decide) (t := .double) (t' := .double) (by decide) (by decide)))
  have F_best_a1_54 := F_best_a1.other W54 (Or.inr (slot_ne (Or.inl (hw _ (List.mem_of_getElem? (i := 27) rfl))) (Or.inl (hw _ (List.mem_of_getElem? (i := 71) rfl))) (by decide) (t := .double) (t' := .double) (by decide) (by decide)))
  have F_optimumKnown_a1_54 := F_optimumKnown_a1.other W54 (Or.inr (slot_ne (Or.inl (hw _ (List.mem_of_getElem? (i := 24) rfl))) (Or.inl (hw _ (List.mem_of_getElem? (i := 71) rfl))) (by decide) (t := .boolean) (t' := .double) (by decide) (by decide)))
  have F_evaluations_a1_54 := F_evaluations_a1.other W54 (Or.inr (slot_ne (Or.inl (hw _ (List.mem_of_getElem? (i := 55) rfl))) (Or.inl (hw _ (List.mem_of_getElem? (i := 71) rfl))) (by decide) (t := .long) (t' := .double) (by decide) (by decide)))
  have F_performanceSum_a1_54 := F_performanceSum_a1.other W54 (Or.inr (slot_ne (Or.inl (hw _ (List.mem_of_getElem? (i := 60) rfl))) (Or.inl (hw _ (List.mem_of_getElem? (i := 71) rfl))) (by decide) (t := .double) (t' := .double) (by decide) (by decide)))
  have F_errorSum_a1_54 := F_errorSum_a1.other W54 (Or.inr (slot_ne (Or.inl (hw _ (List.mem_of_getElem? (i := 62) rfl))) (Or.inl (hw _ (List.mem_of_getElem? (i := 71) rfl))) (by decide) (t := .double) (t' := .double) (by decide) (by decide)))
  have F_optimumSum_a1_54 := F_optimumSum_a1.other W54 (Or.inr (slot_ne (Or.inl (hw _ (List.mem_of_getElem? (i := 64) rfl))) (Or.inl (hw _ (List.mem_of_getElem? (i := 71) rfl))) (by decide) (t := .double) (t' := .double) (by decide) (by decide)))
  have N54 := Fr.snoc X54 N0 g_a1
  have Z54 : n0 ≤ h54.size := Nat.le_trans Z0 (Keep.of_wr W54).1
  have K54 := Kz.wr W54 (Or.inl (List.mem_of_getElem? (i := 0) rfl))
  show own_Fin _ _ _ _ (T54.setTop (mkF m 25 #[rv a1, .val (.double (FP.l2d on.toInt64)), .second] []))
  refine own_go (XS.aloadN X54.here hx rfl (hb hby d7_25) rfl rfl (Steps.refl _)) ?_
  show own_Fin _ _ _ _ (T54.setTop (mkF m 26 #[rv a1, .val (.double (FP.l2d on.toInt64)), .second] [(.ref a1)]))
  refine own_go (XS.dup X54.here hx rfl (hb hby d7_26) rfl rfl (Steps.refl _)) ?_
  show own_Fin _ _ _ _ (T54.setTop (mkF m 27 #[rv a1, .val (.double (FP.l2d on.toInt64)), .second] [(.ref a1), (.ref a1)]))
  obtain ⟨T55, X55, e55, st55⟩ := getF X54 hx hZ hown (host := "") (Or.inl (hw _ (List.mem_of_getElem? (i := 36) rfl))) Via.refl e54 F_periods_a1_54 (g := (mkF m 27 #[rv a1, .val (.double (FP.l2d on.toInt64)), .second] [(.ref a1), (.ref a1)])) rfl rfl (hb hby d7_27)
  refine own_by st55 ?_
  show own_Fin _ _ _ _ (T55.setTop (mkF m 30 #[rv a1, .val (.double (FP.l2d on.toInt64)), .second] [(.int (1 : Int32)), (.ref a1)]))
  refine own_go (XS.iconst X55.here hx rfl (hb hby d7_30) (Steps.refl _)) ?_
  show own_Fin _ _ _ _ (T55.setTop (mkF m 31 #[rv a1, .val (.double (FP.l2d on.toInt64)), .second] [(.int (1 : Int32)), (.int (1 : Int32)), (.ref a1)]))
  refine own_go (XS.iadd X55.here hx rfl (hb hby d7_31) rfl (Steps.refl _)) ?_
  show own_Fin _ _ _ _ (T55.setTop (mkF m 32 #[rv a1, .val (.double (FP.l2d on.toInt64)), .second] [(.int (2 : Int32)), (.ref a1)]))
  obtain ⟨T56, h56, X56, e56, W56, st56⟩ := putF X55 hx hZ hown (host := "") (Or.inl (hw _ (List.mem_of_getElem? (i := 36) rfl))) Via.refl e55 F_periods_a1_54 E_a1_54 (Or.inl (hw _ (List.mem_of_getElem? (i := 37) rfl))) (hw _ (List.mem_of_getElem? (i := 12) rfl)) (ty := .int) (by decide) rfl rfl (g := (mkF m 32 #[rv a1, .val (.double (FP.l2d on.toInt64)), .second] [(.int (2 : Int32)), (.ref a1)])) rfl rfl (hb hby d7_32)
  refine own_by st56 ?_
  have F_periods_a1_56 := F_periods_a1_54.same W56
  have E_a1_56 := E_a1_54.wr W56
  have F_closedBestErrorSum_a1_56 := F_closedBestErrorSum_a1_54.other W56 (Or.inr (slot_ne (Or.inl (hw _ (List.mem_of_getElem? (i := 71) rfl))) (Or.inl (hw _ (List.mem_of_getElem? (i := 37) rfl))) (by decide) (t := .double) (t' := .int) (by decide) (by decide)))
  have F_optimum_a1_56 := F_optimum_a1_54.other W56 (Or.inr (slot_ne (Or.inl (hw _ (List.mem_of_getElem? (i := 22) rfl))) (Or.inl (hw _ (List.mem_of_getElem? (i := 37) rfl))) (by decide) (t := .double) (t' := .int) (by decide) (by decide)))
  have F_best_a1_56 := F_best_a1_54.other W56 (Or.inr (slot_ne (Or.inl (hw _ (List.mem_of_getElem? (i := 27) rfl))) (Or.inl (hw _ (List.mem_of_getElem? (i := 37) rfl))) (by decide) (t := .double) (t' := .int) (by decide) (by decide)))
  have F_optimumKnown_a1_56 := F_optimumKnown_a1_54.other W56 (Or.inr (slot_ne (Or.inl (hw _ (List.mem_of_getElem? (i := 24) rfl))) (Or.inl (hw _ (List.mem_of_getElem? (i := 37) rfl))) (by decide) (t := .boolean) (t' := .int) (by decide) (by decide)))
  have F_evaluations_a1_56 := F_evaluations_a1_54.other W56 (Or.inr (slot_ne (Or.inl (hw _ (List.mem_of_getElem? (i := 55) rfl))) (Or.inl (hw _ (List.mem_of_getElem? (i := 37) rfl))) (by decide) (t := .long) (t' := .int) (by decide) (by decide)))
  have F_performanceSum_a1_56 := F_performanceSum_a1_54.other W56 (Or.inr (slot_ne (Or.inl (hw _ (List.mem_of_getElem? (i := 60) rfl))) (Or.inl (hw _ (List.mem_of_getElem? (i := 37) rfl))) (by decide) (t := .double) (t' := .int) (by decide) (by decide)))
  have F_errorSum_a1_56 := F_errorSum_a1_54.other W56 (Or.inr (slot_ne (Or.inl (hw _ (List.mem_of_getElem? (i := 62) rfl))) (Or.inl (hw _ (List.mem_of_getElem? (i := 37) rfl))) (by decide) (t := .double) (t' := .int) (by decide) (by decide)))
  have F_optimumSum_a1_56 := F_optimumSum_a1_54.other W56 (Or.inr (slot_ne (Or.inl (hw _ (List.mem_of_getElem? (i := 64) rfl))) (Or.inl (hw _ (List.mem_of_getElem? (i := 37) rfl))) (by decide) (t := .double) (t' := .int) (by decide) (by decide)))
  have N56 := Fr.snoc X56 N54 g_a1
  have Z56 : n0 ≤ h56.size := Nat.le_trans Z54 (Keep.of_wr W56).1
  have K56 := K54.wr W56 (Or.inl (List.mem_of_getElem? (i := 0) rfl))
  show own_Fin _ _ _ _ (T56.setTop (mkF m 35 #[rv a1, .val (.double (FP.l2d on.toInt64)), .second] []))
  refine own_go (XS.aloadN X56.here hx rfl (hb hby d7_35) rfl rfl (Steps.refl _)) ?_
  show own_Fin _ _ _ _ (T56.setTop (mkF m 36 #[rv a1, .val (.double (FP.l2d on.toInt64)), .second] [(.ref a1)]))
  refine own_go (XS.dloadN X56.here hx rfl (hb hby d7_36) rfl (Steps.refl _)) ?_
  show own_Fin _ _ _ _ (T56.setTop (mkF m 37 #[rv a1, .val (.double (FP.l2d on.toInt64)), .second] [(.double (FP.l2d on.toInt64)), (.ref a1)]))
  obtain ⟨T57, h57, X57, e57, W57, st57⟩ := putF X56 hx hZ hown (host := "") (Or.inl (hw _ (List.mem_of_getElem? (i := 21) rfl))) Via.refl e56 F_optimum_a1_56 E_a1_56 (Or.inl (hw _ (List.mem_of_getElem? (i := 22) rfl))) (hw _ (List.mem_of_getElem? (i := 12) rfl)) (ty := .double) (by decide) rfl rfl (g := (mkF m 37 #[rv a1, .val (.double (FP.l2d on.toInt64)), .second] [(.double (FP.l2d on.toInt64)), (.ref a1)])) rfl rfl (hb hby d7_37)
  refine own_by st57 ?_
  have F_optimum_a1_57 := F_optimum_a1_56.same W57
  have E_a1_57 := E_a1_56.wr W57
  have F_periods_a1_57 := F_periods_a1_56.other W57 (Or.inr (slot_ne (Or.inl (hw _ (List.mem_of_getElem? (i := 37) rfl))) (Or.inl (hw _ (List.mem_of_getElem? (i := 22) rfl))) (by decide) (t := .int) (t' := .double) (by decide) (by decide)))
  have F_closedBestErrorSum_a1_57 := F_closedBestErrorSum_a1_56.other W57 (Or.inr (slot_ne (Or.inl (hw _ (List.mem_of_getElem? (i := 71) rfl))) (Or.inl (hw _ (List.mem_of_getElem? (i := 22) rfl))) (by decide) (t := .double) (t' := .double) (by decide) (by decide)))
  have F_best_a1_57 := F_best_a1_56.other W57 (Or.inr (slot_ne (Or.inl (hw _ (List.mem_of_getElem? (i := 27) rfl))) (Or.inl (hw _ (List.mem_of_getElem? (i := 22) rfl))) (by decide) (t := .double) (t' := .double) (by decide) (by decide)))
  have F_optimumKnown_a1_57 := F_optimumKnown_a1_56.other W57 (Or.inr (slot_ne (Or.inl (hw _ (List.mem_of_getElem? (i := 24) rfl))) (Or.inl (hw _ (List.mem_of_getElem? (i := 22) rfl))) (by decide) (t := .boolean) (t' := .double) (by decide) (by decide)))
  have F_evaluations_a1_57 := F_evaluations_a1_56.other W57 (Or.inr (slot_ne (Or.inl (hw _ (List.mem_of_getElem? (i := 55) rfl))) (Or.inl (hw _ (List.mem_of_getElem? (i := 22) rfl))) (by decide) (t := .long) (t' := .double) (by decide) (by decide)))
  have F_performanceSum_a1_57 := F_performanceSum_a1_56.other W57 (Or.inr (slot_ne (Or.inl (hw _ (List.mem_of_getElem? (i := 60) rfl))) (Or.inl (hw _ (List.mem_of_getElem? (i := 22) rfl))) (by decide) (t := .double) (t' := .double) (by decide) (by decide)))
  have F_errorSum_a1_57 := F_errorSum_a1_56.other W57 (Or.inr (slot_ne (Or.inl (hw _ (List.mem_of_getElem? (i := 62) rfl))) (Or.inl (hw _ (List.mem_of_getElem? (i := 22) rfl))) (by decide) (t := .double) (t' := .double) (by decide) (by decide)))
  have F_optimumSum_a1_57 := F_optimumSum_a1_56.other W57 (Or.inr (slot_ne (Or.inl (hw _ (List.mem_of_getElem? (i := 64) rfl))) (Or.inl (hw _ (List.mem_of_getElem? (i := 22) rfl))) (by decide) (t := .double) (t' := .double) (by decide) (by decide)))
  have N57 := Fr.snoc X57 N56 g_a1
  have Z57 : n0 ≤ h57.size := Nat.le_trans Z56 (Keep.of_wr W57).1
  have K57 := K56.wr W57 (Or.inl (List.mem_of_getElem? (i := 0) rfl))
  show own_Fin _ _ _ _ (T57.setTop (mkF m 40 #[rv a1, .val (.double (FP.l2d on.toInt64)), .second] []))
  refine own_go (XS.aloadN X57.here hx rfl (hb hby d7_40) rfl rfl (Steps.refl _)) ?_
  show own_Fin _ _ _ _ (T57.setTop (mkF m 41 #[rv a1, .val (.double (FP.l2d on.toInt64)), .second] [(.ref a1)]))
  refine own_go (XS.dup X57.here hx rfl (hb hby d7_41) rfl rfl (Steps.refl _)) ?_
  show own_Fin _ _ _ _ (T57.setTop (mkF m 42 #[rv a1, .val (.double (FP.l2d on.toInt64)), .second] [(.ref a1), (.ref a1)]))
  obtain ⟨T58, X58, e58, st58⟩ := getF X57 hx hZ hown (host := "") (Or.inl (hw _ (List.mem_of_getElem? (i := 23) rfl))) Via.refl e57 F_optimumKnown_a1_57 (g := (mkF m 42 #[rv a1, .val (.double (FP.l2d on.toInt64)), .second] [(.ref a1), (.ref a1)])) rfl rfl (hb hby d7_42)
  refine own_by st58 ?_
  show own_Fin _ _ _ _ (T58.setTop (mkF m 45 #[rv a1, .val (.double (FP.l2d on.toInt64)), .second] [(.int (1 : Int32)), (.ref a1)]))
  refine own_go (XS.dloadN X58.here hx rfl (hb hby d7_45) rfl (Steps.refl _)) ?_
  show own_Fin _ _ _ _ (T58.setTop (mkF m 46 #[rv a1, .val (.double (FP.l2d on.toInt64)), .second] [(.double (FP.l2d on.toInt64)), (.int (1 : Int32)), (.ref a1)]))
  obtain ⟨_, _, ⟨T59, L59, k59, n59⟩, -, X59, ⟨Lc59, hQ59, l59, y59, z59⟩, st59⟩ := Jvm.LawKit.callS X58 hx (y := (⟨"java/lang/Double", "isNaN", "(D)Z"⟩ : MethodName)) hown (mvT hZ (hw _ (List.mem_of_getElem? (i := 38) rfl))) (mvT hZ (hw _ (List.mem_of_getElem? (i := 39) rfl))) (mvT hZ (hw _ (List.mem_of_getElem? (i := 40) rfl))) (mvT hZ (hw _ (List.mem_of_getElem? (i := 41) rfl))) (by decide) (backOf (W := 2) (rmisn l Z a0 hw [] (FP.l2d on.toInt64) h57 n0 Z57 (l2d_fin _).noNaN) hZ (hw _ (List.mem_of_getElem? (i := 41) rfl)) (hw _ (List.mem_of_getElem? (i := 40) rfl)) (by decide) (by decide)) (g := (mkF m 46 #[rv a1, .val (.double (FP.l2d on.toInt64)), .second] [(.double (FP.l2d on.toInt64)), (.int (1 : Int32)), (.ref a1)])) rfl (by rw [hml]; rfl) (argsL := [(.double (FP.l2d on.toInt64))]) (rest := [(.int (1 : Int32)), (.ref a1)]) (lenOf pd__28_D_29_Z rfl) rfl (by show 2 * 0 + _ ≤ _; exact Nat.le_of_eq rfl) (hb hby d7_46) (fun _ hv => ⟨rfl, e58, (by decide : 0 + 0 ≤ _), (by decide : 0 + 0 ≤ _)⟩)
  dsimp only [Pt.U, Pt.locs, Pt.cells, Pt.slots] at X59 l59 y59 z59 st59 hQ59
  subst l59 y59 z59
  obtain ⟨rfl, Nq59, e59⟩ := hQ59
  refine own_by st59 ?_
  have N59 := Fr.app N57 Nq59
  show own_Fin _ _ _ _ (T59.setTop (mkF m 49 #[rv a1, .val (.double (FP.l2d on.toInt64)), .second] [(.int (0 : Int32)), (.int (1 : Int32)), (.ref a1)]))
  refine own_go (XS.ifNo X59.here hx rfl (hb hby d7_49) rfl ((if0 _ _).trans (teq (by decide : (0 : Int32) = (0 : Int32))).2) (Steps.refl _)) ?_
  show own_Fin _ _ _ _ (T59.setTop (mkF m 52 #[rv a1, .val (.double (FP.l2d on.toInt64)), .second] [(.int (1 : Int32)), (.ref a1)]))
  refine own_go (XS.iconst X59.here hx rfl (hb hby d7_52) (Steps.refl _)) ?_
  show own_Fin _ _ _ _ (T59.setTop (mkF m 53 #[rv a1, .val (.double (FP.l2d on.toInt64)), .second] [(.int (1 : Int32)), (.int (1 : Int32)), (.ref a1)]))
  refine own_go (XS.goto X59.here hx rfl (pc0 := 53) (pc' := 57) rfl (hb hby d7_53) (by decide) (by decide) (Steps.refl _)) ?_
  show own_Fin _ _ _ _ (T59.setTop (mkF m 57 #[rv a1, .val (.double (FP.l2d on.toInt64)), .second] [(.int (1 : Int32)), (.int (1 : Int32)), (.ref a1)]))
  refine own_go (XS.iand X59.here hx rfl (hb hby d7_57) rfl (Steps.refl _)) ?_
  show own_Fin _ _ _ _ (T59.setTop (mkF m 58 #[rv a1, .val (.double (FP.l2d on.toInt64)), .second] [(.int (1 : Int32)), (.ref a1)]))
  obtain ⟨T60, h60, X60, e60, W60, st60⟩ := putFN X59 hx hZ hown (hw _ (List.mem_of_getElem? (i := 23) rfl)) Via.refl e59 F_optimumKnown_a1_57 E_a1_57 (Or.inl (hw _ (List.mem_of_getElem? (i := 24) rfl))) (hw _ (List.mem_of_getElem? (i := 12) rfl)) (ty := .boolean) (v' := (.int (nar .boolean (1 : Int32)))) (by decide) rfl (fits_nar_bool _) (g := (mkF m 58 #[rv a1, .val (.double (FP.l2d on.toInt64)), .second] [(.int (1 : Int32)), (.ref a1)])) rfl rfl (hb hby d7_58)
  refine own_by st60 ?_
  have F_optimumKnown_a1_60 := F_optimumKnown_a1_57.same W60
  have E_a1_60 := E_a1_57.wr W60
  have F_periods_a1_60 := F_periods_a1_57.other W60 (Or.inr (slot_ne (Or.inl (hw _ (List.mem_of_getElem? (i := 37) rfl))) (Or.inl (hw _ (List.mem_of_getElem? (i := 24) rfl))) (by decide) (t := .int) (t' := .boolean) (by decide) (by decide)))
  have F_closedBestErrorSum_a1_60 := F_closedBestErrorSum_a1_57.other W60 (Or.inr (slot_ne (Or.inl (hw _ (List.mem_of_getElem? (i := 71) rfl))) (Or.inl (hw _ (List.mem_of_getElem? (i := 24) rfl))) (by decide) (t := .double) (t' := .boolean) (by decide) (by decide)))
  have F_optimum_a1_60 := F_optimum_a1_57.other W60 (Or.inr (slot_ne (Or.inl (hw _ (List.mem_of_getElem? (i := 22) rfl))) (Or.inl (hw _ (List.mem_of_getElem? (i := 24) rfl))) (by decide) (t := .double) (t' := .boolean) (by decide) (by decide)))
  have F_best_a1_60 := F_best_a1_57.other W60 (Or.inr (slot_ne (Or.inl (hw _ (List.mem_of_getElem? (i := 27) rfl))) (Or.inl (hw _ (List.mem_of_getElem? (i := 24) rfl))) (by decide) (t := .double) (t' := .boolean) (by decide) (by decide)))
  have F_evaluations_a1_60 := F_evaluations_a1_57.other W60 (Or.inr (slot_ne (Or.inl (hw _ (List.mem_of_getElem? (i := 55) rfl))) (Or.inl (hw _ (List.mem_of_getElem? (i := 24) rfl))) (by decide) (t := .long) (t' := .boolean) (by decide) (by decide)))
  have F_performanceSum_a1_60 := F_performanceSum_a1_57.other W60 (Or.inr (slot_ne (Or.inl (hw _ (List.mem_of_getElem? (i := 60) rfl))) (Or.inl (hw _ (List.mem_of_getElem? (i := 24) rfl))) (by decide) (t := .double) (t' := .boolean) (by decide) (by decide)))
  have F_errorSum_a1_60 := F_errorSum_a1_57.other W60 (Or.inr (slot_ne (Or.inl (hw _ (List.mem_of_getElem? (i := 62) rfl))) (Or.inl (hw _ (List.mem_of_getElem? (i := 24) rfl))) (by decide) (t := .double) (t' := .boolean) (by decide) (by decide)))
  have F_optimumSum_a1_60 := F_optimumSum_a1_57.other W60 (Or.inr (slot_ne (Or.inl (hw _ (List.mem_of_getElem? (i := 64) rfl))) (Or.inl (hw _ (List.mem_of_getElem? (i := 24) rfl))) (by decide) (t := .double) (t' := .boolean) (by decide) (by decide)))
  have N60 := Fr.snoc X60 N59 g_a1
  have Z60 : n0 ≤ h60.size := Nat.le_trans Z57 (Keep.of_wr W60).1
  have K60 := K57.wr W60 (Or.inl (List.mem_of_getElem? (i := 0) rfl))
  show own_Fin _ _ _ _ (T60.setTop (mkF m 61 #[rv a1, .val (.double (FP.l2d on.toInt64)), .second] []))
  refine own_go (XS.aloadN X60.here hx rfl (hb hby d7_61) rfl rfl (Steps.refl _)) ?_
  show own_Fin _ _ _ _ (T60.setTop (mkF m 62 #[rv a1, .val (.double (FP.l2d on.toInt64)), .second] [(.ref a1)]))
  refine own_by (X60.ldc2DoubleC hx hown (mvT hZ (hw _ (List.mem_of_getElem? (i := 25) rfl))) (g := (mkF m 62 #[rv a1, .val (.double (FP.l2d on.toInt64)), .second] [(.ref a1)])) rfl (hb hby d7_62)) ?_
  show own_Fin _ _ _ _ (T60.setTop (mkF m 65 #[rv a1, .val (.double (FP.l2d on.toInt64)), .second] [(.double (18442240474082181120 : UInt64)), (.ref a1)]))
  obtain ⟨T61, h61, X61, e61, W61, st61⟩ := putF X60 hx hZ hown (host := "") (Or.inl (hw _ (List.mem_of_getElem? (i := 26) rfl))) Via.refl e60 F_best_a1_60 E_a1_60 (Or.inl (hw _ (List.mem_of_getElem? (i := 27) rfl))) (hw _ (List.mem_of_getElem? (i := 12) rfl)) (ty := .double) (by decide) rfl rfl (g := (mkF m 65 #[rv a1, .val (.double (FP.l2d on.toInt64)), .second] [(.double (18442240474082181120 : UInt64)), (.ref a1)])) rfl rfl (hb hby d7_65)
  refine own_by st61 ?_
  have F_best_a1_61 := F_best_a1_60.same W61
  have E_a1_61 := E_a1_60.wr W61
  have F_periods_a1_61 := F_periods_a1_60.other W61 (Or.inr (slot_ne (Or.inl (hw _ (List.mem_of_getElem? (i := 37) rfl))) (Or.inl (hw _ (List.mem_of_getElem? (i := 27) rfl))) (by decide) (t := .int) (t' := .double) (by decide) (by decide)))
  have F_closedBestErrorSum_a1_61 := F_closedBestErrorSum_a1_60.other W61 (Or.inr (slot_ne (Or.inl (hw _ (List.mem_of_getElem? (i := 71) rfl))) (Or.inl (hw _ (List.mem_of_getElem? (i := 27) rfl))) (by decide) (t := .double) (t' := .double) (by decide) (by decide)))
  have F_optimum_a1_61 := F_optimum_a1_60.other W61 (Or.inr (slot_ne (Or.inl (hw _ (List.mem_of_getElem? (i := 22) rfl))) (Or.inl (hw _ (List.mem_of_getElem? (i := 27) rfl))) (by decide) (t := .double) (t' := .double) (by decide) (by decide)))
  have F_optimumKnown_a1_61 := F_optimumKnown_a1_60.other W61 (Or.inr (slot_ne (Or.inl (hw _ (List.mem_of_getElem? (i := 24) rfl))) (Or.inl (hw _ (List.mem_of_getElem? (i := 27) rfl))) (by decide) (t := .boolean) (t' := .double) (by decide) (by decide)))
  have F_evaluations_a1_61 := F_evaluations_a1_60.other W61 (Or.inr (slot_ne (Or.inl (hw _ (List.mem_of_getElem? (i := 55) rfl))) (Or.inl (hw _ (List.mem_of_getElem? (i := 27) rfl))) (by decide) (t := .long) (t' := .double) (by decide) (by decide)))
  have F_performanceSum_a1_61 := F_performanceSum_a1_60.other W61 (Or.inr (slot_ne (Or.inl (hw _ (List.mem_of_getElem? (i := 60) rfl))) (Or.inl (hw _ (List.mem_of_getElem? (i := 27) rfl))) (by decide) (t := .double) (t' := .double) (by decide) (by decide)))
  have F_errorSum_a1_61 := F_errorSum_a1_60.other W61 (Or.inr (slot_ne (Or.inl (hw _ (List.mem_of_getElem? (i := 62) rfl))) (Or.inl (hw _ (List.mem_of_getElem? (i := 27) rfl))) (by decide) (t := .double) (t' := .double) (by decide) (by decide)))
  have F_optimumSum_a1_61 := F_optimumSum_a1_60.other W61 (Or.inr (slot_ne (Or.inl (hw _ (List.mem_of_getElem? (i := 64) rfl))) (Or.inl (hw _ (List.mem_of_getElem? (i := 27) rfl))) (by decide) (t := .double) (t' := .double) (by decide) (by decide)))
  have N61 := Fr.snoc X61 N60 g_a1
  have Z61 : n0 ≤ h61.size := Nat.le_trans Z60 (Keep.of_wr W61).1
  have K61 := K60.wr W61 (Or.inl (List.mem_of_getElem? (i := 0) rfl))
  show own_Fin _ _ _ _ (T61.setTop (mkF m 68 #[rv a1, .val (.double (FP.l2d on.toInt64)), .second] []))
  obtain ⟨fs62, hr62, hrun62, hended62, hW62, hsame62⟩ := X61.leave (v := none) (fun _ => rfl)
  refine own_done (X61.returnOut hx Bd.returns (hb hby d7_68) hr62) hrun62 hended62 ⟨_, _, rfl, ?_, ⟨_, rfl⟩, hW62, hsame62.mono (by decide) (by decide)⟩
  show Qsp_1 Z a1 on zc zo zb ev ps es os h0 n0 _ T61.heap _
  rw [e61]
  exact ⟨rfl, N61, K61, E_a1_61, F_periods_a1_61, F_closedBestErrorSum_a1_61, F_optimum_a1_61, F_best_a1_61, F_optimumKnown_a1_61, F_evaluations_a1_61, F_performanceSum_a1_61, F_errorSum_a1_61, F_optimumSum_a1_61⟩
theorem ef_sp_2 (m : MethodId) (x0 : Addr) (x1 : UInt64) : entryFrame m #[(.ref x0), (.double x1)] 3 = mkF m 0 #[.val (.ref x0), .val (.double x1), .second] [] := by first | (simp [entryFrame, mkF, argsToLocals, Value.category]; done) | rfl
def Qsp_2 (Z : State) (a1 : Addr) (on : Int32) (zc : Option Int64) (zo : Int32) (zb : Option Int64) (ev : Int64) (ps : UInt64) (es : UInt64) (os : UInt64) (h0 : Heap) (n0 : Nat) (v : Option Value) (h : Heap) (L : List Loc) : Prop := v = none ∧ Fr n0 L ∧ Keep h0 h [a1] ∧ Exa Z h a1 "com/example/tidewalk/tidewalk/problems/RunMeasures" ∧ Fld Z h a1 "com/example/tidewalk/tidewalk/problems/RunMeasures" "periods" "I" (.int (3 : Int32)) ∧ Fld Z h a1 "com/example/tidewalk/tidewalk/problems/RunMeasures" "closedBestErrorSum" "D" (.double (own_cl (own_pl zc (own_er zo.toInt64 zb)))) ∧ Fld Z h a1 "com/example/tidewalk/tidewalk/problems/RunMeasures" "optimum" "D" (.double (FP.l2d on.toInt64)) ∧ Fld Z h a1 "com/example/tidewalk/tidewalk/problems/RunMeasures" "best" "D" (.double (own_be none)) ∧ Fld Z h a1 "com/example/tidewalk/tidewalk/problems/RunMeasures" "optimumKnown" "Z" (.int (1 : Int32)) ∧ Fld Z h a1 "com/example/tidewalk/tidewalk/problems/RunMeasures" "evaluations" "J" (.long ev) ∧ Fld Z h a1 "com/example/tidewalk/tidewalk/problems/RunMeasures" "performanceSum" "D" (.double ps) ∧ Fld Z h a1 "com/example/tidewalk/tidewalk/problems/RunMeasures" "errorSum" "D" (.double es) ∧ Fld Z h a1 "com/example/tidewalk/tidewalk/problems/RunMeasures" "optimumSum" "D" (.double os)
abbrev Gsp_2 (Z : State) (a1 : Addr) (on : Int32) (zc : Option Int64) (zo : Int32) (zb : Option Int64) (ev : Int64) (ps : UInt64) (es : UInt64) (os : UInt64) (h0 : Heap) (n0 : Nat) (s : State) : Outcome → State → Prop := fun o U' => ∃ v L, o = .returned v ∧ Qsp_2 Z a1 on zc zo zb ev ps es os h0 n0 v U'.heap L ∧ FrameEnd s o U' L ({ frames := 1, cells := 0, slots := 0, locals := 20 } : Room).cells ({ frames := 1, cells := 0, slots := 0, locals := 20 } : Room).slots
set_option maxRecDepth 65536 in
set_option maxHeartbeats 40000000 in
theorem rmsp_2 (l : Launch) (Z : State) (a0 : Array Value) (hw : ∀ d ∈ tables_1, d.before a0 Z = true) (ws : List Jvm.Cond) (a1 : Addr) (on : Int32) (zc : Option Int64) (zo : Int32) (zb : Option Int64) (ev : Int64) (ps : UInt64) (es : UInt64) (os : UInt64) (h0 : Heap) (n0 : Nat) (Z0 : n0 ≤ h0.size) (E_a1 : Exa Z h0 a1 "com/example/tidewalk/tidewalk/problems/RunMeasures") (F_periods_a1 : Fld Z h0 a1 "com/example/tidewalk/tidewalk/problems/RunMeasures" "periods" "I" (.int (2 : Int32))) (F_closedBestErrorSum_a1 : Fld Z h0 a1 "com/example/tidewalk/tidewalk/problems/RunMeasures" "closedBestErrorSum" "D" (.double (own_cl zc))) (F_optimum_a1 : Fld Z h0 a1 "com/example/tidewalk/tidewalk/problems/RunMeasures" "optimum" "D" (.double (FP.l2d zo.toInt64))) (F_best_a1 : Fld Z h0 a1 "com/example/tidewalk/tidewalk/problems/RunMeasures" "best" "D" (.double (own_be zb))) (F_optimumKnown_a1 : Fld Z h0 a1 "com/example/tidewalk/tidewalk/problems/RunMeasures" "optimumKnown" "Z" (.int (1 : Int32))) (F_evaluations_a1 : Fld Z h0 a1 "com/example/tidewalk/tidewalk/problems/RunMeasures" "evaluations" "J" (.long ev)) (F_performanceSum_a1 : Fld Z h0 a1 "com/example/tidewalk/tidewalk/problems/RunMeasures" "performanceSum" "D" (.double ps)) (F_errorSum_a1 : Fld Z h0 a1 "com/example/tidewalk/tidewalk/problems/RunMeasures" "errorSum" "D" (.double es)) (F_optimumSum_a1 : Fld Z h0 a1 "com/example/tidewalk/tidewalk/problems/RunMeasures" "optimumSum" "D" (.double os)) (g_a1 : n0 ≤ a1) (hwb : own_W 2147483648 zb) (hc : own_W 17179869184 zc) :
    MetFree l (⟨"com/example/tidewalk/tidewalk/problems/RunMeasures", "startPeriod", "(D)V"⟩ : MethodName) (head1 (Jvm.Cond.code (⟨"com/example/tidewalk/tidewalk/problems/RunMeasures", "startPeriod", "(D)V"⟩ : MethodName) prog_43_method_2_code 3 none :: ws) ({ frames := 1, cells := 0, slots := 0, locals := 20 } : Room)) (fun a U => a = #[(.ref a1), (.double (FP.l2d on.toInt64))] ∧ Z.Warmed39 U.vm ∧ U.heap = h0) (fun _ _ _ _ _ => True) (fun _ U o U' => ∃ v L, o = .returned v ∧ Qsp_2 Z a1 on zc zo zb ev ps es os h0 n0 v U'.heap L ∧ FrameEnd U o U' L ({ frames := 1, cells := 0, slots := 0, locals := 20 } : Room).cells ({ frames := 1, cells := 0, slots := 0, locals := 20 } : Room).slots) := by
  refine MetFree.of_bodySF (plainFor_of_name pn_com_example_tidewalk_tidewalk_problems_RunMeasures) hisR ?_
  intro p e s m args below meth c s₁ Bd hml0 hP hK
  obtain ⟨rfl, hZ, hh⟩ := hP
  have hx := Bd.exec
  have hby := Bd.bytes
  have hml : c.maxLocals = 3 := hml0
  have hown : s.vm.findClass "com/example/tidewalk/tidewalk/problems/RunMeasures" = some m.cls := findClass_of_methodNamed Bd.named
  have hnm := (name_of_methodNamed Bd.named Bd.method).1
  have X0 : Stand p l e ({ frames := 1, cells := 0, slots := 0, locals := 20 } : Room) s m #[(.ref a1), (.double (FP.l2d on.toInt64))] below meth c s₁ [] 0 0 := Stand.of_body Bd
  have e0 : s₁.heap = h0 := by rw [← hh, Bd.state]; rfl
  have es0 : s.heap = h0 := hh
  have N0 := Fr.nil n0
  show own_Fin p e below (Gsp_2 Z a1 on zc zo zb ev ps es os h0 n0 s) (s₁.setTop (entryFrame m #[(.ref a1), (.double (FP.l2d on.toInt64))] 3))
  rw [ef_sp_2 m a1 (FP.l2d on.toInt64)]
  have Kz := Keep.refl h0 [a1]
  refine own_go (XS.aloadN X0.here hx rfl (hb hby d7_0) rfl rfl (Steps.refl _)) ?_
  show own_Fin _ _ _ _ (s₁.setTop (mkF m 1 #[rv a1, .val (.double (FP.l2d on.toInt64)), .second] [(.ref a1)]))
  obtain ⟨T63, X63, e63, st63⟩ := getF X0 hx hZ hown (host := "") (Or.inl (hw _ (List.mem_of_getElem? (i := 36) rfl))) Via.refl e0 F_periods_a1 (g := (mkF m 1 #[rv a1, .val (.double (FP.l2d on.toInt64)), .second] [(.ref a1)])) rfl rfl (hb hby d7_1)
  refine own_by st63 ?_
  show own_Fin _ _ _ _ (T63.setTop (mkF m 4 #[rv a1, .val (.double (FP.l2d on.toInt64)), .second] [(.int (2 : Int32))]))
  refine own_go (XS.ifNo X63.here hx rfl (hb hby d7_4) rfl ((if0 _ _).trans (tlt (by decide : (0 : Int32) < (2 : Int32))).2.2.2) (Steps.refl _)) ?_
  show own_Fin _ _ _ _ (T63.setTop (mkF m 7 #[rv a1, .val (.double (FP.l2d on.toInt64)), .second] []))
  refine own_go (XS.aloadN X63.here hx rfl (hb hby d7_7) rfl rfl (Steps.refl _)) ?_
  show own_Fin _ _ _ _ (T63.setTop (mkF m 8 #[rv a1, .val (.double (FP.l2d on.toInt64)), .second] [(.ref a1)]))
  refine own_go (XS.dup X63.here hx rfl (hb hby d7_8) rfl rfl (Steps.refl _)) ?_
  show own_Fin _ _ _ _ (T63.setTop (mkF m 9 #[rv a1, .val (.double (FP.l2d on.toInt64)), .second] [(.ref a1), (.ref a1)]))
  obtain ⟨T64, X64, e64, st64⟩ := getF X63 hx hZ hown (host := "") (Or.inl (hw _ (List.mem_of_getElem? (i := 70) rfl))) Via.refl e63 F_closedBestErrorSum_a1 (g := (mkF m 9 #[rv a1, .val (.double (FP.l2d on.toInt64)), .second] [(.ref a1), (.ref a1)])) rfl rfl (hb hby d7_9)
  refine own_by st64 ?_
  show own_Fin _ _ _ _ (T64.setTop (mkF m 12 #[rv a1, .val (.double (FP.l2d on.toInt64)), .second] [(.double (own_cl zc)), (.ref a1)]))
  refine own_go (XS.aloadN X64.here hx rfl (hb hby d7_12) rfl rfl (Steps.refl _)) ?_
  show own_Fin _ _ _ _ (T64.setTop (mkF m 13 #[rv a1, .val (.double (FP.l2d on.toInt64)), .second] [(.ref a1), (.double (own_cl zc)), (.ref a1)]))
  obtain ⟨T65, X65, e65, st65⟩ := getF X64 hx hZ hown (host := "") (Or.inl (hw _ (List.mem_of_getElem? (i := 21) rfl))) Via.refl e64 F_optimum_a1 (g := (mkF m 13 #[rv a1, .val (.double (FP.l2d on.toInt64)), .second] [(.ref a1), (.double (own_cl zc)), (.ref a1)])) rfl rfl (hb hby d7_13)
  refine own_by st65 ?_
  show own_Fin _ _ _ _ (T65.setTop (mkF m 16 #[rv a1, .val (.double (FP.l2d on.toInt64)), .second] [(.double (FP.l2d zo.toInt64)), (.double (own_cl zc)), (.ref a1)]))
  refine own_go (XS.aloadN X65.here hx rfl (hb hby d7_16) rfl rfl (Steps.refl _)) ?_
  show own_Fin _ _ _ _ (T65.setTop (mkF m 17 #[rv a1, .val (.double (FP.l2d on.toInt64)), .second] [(.ref a1), (.double (FP.l2d zo.toInt64)), (.double (own_cl zc)), (.ref a1)]))
  obtain ⟨T66, X66, e66, st66⟩ := getF X65 hx hZ hown (host := "") (Or.inl (hw _ (List.mem_of_getElem? (i := 26) rfl))) Via.refl e65 F_best_a1 (g := (mkF m 17 #[rv a1, .val (.double (FP.l2d on.toInt64)), .second] [(.ref a1), (.double (FP.l2d zo.toInt64)), (.double (own_cl zc)), (.ref a1)])) rfl rfl (hb hby d7_17)
  refine own_by st66 ?_
  show own_Fin _ _ _ _ (T66.setTop (mkF m 20 #[rv a1, .val (.double (FP.l2d on.toInt64)), .second] [(.double (own_be zb)), (.double (FP.l2d zo.toInt64)), (.double (own_cl zc)), (.ref a1)]))
  refine own_go (XS.dsubS X66.here hx rfl (hb hby d7_20) rfl (by rw [own_sub zo hwb]; exact own_cn _) (own_sub zo hwb) (Steps.refl _)) ?_
  show own_Fin _ _ _ _ (T66.setTop (mkF m 21 #[rv a1, .val (.double (FP.l2d on.toInt64)), .second] [(.double (own_cl (own_er zo.toInt64 zb))), (.double (own_cl zc)), (.ref a1)]))
  refine own_go (XS.daddS X66.here hx rfl (hb hby d7_21) rfl (by rw [own_add hc (own_Wer hwb) (by decide) (by decide)]; exact own_cn _) (own_add hc (own_Wer hwb) (by decide) (by decide)) (Steps.refl _)) ?_
  show own_Fin _ _ _ _ (T66.setTop (mkF m 22 #[rv a1, .val (.double (FP.l2d on.toInt64)), .second] [(.double (own_cl (own_pl zc (own_er zo.toInt64 zb)))), (.ref a1)]))
  obtain ⟨T67, h67, X67, e67, W67, st67⟩ := putF X66 hx hZ hown (host := "") (Or.inl (hw _ (List.mem_of_getElem? (i := 70) rfl))) Via.refl e66 F_closedBestErrorSum_a1 E_a1 (Or.inl (hw _ (List.mem_of_getElem? (i := 71) rfl))) (hw _ (List.mem_of_getElem? (i := 12) rfl)) (ty := .double) (by decide) rfl rfl (g := (mkF m 22 #[rv a1, .val (.double (FP.l2d on.toInt64)), .second] [(.double (own_cl (own_pl zc (own_er zo.toInt64 zb)))), (.ref a1)])) rfl rfl (hb hby d7_22)
  refine own_by st67 ?_
  have F_closedBestErrorSum_a1_67 := F_closedBestErrorSum_a1.same W67
  have E_a1_67 := E_a1.wr W67
  have F_periods_a1_67 := F_periods_a1.other W67 (Or.inr (slot_ne (Or.inl (hw _ (List.mem_of_getElem? (i := 37) rfl))) (Or.inl (hw _ (List.mem_of_getElem? (i := 71) rfl))) (by decide) (t := .int) (t' := .double) (by decide) (by decide)))
  have F_optimum_a1_67 := F_optimum_a1.other W67 (Or.inr (slot_ne (Or.inl (hw _ (List.mem_of_getElem? (i := 22) rfl))) (Or.inl (hw _ (List.mem_of_getElem? (i := 71) rfl))) (by decide) (t := .double) (t' := .double) (by decide) (by decide)))
  have F_best_a1_67 := F_best_a1.other W67 (Or.inr (slot_ne (Or.inl (hw _ (List.mem_of_getElem? (i := 27) rfl))) (Or.inl (hw _ (List.mem_of_getElem? (i := 71) rfl))) (by decide) (t := .double) (t' := .double) (by decide) (by decide)))
  have F_optimumKnown_a1_67 := F_optimumKnown_a1.other W67 (Or.inr (slot_ne (Or.inl (hw _ (List.mem_of_getElem? (i := 24) rfl))) (Or.inl (hw _ (List.mem_of_getElem? (i := 71) rfl))) (by decide) (t := .boolean) (t' := .double) (by decide) (by decide)))
  have F_evaluations_a1_67 := F_evaluations_a1.other W67 (Or.inr (slot_ne (Or.inl (hw _ (List.mem_of_getElem? (i := 55) rfl))) (Or.inl (hw _ (List.mem_of_getElem? (i := 71) rfl))) (by decide) (t := .long) (t' := .double) (by decide) (by decide)))
  have F_performanceSum_a1_67 := F_performanceSum_a1.other W67 (Or.inr (slot_ne (Or.inl (hw _ (List.mem_of_getElem? (i := 60) rfl))) (Or.inl (hw _ (List.mem_of_getElem? (i := 71) rfl))) (by decide) (t := .double) (t' := .double) (by decide) (by decide)))
  have F_errorSum_a1_67 := F_errorSum_a1.other W67 (Or.inr (slot_ne (Or.inl (hw _ (List.mem_of_getElem? (i := 62) rfl))) (Or.inl (hw _ (List.mem_of_getElem? (i := 71) rfl))) (by decide) (t := .double) (t' := .double) (by decide) (by decide)))
  have F_optimumSum_a1_67 := F_optimumSum_a1.other W67 (Or.inr (slot_ne (Or.inl (hw _ (List.mem_of_getElem? (i := 64) rfl))) (Or.inl (hw _ (List.mem_of_getElem? (i := 71) rfl))) (by decide) (t := .double) (t' := .double) (by decide) (by decide)))
  have N67 := Fr.snoc X67 N0 g_a1
  have Z67 : n0 ≤ h67.size := Nat.le_trans Z0 (Keep.of_wr W67).1
  have K67 := Kz.wr W67 (Or.inl (List.mem_of_getElem? (i := 0) rfl))
  show own_Fin _ _ _ _ (T67.setTop (mkF m 25 #[rv a1, .val (.double (FP.l2d on.toInt64)), .second] []))
  refine own_go (XS.aloadN X67.here hx rfl (hb hby d7_25) rfl rfl (Steps.refl _)) ?_
  show own_Fin _ _ _ _ (T67.setTop (mkF m 26 #[rv a1, .val (.double (FP.l2d on.toInt64)), .second] [(.ref a1)]))
  refine own_go (XS.dup X67.here hx rfl (hb hby d7_26) rfl rfl (Steps.refl _)) ?_
  show own_Fin _ _ _ _ (T67.setTop (mkF m 27 #[rv a1, .val (.double (FP.l2d on.toInt64)), .second] [(.ref a1), (.ref a1)]))
  obtain ⟨T68, X68, e68, st68⟩ := getF X67 hx hZ hown (host := "") (Or.inl (hw _ (List.mem_of_getElem? (i := 36) rfl))) Via.refl e67 F_periods_a1_67 (g := (mkF m 27 #[rv a1, .val (.double (FP.l2d on.toInt64)), .second] [(.ref a1), (.ref a1)])) rfl rfl (hb hby d7_27)
  refine own_by st68 ?_
  show own_Fin _ _ _ _ (T68.setTop (mkF m 30 #[rv a1, .val (.double (FP.l2d on.toInt64)), .second] [(.int (2 : Int32)), (.ref a1)]))
  refine own_go (XS.iconst X68.here hx rfl (hb hby d7_30) (Steps.refl _)) ?_
  show own_Fin _ _ _ _ (T68.setTop (mkF m 31 #[rv a1, .val (.double (FP.l2d on.toInt64)), .second] [(.int (1 : Int32)), (.int (2 : Int32)), (.ref a1)]))
  refine own_go (XS.iadd X68.here hx rfl (hb hby d7_31) rfl (Steps.refl _)) ?_
  show own_Fin _ _ _ _ (T68.setTop (mkF m 32 #[rv a1, .val (.double (FP.l2d on.toInt64)), .second] [(.int (3 : Int32)), (.ref a1)]))
  obtain ⟨T69, h69, X69, e69, W69, st69⟩ := putF X68 hx hZ hown (host := "") (Or.inl (hw _ (List.mem_of_getElem? (i := 36) rfl))) Via.refl e68 F_periods_a1_67 E_a1_67 (Or.inl (hw _ (List.mem_of_getElem? (i := 37) rfl))) (hw _ (List.mem_of_getElem? (i := 12) rfl)) (ty := .int) (by decide) rfl rfl (g := (mkF m 32 #[rv a1, .val (.double (FP.l2d on.toInt64)), .second] [(.int (3 : Int32)), (.ref a1)])) rfl rfl (hb hby d7_32)
  refine own_by st69 ?_
  have F_periods_a1_69 := F_periods_a1_67.same W69
  have E_a1_69 := E_a1_67.wr W69
  have F_closedBestErrorSum_a1_69 := F_closedBestErrorSum_a1_67.other W69 (Or.inr (slot_ne (Or.inl (hw _ (List.mem_of_getElem? (i := 71) rfl))) (Or.inl (hw _ (List.mem_of_getElem? (i := 37) rfl))) (by decide) (t := .double) (t' := .int) (by decide) (by decide)))
  have F_optimum_a1_69 := F_optimum_a1_67.other W69 (Or.inr (slot_ne (Or.inl (hw _ (List.mem_of_getElem? (i := 22) rfl))) (Or.inl (hw _ (List.mem_of_getElem? (i := 37) rfl))) (by decide) (t := .double) (t' := .int) (by decide) (by decide)))
  have F_best_a1_69 := F_best_a1_67.other W69 (Or.inr (slot_ne (Or.inl (hw _ (List.mem_of_getElem? (i := 27) rfl))) (Or.inl (hw _ (List.mem_of_getElem? (i := 37) rfl))) (by decide) (t := .double) (t' := .int) (by decide) (by decide)))
  have F_optimumKnown_a1_69 := F_optimumKnown_a1_67.other W69 (Or.inr (slot_ne (Or.inl (hw _ (List.mem_of_getElem? (i := 24) rfl))) (Or.inl (hw _ (List.mem_of_getElem? (i := 37) rfl))) (by decide) (t := .boolean) (t' := .int) (by decide) (by decide)))
  have F_evaluations_a1_69 := F_evaluations_a1_67.other W69 (Or.inr (slot_ne (Or.inl (hw _ (List.mem_of_getElem? (i := 55) rfl))) (Or.inl (hw _ (List.mem_of_getElem? (i := 37) rfl))) (by decide) (t := .long) (t' := .int) (by decide) (by decide)))
  have F_performanceSum_a1_69 := F_performanceSum_a1_67.other W69 (Or.inr (slot_ne (Or.inl (hw _ (List.mem_of_getElem? (i := 60) rfl))) (Or.inl (hw _ (List.mem_of_getElem? (i := 37) rfl))) (by decide) (t := .double) (t' := .int) (by decide) (by decide)))
  have F_errorSum_a1_69 := F_errorSum_a1_67.other W69 (Or.inr (slot_ne (Or.inl (hw _ (List.mem_of_getElem? (i := 62) rfl))) (Or.inl (hw _ (List.mem_of_getElem? (i := 37) rfl))) (by decide) (t := .double) (t' := .int) (by decide) (by decide)))
  have F_optimumSum_a1_69 := F_optimumSum_a1_67.other W69 (Or.inr (slot_ne (Or.inl (hw _ (List.mem_of_getElem? (i := 64) rfl))) (Or.inl (hw _ (List.mem_of_getElem? (i := 37) rfl))) (by decide) (t := .double) (t' := .int) (by decide) (by decide)))
  have N69 := Fr.snoc X69 N67 g_a1
  have Z69 : n0 ≤ h69.size := Nat.le_trans Z67 (Keep.of_wr W69).1
  have K69 := K67.wr W69 (Or.inl (List.mem_of_getElem? (i := 0) rfl))
  show own_Fin _ _ _ _ (T69.setTop (mkF m 35 #[rv a1, .val (.double (FP.l2d on.toInt64)), .second] []))
  refine own_go (XS.aloadN X69.here hx rfl (hb hby d7_35) rfl rfl (Steps.refl _)) ?_
  show own_Fin _ _ _ _ (T69.setTop (mkF m 36 #[rv a1, .val (.double (FP.l2d on.toInt64)), .second] [(.ref a1)]))
  refine own_go (XS.dloadN X69.here hx rfl (hb hby d7_36) rfl (Steps.refl _)) ?_
  show own_Fin _ _ _ _ (T69.setTop (mkF m 37 #[rv a1, .val (.double (FP.l2d on.toInt64)), .second] [(.double (FP.l2d on.toInt64)), (.ref a1)]))
  obtain ⟨T70, h70, X70, e70, W70, st70⟩ := putF X69 hx hZ hown (host := "") (Or.inl (hw _ (List.mem_of_getElem? (i := 21) rfl))) Via.refl e69 F_optimum_a1_69 E_a1_69 (Or.inl (hw _ (List.mem_of_getElem? (i := 22) rfl))) (hw _ (List.mem_of_getElem? (i := 12) rfl)) (ty := .double) (by decide) rfl rfl (g := (mkF m 37 #[rv a1, .val (.double (FP.l2d on.toInt64)), .second] [(.double (FP.l2d on.toInt64)), (.ref a1)])) rfl rfl (hb hby d7_37)
  refine own_by st70 ?_
  have F_optimum_a1_70 := F_optimum_a1_69.same W70
  have E_a1_70 := E_a1_69.wr W70
  have F_periods_a1_70 := F_periods_a1_69.other W70 (Or.inr (slot_ne (Or.inl (hw _ (List.mem_of_getElem? (i := 37) rfl))) (Or.inl (hw _ (List.mem_of_getElem? (i := 22) rfl))) (by decide) (t := .int) (t' := .double) (by decide) (by decide)))
  have F_closedBestErrorSum_a1_70 := F_closedBestErrorSum_a1_69.other W70 (Or.inr (slot_ne (Or.inl (hw _ (List.mem_of_getElem? (i := 71) rfl))) (Or.inl (hw _ (List.mem_of_getElem? (i := 22) rfl))) (by decide) (t := .double) (t' := .double) (by decide) (by decide)))
  have F_best_a1_70 := F_best_a1_69.other W70 (Or.inr (slot_ne (Or.inl (hw _ (List.mem_of_getElem? (i := 27) rfl))) (Or.inl (hw _ (List.mem_of_getElem? (i := 22) rfl))) (by decide) (t := .double) (t' := .double) (by decide) (by decide)))
  have F_optimumKnown_a1_70 := F_optimumKnown_a1_69.other W70 (Or.inr (slot_ne (Or.inl (hw _ (List.mem_of_getElem? (i := 24) rfl))) (Or.inl (hw _ (List.mem_of_getElem? (i := 22) rfl))) (by decide) (t := .boolean) (t' := .double) (by decide) (by decide)))
  have F_evaluations_a1_70 := F_evaluations_a1_69.other W70 (Or.inr (slot_ne (Or.inl (hw _ (List.mem_of_getElem? (i := 55) rfl))) (Or.inl (hw _ (List.mem_of_getElem? (i := 22) rfl))) (by decide) (t := .long) (t' := .double) (by decide) (by decide)))
  have F_performanceSum_a1_70 := F_performanceSum_a1_69.other W70 (Or.inr (slot_ne (Or.inl (hw _ (List.mem_of_getElem? (i := 60) rfl))) (Or.inl (hw _ (List.mem_of_getElem? (i := 22) rfl))) (by decide) (t := .double) (t' := .double) (by decide) (by decide)))
  have F_errorSum_a1_70 := F_errorSum_a1_69.other W70 (Or.inr (slot_ne (Or.inl (hw _ (List.mem_of_getElem? (i := 62) rfl))) (Or.inl (hw _ (List.mem_of_getElem? (i := 22) rfl))) (by decide) (t := .double) (t' := .double) (by decide) (by decide)))
  have F_optimumSum_a1_70 := F_optimumSum_a1_69.other W70 (Or.inr (slot_ne (Or.inl (hw _ (List.mem_of_getElem? (i := 64) rfl))) (Or.inl (hw _ (List.mem_of_getElem? (i := 22) rfl))) (by decide) (t := .double) (t' := .double) (by decide) (by decide)))
  have N70 := Fr.snoc X70 N69 g_a1
  have Z70 : n0 ≤ h70.size := Nat.le_trans Z69 (Keep.of_wr W70).1
  have K70 := K69.wr W70 (Or.inl (List.mem_of_getElem? (i := 0) rfl))
  show own_Fin _ _ _ _ (T70.setTop (mkF m 40 #[rv a1, .val (.double (FP.l2d on.toInt64)), .second] []))
  refine own_go (XS.aloadN X70.here hx rfl (hb hby d7_40) rfl rfl (Steps.refl _)) ?_
  show own_Fin _ _ _ _ (T70.setTop (mkF m 41 #[rv a1, .val (.double (FP.l2d on.toInt64)), .second] [(.ref a1)]))
  refine own_go (XS.dup X70.here hx rfl (hb hby d7_41) rfl rfl (Steps.refl _)) ?_
  show own_Fin _ _ _ _ (T70.setTop (mkF m 42 #[rv a1, .val (.double (FP.l2d on.toInt64)), .second] [(.ref a1), (.ref a1)]))
  obtain ⟨T71, X71, e71, st71⟩ := getF X70 hx hZ hown (host := "") (Or.inl (hw _ (List.mem_of_getElem? (i := 23) rfl))) Via.refl e70 F_optimumKnown_a1_70 (g := (mkF m 42 #[rv a1, .val (.double (FP.l2d on.toInt64)), .second] [(.ref a1), (.ref a1)])) rfl rfl (hb hby d7_42)
  refine own_by st71 ?_
  show own_Fin _ _ _ _ (T71.setTop (mkF m 45 #[rv a1, .val (.double (FP.l2d on.toInt64)), .second] [(.int (1 : Int32)), (.ref a1)]))
  refine own_go (XS.dloadN X71.here hx rfl (hb hby d7_45) rfl (Steps.refl _)) ?_
  show own_Fin _ _ _ _ (T71.setTop (mkF m 46 #[rv a1, .val (.double (FP.l2d on.toInt64)), .second] [(.double (FP.l2d on.toInt64)), (.int (1 : Int32)), (.ref a1)]))
  obtain ⟨_, _, ⟨T72, L72, k72, n72⟩, -, X72, ⟨Lc72, hQ72, l72, y72, z72⟩, st72⟩ := Jvm.LawKit.callS X71 hx (y := (⟨"java/lang/Double", "isNaN", "(D)Z"⟩ : MethodName)) hown (mvT hZ (hw _ (List.mem_of_getElem? (i := 38) rfl))) (mvT hZ (hw _ (List.mem_of_getElem? (i := 39) rfl))) (mvT hZ (hw _ (List.mem_of_getElem? (i := 40) rfl))) (mvT hZ (hw _ (List.mem_of_getElem? (i := 41) rfl))) (by decide) (backOf (W := 2) (rmisn l Z a0 hw [] (FP.l2d on.toInt64) h70 n0 Z70 (l2d_fin _).noNaN) hZ (hw _ (List.mem_of_getElem? (i := 41) rfl)) (hw _ (List.mem_of_getElem? (i := 40) rfl)) (by decide) (by decide)) (g := (mkF m 46 #[rv a1, .val (.double (FP.l2d on.toInt64)), .second] [(.double (FP.l2d on.toInt64)), (.int (1 : Int32)), (.ref a1)])) rfl (by rw [hml]; rfl) (argsL := [(.double (FP.l2d on.toInt64))]) (rest := [(.int (1 : Int32)), (.ref a1)]) (lenOf pd__28_D_29_Z rfl) rfl (by show 2 * 0 + _ ≤ _; exact Nat.le_of_eq rfl) (hb hby d7_46) (fun _ hv => ⟨rfl, e71, (by decide : 0 + 0 ≤ _), (by decide : 0 + 0 ≤ _)⟩)
  dsimp only [Pt.U, Pt.locs, Pt.cells, Pt.slots] at X72 l72 y72 z72 st72 hQ72
  subst l72 y72 z72
  obtain ⟨rfl, Nq72, e72⟩ := hQ72
  refine own_by st72 ?_
  have N72 := Fr.app N70 Nq72
  show own_Fin _ _ _ _ (T72.setTop (mkF m 49 #[rv a1, .val (.double (FP.l2d on.toInt64)), .second] [(.int (0 : Int32)), (.int (1 : Int32)), (.ref a1)]))
  refine own_go (XS.ifNo X72.here hx rfl (hb hby d7_49) rfl ((if0 _ _).trans (teq (by decide : (0 : Int32) = (0 : Int32))).2) (Steps.refl _)) ?_
  show own_Fin _ _ _ _ (T72.setTop (mkF m 52 #[rv a1, .val (.double (FP.l2d on.toInt64)), .second] [(.int (1 : Int32)), (.ref a1)]))
  refine own_go (XS.iconst X72.here hx rfl (hb hby d7_52) (Steps.refl _)) ?_
  show own_Fin _ _ _ _ (T72.setTop (mkF m 53 #[rv a1, .val (.double (FP.l2d on.toInt64)), .second] [(.int (1 : Int32)), (.int (1 : Int32)), (.ref a1)]))
  refine own_go (XS.goto X72.here hx rfl (pc0 := 53) (pc' := 57) rfl (hb hby d7_53) (by decide) (by decide) (Steps.refl _)) ?_
  show own_Fin _ _ _ _ (T72.setTop (mkF m 57 #[rv a1, .val (.double (FP.l2d on.toInt64)), .second] [(.int (1 : Int32)), (.int (1 : Int32)), (.ref a1)]))
  refine own_go (XS.iand X72.here hx rfl (hb hby d7_57) rfl (Steps.refl _)) ?_
  show own_Fin _ _ _ _ (T72.setTop (mkF m 58 #[rv a1, .val (.double (FP.l2d on.toInt64)), .second] [(.int (1 : Int32)), (.ref a1)]))
  obtain ⟨T73, h73, X73, e73, W73, st73⟩ := putFN X72 hx hZ hown (hw _ (List.mem_of_getElem? (i := 23) rfl)) Via.refl e72 F_optimumKnown_a1_70 E_a1_70 (Or.inl (hw _ (List.mem_of_getElem? (i := 24) rfl))) (hw _ (List.mem_of_getElem? (i := 12) rfl)) (ty := .boolean) (v' := (.int (nar .boolean (1 : Int32)))) (by decide) rfl (fits_nar_bool _) (g := (mkF m 58 #[rv a1, .val (.double (FP.l2d on.toInt64)), .second] [(.int (1 : Int32)), (.ref a1)])) rfl rfl (hb hby d7_58)
  refine own_by st73 ?_
  have F_optimumKnown_a1_73 := F_optimumKnown_a1_70.same W73
  have E_a1_73 := E_a1_70.wr W73
  have F_periods_a1_73 := F_periods_a1_70.other W73 (Or.inr (slot_ne (Or.inl (hw _ (List.mem_of_getElem? (i := 37) rfl))) (Or.inl (hw _ (List.mem_of_getElem? (i := 24) rfl))) (by decide) (t := .int) (t' := .boolean) (by decide) (by decide)))
  have F_closedBestErrorSum_a1_73 := F_closedBestErrorSum_a1_70.other W73 (Or.inr (slot_ne (Or.inl (hw _ (List.mem_of_getElem? (i := 71) rfl))) (Or.inl (hw _ (List.mem_of_getElem? (i := 24) rfl))) (by decide) (t := .double) (t' := .boolean) (by decide) (by decide)))
  have F_optimum_a1_73 := F_optimum_a1_70.other W73 (Or.inr (slot_ne (Or.inl (hw _ (List.mem_of_getElem? (i := 22) rfl))) (Or.inl (hw _ (List.mem_of_getElem? (i := 24) rfl))) (by decide) (t := .double) (t' := .boolean) (by decide) (by decide)))
  have F_best_a1_73 := F_best_a1_70.other W73 (Or.inr (slot_ne (Or.inl (hw _ (List.mem_of_getElem? (i := 27) rfl))) (Or.inl (hw _ (List.mem_of_getElem? (i := 24) rfl))) (by decide) (t := .double) (t' := .boolean) (by decide) (by decide)))
  have F_evaluations_a1_73 := F_evaluations_a1_70.other W73 (Or.inr (slot_ne (Or.inl (hw _ (List.mem_of_getElem? (i := 55) rfl))) (Or.inl (hw _ (List.mem_of_getElem? (i := 24) rfl))) (by decide) (t := .long) (t' := .boolean) (by decide) (by decide)))
  have F_performanceSum_a1_73 := F_performanceSum_a1_70.other W73 (Or.inr (slot_ne (Or.inl (hw _ (List.mem_of_getElem? (i := 60) rfl))) (Or.inl (hw _ (List.mem_of_getElem? (i := 24) rfl))) (by decide) (t := .double) (t' := .boolean) (by decide) (by decide)))
  have F_errorSum_a1_73 := F_errorSum_a1_70.other W73 (Or.inr (slot_ne (Or.inl (hw _ (List.mem_of_getElem? (i := 62) rfl))) (Or.inl (hw _ (List.mem_of_getElem? (i := 24) rfl))) (by decide) (t := .double) (t' := .boolean) (by decide) (by decide)))
  have F_optimumSum_a1_73 := F_optimumSum_a1_70.other W73 (Or.inr (slot_ne (Or.inl (hw _ (List.mem_of_getElem? (i := 64) rfl))) (Or.inl (hw _ (List.mem_of_getElem? (i := 24) rfl))) (by decide) (t := .double) (t' := .boolean) (by decide) (by decide)))
  have N73 := Fr.snoc X73 N72 g_a1
  have Z73 : n0 ≤ h73.size := Nat.le_trans Z70 (Keep.of_wr W73).1
  have K73 := K70.wr W73 (Or.inl (List.mem_of_getElem? (i := 0) rfl))
  show own_Fin _ _ _ _ (T73.setTop (mkF m 61 #[rv a1, .val (.double (FP.l2d on.toInt64)), .second] []))
  refine own_go (XS.aloadN X73.here hx rfl (hb hby d7_61) rfl rfl (Steps.refl _)) ?_
  show own_Fin _ _ _ _ (T73.setTop (mkF m 62 #[rv a1, .val (.double (FP.l2d on.toInt64)), .second] [(.ref a1)]))
  refine own_by (X73.ldc2DoubleC hx hown (mvT hZ (hw _ (List.mem_of_getElem? (i := 25) rfl))) (g := (mkF m 62 #[rv a1, .val (.double (FP.l2d on.toInt64)), .second] [(.ref a1)])) rfl (hb hby d7_62)) ?_
  show own_Fin _ _ _ _ (T73.setTop (mkF m 65 #[rv a1, .val (.double (FP.l2d on.toInt64)), .second] [(.double (18442240474082181120 : UInt64)), (.ref a1)]))
  obtain ⟨T74, h74, X74, e74, W74, st74⟩ := putF X73 hx hZ hown (host := "") (Or.inl (hw _ (List.mem_of_getElem? (i := 26) rfl))) Via.refl e73 F_best_a1_73 E_a1_73 (Or.inl (hw _ (List.mem_of_getElem? (i := 27) rfl))) (hw _ (List.mem_of_getElem? (i := 12) rfl)) (ty := .double) (by decide) rfl rfl (g := (mkF m 65 #[rv a1, .val (.double (FP.l2d on.toInt64)), .second] [(.double (18442240474082181120 : UInt64)), (.ref a1)])) rfl rfl (hb hby d7_65)
  refine own_by st74 ?_
  have F_best_a1_74 := F_best_a1_73.same W74
  have E_a1_74 := E_a1_73.wr W74
  have F_periods_a1_74 := F_periods_a1_73.other W74 (Or.inr (slot_ne (Or.inl (hw _ (List.mem_of_getElem? (i := 37) rfl))) (Or.inl (hw _ (List.mem_of_getElem? (i := 27) rfl))) (by decide) (t := .int) (t' := .double) (by decide) (by decide)))
  have F_closedBestErrorSum_a1_74 := F_closedBestErrorSum_a1_73.other W74 (Or.inr (slot_ne (Or.inl (hw _ (List.mem_of_getElem? (i := 71) rfl))) (Or.inl (hw _ (List.mem_of_getElem? (i := 27) rfl))) (by decide) (t := .double) (t' := .double) (by decide) (by decide)))
  have F_optimum_a1_74 := F_optimum_a1_73.other W74 (Or.inr (slot_ne (Or.inl (hw _ (List.mem_of_getElem? (i := 22) rfl))) (Or.inl (hw _ (List.mem_of_getElem? (i := 27) rfl))) (by decide) (t := .double) (t' := .double) (by decide) (by decide)))
  have F_optimumKnown_a1_74 := F_optimumKnown_a1_73.other W74 (Or.inr (slot_ne (Or.inl (hw _ (List.mem_of_getElem? (i := 24) rfl))) (Or.inl (hw _ (List.mem_of_getElem? (i := 27) rfl))) (by decide) (t := .boolean) (t' := .double) (by decide) (by decide)))
  have F_evaluations_a1_74 := F_evaluations_a1_73.other W74 (Or.inr (slot_ne (Or.inl (hw _ (List.mem_of_getElem? (i := 55) rfl))) (Or.inl (hw _ (List.mem_of_getElem? (i := 27) rfl))) (by decide) (t := .long) (t' := .double) (by decide) (by decide)))
  have F_performanceSum_a1_74 := F_performanceSum_a1_73.other W74 (Or.inr (slot_ne (Or.inl (hw _ (List.mem_of_getElem? (i := 60) rfl))) (Or.inl (hw _ (List.mem_of_getElem? (i := 27) rfl))) (by decide) (t := .double) (t' := .double) (by decide) (by decide)))
  have F_errorSum_a1_74 := F_errorSum_a1_73.other W74 (Or.inr (slot_ne (Or.inl (hw _ (List.mem_of_getElem? (i := 62) rfl))) (Or.inl (hw _ (List.mem_of_getElem? (i := 27) rfl))) (by decide) (t := .double) (t' := .double) (by decide) (by decide)))
  have F_optimumSum_a1_74 := F_optimumSum_a1_73.other W74 (Or.inr (slot_ne (Or.inl (hw _ (List.mem_of_getElem? (i := 64) rfl))) (Or.inl (hw _ (List.mem_of_getElem? (i := 27) rfl))) (by decide) (t := .double) (t' := .double) (by decide) (by decide)))
  have N74 := Fr.snoc X74 N73 g_a1
  have Z74 : n0 ≤ h74.size := Nat.le_trans Z73 (Keep.of_wr W74).1
  have K74 := K73.wr W74 (Or.inl (List.mem_of_getElem? (i := 0) rfl))
  show own_Fin _ _ _ _ (T74.setTop (mkF m 68 #[rv a1, .val (.double (FP.l2d on.toInt64)), .second] []))
  obtain ⟨fs75, hr75, hrun75, hended75, hW75, hsame75⟩ := X74.leave (v := none) (fun _ => rfl)
  refine own_done (X74.returnOut hx Bd.returns (hb hby d7_68) hr75) hrun75 hended75 ⟨_, _, rfl, ?_, ⟨_, rfl⟩, hW75, hsame75.mono (by decide) (by decide)⟩
  show Qsp_2 Z a1 on zc zo zb ev ps es os h0 n0 _ T74.heap _
  rw [e74]
  exact ⟨rfl, N74, K74, E_a1_74, F_periods_a1_74, F_closedBestErrorSum_a1_74, F_optimum_a1_74, F_best_a1_74, F_optimumKnown_a1_74, F_evaluations_a1_74, F_performanceSum_a1_74, F_errorSum_a1_74, F_optimumSum_a1_74⟩
theorem d6_0 : decode method_4_code 0 = .ok (.aload_n 0, 1) := by decide +kernel
theorem d6_1 : decode method_4_code 1 = .ok (.iload_n 2, 1) := by decide +kernel
theorem d6_2 : decode method_4_code 2 = .ok (.i2d, 1) := by decide +kernel
theorem d6_3 : decode method_4_code 3 = .ok (.invokevirtual 45, 3) := by decide +kernel
theorem d6_6 : decode method_4_code 6 = .ok (.iload_n 3, 1) := by decide +kernel
theorem d6_7 : decode method_4_code 7 = .ok (.iload_n 1, 1) := by decide +kernel
theorem d6_8 : decode method_4_code 8 = .ok (.if_icmp .ne 10, 3) := by decide +kernel
theorem d6_11 : decode method_4_code 11 = .ok (.aload_n 0, 1) := by decide +kernel
theorem d6_12 : decode method_4_code 12 = .ok (.iload 6, 2) := by decide +kernel
theorem d6_14 : decode method_4_code 14 = .ok (.i2d, 1) := by decide +kernel
theorem d6_15 : decode method_4_code 15 = .ok (.invokevirtual 49, 3) := by decide +kernel
theorem d6_18 : decode method_4_code 18 = .ok (.iload 4, 2) := by decide +kernel
theorem d6_20 : decode method_4_code 20 = .ok (.iload_n 1, 1) := by decide +kernel
theorem d6_21 : decode method_4_code 21 = .ok (.if_icmp .ne 10, 3) := by decide +kernel
theorem d6_24 : decode method_4_code 24 = .ok (.aload_n 0, 1) := by decide +kernel
theorem d6_25 : decode method_4_code 25 = .ok (.iload 7, 2) := by decide +kernel
theorem d6_27 : decode method_4_code 27 = .ok (.i2d, 1) := by decide +kernel
theorem d6_28 : decode method_4_code 28 = .ok (.invokevirtual 49, 3) := by decide +kernel
theorem d6_31 : decode method_4_code 31 = .ok (.iload 5, 2) := by decide +kernel
theorem d6_33 : decode method_4_code 33 = .ok (.iload_n 1, 1) := by decide +kernel
theorem d6_34 : decode method_4_code 34 = .ok (.if_icmp .ne 10, 3) := by decide +kernel
theorem d6_37 : decode method_4_code 37 = .ok (.aload_n 0, 1) := by decide +kernel
theorem d6_38 : decode method_4_code 38 = .ok (.iload 8, 2) := by decide +kernel
theorem d6_40 : decode method_4_code 40 = .ok (.i2d, 1) := by decide +kernel
theorem d6_41 : decode method_4_code 41 = .ok (.invokevirtual 49, 3) := by decide +kernel
theorem d6_44 : decode method_4_code 44 = .ok (.return_, 1) := by decide +kernel
theorem ef_ph_0 (m : MethodId) (x0 : Addr) (x1 : Int32) (x2 : Int32) (x3 : Int32) (x4 : Int32) (x5 : Int32) (x6 : Int32) (x7 : Int32) (x8 : Int32) : entryFrame m #[(.ref x0), (.int x1), (.int x2), (.int x3), (.int x4), (.int x5), (.int x6), (.int x7), (.int x8)] 9 = mkF m 0 #[.val (.ref x0), .val (.int x1), .val (.int x2), .val (.int x3), .val (.int x4), .val (.int x5), .val (.int x6), .val (.int x7), .val (.int x8)] [] := by first | (simp [entryFrame, mkF, argsToLocals, Value.category]; done) | rfl
def Qph_0 (Z : State) (a1 : Addr) (p2 : Int32) (p3 : Int32) (p4 : Int32) (p5 : Int32) (p6 : Int32) (p7 : Int32) (p8 : Int32) (p9 : Int32) (ou : UInt64) (ev : Int64) (ps : UInt64) (es : UInt64) (os : UInt64) (h0 : Heap) (n0 : Nat) (v : Option Value) (h : Heap) (L : List Loc) : Prop := ∃ (ps2 : UInt64) (es2 : UInt64) (os2 : UInt64) (ev2 : Int64), v = none ∧ Fr n0 L ∧ Keep h0 h [a1] ∧ Exa Z h a1 "com/example/tidewalk/tidewalk/problems/RunMeasures" ∧ Fld Z h a1 "com/example/tidewalk/tidewalk/problems/RunMeasures" "periods" "I" (.int (1 : Int32)) ∧ Fld Z h a1 "com/example/tidewalk/tidewalk/problems/RunMeasures" "closedBestErrorSum" "D" (.double (own_cl (some 0))) ∧ Fld Z h a1 "com/example/tidewalk/tidewalk/problems/RunMeasures" "optimum" "D" (.double (FP.l2d p3.toInt64)) ∧ Fld Z h a1 "com/example/tidewalk/tidewalk/problems/RunMeasures" "best" "D" (.double (own_be (own_b3 p2 p4 p5 p6 p7 p8 p9))) ∧ Fld Z h a1 "com/example/tidewalk/tidewalk/problems/RunMeasures" "optimumKnown" "Z" (.int (1 : Int32)) ∧ Fld Z h a1 "com/example/tidewalk/tidewalk/problems/RunMeasures" "evaluations" "J" (.long ev2) ∧ Fld Z h a1 "com/example/tidewalk/tidewalk/problems/RunMeasures" "performanceSum" "D" (.double ps2) ∧ Fld Z h a1 "com/example/tidewalk/tidewalk/problems/RunMeasures" "errorSum" "D" (.double es2) ∧ Fld Z h a1 "com/example/tidewalk/tidewalk/problems/RunMeasures" "optimumSum" "D" (.double os2) ∧ NoNaN64 ps2 ∧ NoNaN64 es2 ∧ NoNaN64 os2
abbrev Gph_0 (Z : State) (a1 : Addr) (p2 : Int32) (p3 : Int32) (p4 : Int32) (p5 : Int32) (p6 : Int32) (p7 : Int32) (p8 : Int32) (p9 : Int32) (ou : UInt64) (ev : Int64) (ps : UInt64) (es : UInt64) (os : UInt64) (h0 : Heap) (n0 : Nat) (s : State) : Outcome → State → Prop := fun o U' => ∃ v L, o = .returned v ∧ Qph_0 Z a1 p2 p3 p4 p5 p6 p7 p8 p9 ou ev ps es os h0 n0 v U'.heap L ∧ FrameEnd s o U' L ({ frames := 3, cells := 0, slots := 0, locals := 60 } : Room).cells ({ frames := 3, cells := 0, slots := 0, locals := 60 } : Room).slots
theorem pd__28_D_29_V : parseMethodDescriptor "(D)V" = some ⟨[.double], none⟩ := by decide +kernel
set_option maxRecDepth 65536 in
set_option maxHeartbeats 40000000 in
theorem rmph_0 (l : Launch) (Z : State) (a0 : Array Value) (hw : ∀ d ∈ tables_1, d.before a0 Z = true) (ws : List Jvm.Cond) (a1 : Addr) (p2 : Int32) (p3 : Int32) (p4 : Int32) (p5 : Int32) (p6 : Int32) (p7 : Int32) (p8 : Int32) (p9 : Int32) (ou : UInt64) (ev : Int64) (ps : UInt64) (es : UInt64) (os : UInt64) (h0 : Heap) (n0 : Nat) (Z0 : n0 ≤ h0.size) (E_a1 : Exa Z h0 a1 "com/example/tidewalk/tidewalk/problems/RunMeasures") (F_periods_a1 : Fld Z h0 a1 "com/example/tidewalk/tidewalk/problems/RunMeasures" "periods" "I" (.int (0 : Int32))) (F_closedBestErrorSum_a1 : Fld Z h0 a1 "com/example/tidewalk/tidewalk/problems/RunMeasures" "closedBestErrorSum" "D" (.double (own_cl (some 0)))) (F_optimum_a1 : Fld Z h0 a1 "com/example/tidewalk/tidewalk/problems/RunMeasures" "optimum" "D" (.double ou)) (F_best_a1 : Fld Z h0 a1 "com/example/tidewalk/tidewalk/problems/RunMeasures" "best" "D" (.double (own_be none))) (F_optimumKnown_a1 : Fld Z h0 a1 "com/example/tidewalk/tidewalk/problems/RunMeasures" "optimumKnown" "Z" (.int (1 : Int32))) (F_evaluations_a1 : Fld Z h0 a1 "com/example/tidewalk/tidewalk/problems/RunMeasures" "evaluations" "J" (.long ev)) (F_performanceSum_a1 : Fld Z h0 a1 "com/example/tidewalk/tidewalk/problems/RunMeasures" "performanceSum" "D" (.double ps)) (F_errorSum_a1 : Fld Z h0 a1 "com/example/tidewalk/tidewalk/problems/RunMeasures" "errorSum" "D" (.double es)) (F_optimumSum_a1 : Fld Z h0 a1 "com/example/tidewalk/tidewalk/problems/RunMeasures" "optimumSum" "D" (.double os)) (g_a1 : n0 ≤ a1) (hps : NoNaN64 ps) (hes : NoNaN64 es) (hos : NoNaN64 os) :
    MetFree l (⟨"com/example/tidewalk/tidewalk/problems/RunMeasuresBestErrorBeforeChangePinLaw", "phase", "(Lcom/example/tidewalk/tidewalk/problems/RunMeasures;IIIIIIII)V"⟩ : MethodName) (head1 (Jvm.Cond.code (⟨"com/example/tidewalk/tidewalk/problems/RunMeasuresBestErrorBeforeChangePinLaw", "phase", "(Lcom/example/tidewalk/tidewalk/problems/RunMeasures;IIIIIIII)V"⟩ : MethodName) method_4_code 9 none :: ws) ({ frames := 3, cells := 0, slots := 0, locals := 60 } : Room)) (fun a U => a = #[(.ref a1), (.int p2), (.int p3), (.int p4), (.int p5), (.int p6), (.int p7), (.int p8), (.int p9)] ∧ Z.Warmed39 U.vm ∧ U.heap = h0) (fun _ _ _ _ _ => True) (fun _ U o U' => ∃ v L, o = .returned v ∧ Qph_0 Z a1 p2 p3 p4 p5 p6 p7 p8 p9 ou ev ps es os h0 n0 v U'.heap L ∧ FrameEnd U o U' L ({ frames := 3, cells := 0, slots := 0, locals := 60 } : Room).cells ({ frames := 3, cells := 0, slots := 0, locals := 60 } : Room).slots) := by
  refine MetFree.of_bodySF (plainFor_of_name pn_com_example_tidewalk_tidewalk_problems_RunMeasuresBestErrorBeforeChangePinLaw) hisR ?_
  intro p e s m args below meth c s₁ Bd hml0 hP hK
  obtain ⟨rfl, hZ, hh⟩ := hP
  have hx := Bd.exec
  have hby := Bd.bytes
  have hml : c.maxLocals = 9 := hml0
  have hown : s.vm.findClass "com/example/tidewalk/tidewalk/problems/RunMeasuresBestErrorBeforeChangePinLaw" = some m.cls := findClass_of_methodNamed Bd.named
  have hnm := (name_of_methodNamed Bd.named Bd.method).1
  have X0 : Stand p l e ({ frames := 3, cells := 0, slots := 0, locals := 60 } : Room) s m #[(.ref a1), (.int p2), (.int p3), (.int p4), (.int p5), (.int p6), (.int p7), (.int p8), (.int p9)] below meth c s₁ [] 0 0 := Stand.of_body Bd
  have e0 : s₁.heap = h0 := by rw [← hh, Bd.state]; rfl
  have es0 : s.heap = h0 := hh
  have N0 := Fr.nil n0
  show own_Fin p e below (Gph_0 Z a1 p2 p3 p4 p5 p6 p7 p8 p9 ou ev ps es os h0 n0 s) (s₁.setTop (entryFrame m #[(.ref a1), (.int p2), (.int p3), (.int p4), (.int p5), (.int p6), (.int p7), (.int p8), (.int p9)] 9))
  rw [ef_ph_0 m a1 p2 p3 p4 p5 p6 p7 p8 p9]
  have Kz := Keep.refl h0 [a1]
  refine own_go (XS.aloadN X0.here hx rfl (hb hby d6_0) rfl rfl (Steps.refl _)) ?_
  show own_Fin _ _ _ _ (s₁.setTop (mkF m 1 #[rv a1, iv p2, iv p3, iv p4, iv p5, iv p6, iv p7, iv p8, iv p9] [(.ref a1)]))
  refine own_go (XS.iloadN X0.here hx rfl (hb hby d6_1) rfl (Steps.refl _)) ?_
  show own_Fin _ _ _ _ (s₁.setTop (mkF m 2 #[rv a1, iv p2, iv p3, iv p4, iv p5, iv p6, iv p7, iv p8, iv p9] [(.int p3), (.ref a1)]))
  refine own_go (XS.i2dS X0.here hx rfl (hb hby d6_2) rfl (i2d_w _) (Steps.refl _)) ?_
  show own_Fin _ _ _ _ (s₁.setTop (mkF m 3 #[rv a1, iv p2, iv p3, iv p4, iv p5, iv p6, iv p7, iv p8, iv p9] [(.double (FP.l2d p3.toInt64)), (.ref a1)]))
  obtain ⟨cq76, kq76, q76a, q76b, q76c⟩ := isOf hZ e0 E_a1
  obtain ⟨_, _, ⟨T76, L76, k76, n76⟩, -, X76, ⟨Lc76, hQ76, l76, y76, z76⟩, st76⟩ := X0.virtualBack hx (y := (⟨"com/example/tidewalk/tidewalk/problems/RunMeasures", "startPeriod", "(D)V"⟩ : MethodName)) (z := (⟨"com/example/tidewalk/tidewalk/problems/RunMeasures", "startPeriod", "(D)V"⟩ : MethodName)) hown (mvT hZ (hw _ (List.mem_of_getElem? (i := 31) rfl))) (mvT hZ (hw _ (List.mem_of_getElem? (i := 32) rfl))) (notFace_of_selects (args := #[]) (mvT hZ (hw _ (List.mem_of_getElem? (i := 34) rfl)))) (mvT hZ (hw _ (List.mem_of_getElem? (i := 34) rfl))) (mvT hZ (hw _ (List.mem_of_getElem? (i := 33) rfl))) (by decide) (backOf (W := 0) (rmsp_0 l Z a0 hw [] a1 p3 ou ev ps es os h0 n0 Z0 E_a1 F_periods_a1 F_closedBestErrorSum_a1 F_optimum_a1 F_best_a1 F_optimumKnown_a1 F_evaluations_a1 F_performanceSum_a1 F_errorSum_a1 F_optimumSum_a1 g_a1) hZ (hw _ (List.mem_of_getElem? (i := 35) rfl)) (hw _ (List.mem_of_getElem? (i := 13) rfl)) (by decide) (by decide)) q76a q76c (g := (mkF m 3 #[rv a1, iv p2, iv p3, iv p4, iv p5, iv p6, iv p7, iv p8, iv p9] [(.double (FP.l2d p3.toInt64)), (.ref a1)])) rfl (by rw [hml]; rfl) (Steps.refl _) (argsL := [(.double (FP.l2d p3.toInt64))]) (rest := []) (lenOf pd__28_D_29_V rfl) rfl (by show 2 * 0 + _ ≤ _; exact Nat.le_of_eq rfl) (hb hby d6_3) (fun _ hv => ⟨rfl, e0, (by decide : 0 + 0 ≤ _), (by decide : 0 + 0 ≤ _)⟩)
  dsimp only [Pt.U, Pt.locs, Pt.cells, Pt.slots] at X76 l76 y76 z76 st76 hQ76
  subst l76 y76 z76
  refine own_go st76 ?_
  obtain ⟨rfl, Nq76, K76, r76_0, r76_1, r76_2, r76_3, r76_4, r76_5, r76_6, r76_7, r76_8, r76_9⟩ := hQ76
  have E_a1_76 := E_a1.keep K76
  have Z76 : n0 ≤ T76.heap.size := Nat.le_trans Z0 K76.1
  have Kt76 := Kz.trans K76 (allS (P := fun x => x ∈ _ ∨ _ ≤ x) (Or.inl (List.mem_of_getElem? (i := 0) rfl)) all0)
  have N76 := Fr.app N0 Nq76
  show own_Fin _ _ _ _ (T76.setTop (mkF m 6 #[rv a1, iv p2, iv p3, iv p4, iv p5, iv p6, iv p7, iv p8, iv p9] []))
  refine own_go (XS.iloadN X76.here hx rfl (hb hby d6_6) rfl (Steps.refl _)) ?_
  show own_Fin _ _ _ _ (T76.setTop (mkF m 7 #[rv a1, iv p2, iv p3, iv p4, iv p5, iv p6, iv p7, iv p8, iv p9] [(.int p4)]))
  refine own_go (XS.iloadN X76.here hx rfl (hb hby d6_7) rfl (Steps.refl _)) ?_
  show own_Fin _ _ _ _ (T76.setTop (mkF m 8 #[rv a1, iv p2, iv p3, iv p4, iv p5, iv p6, iv p7, iv p8, iv p9] [(.int p2), (.int p4)]))
  by_cases c8_77 : p4 = p2
  · refine own_go (XS.icmpNo X76.here hx rfl (hb hby d6_8) rfl (teq c8_77).2 (Steps.refl _)) ?_
    show own_Fin _ _ _ _ (T76.setTop (mkF m 11 #[rv a1, iv p2, iv p3, iv p4, iv p5, iv p6, iv p7, iv p8, iv p9] []))
    refine own_go (XS.aloadN X76.here hx rfl (hb hby d6_11) rfl rfl (Steps.refl _)) ?_
    show own_Fin _ _ _ _ (T76.setTop (mkF m 12 #[rv a1, iv p2, iv p3, iv p4, iv p5, iv p6, iv p7, iv p8, iv p9] [(.ref a1)]))
    refine own_go (XS.iload X76.here hx rfl (hb hby d6_12) rfl (Steps.refl _)) ?_
    show own_Fin _ _ _ _ (T76.setTop (mkF m 14 #[rv a1, iv p2, iv p3, iv p4, iv p5, iv p6, iv p7, iv p8, iv p9] [(.int p7), (.ref a1)]))
    refine own_go (XS.i2dS X76.here hx rfl (hb hby d6_14) rfl (i2d_w _) (Steps.refl _)) ?_
    show own_Fin _ _ _ _ (T76.setTop (mkF m 15 #[rv a1, iv p2, iv p3, iv p4, iv p5, iv p6, iv p7, iv p8, iv p9] [(.double (FP.l2d p7.toInt64)), (.ref a1)]))
    obtain ⟨cq78, kq78, q78a, q78b, q78c⟩ := isOf hZ rfl r76_0
    obtain ⟨_, _, ⟨T78, L78, k78, n78⟩, -, X78, ⟨Lc78, hQ78, l78, y78, z78⟩, st78⟩ := X76.virtualBack hx (y := (⟨"com/example/tidewalk/tidewalk/problems/RunMeasures", "record", "(D)V"⟩ : MethodName)) (z := (⟨"com/example/tidewalk/tidewalk/problems/RunMeasures", "record", "(D)V"⟩ : MethodName)) hown (mvT hZ (hw _ (List.mem_of_getElem? (i := 42) rfl))) (mvT hZ (hw _ (List.mem_of_getElem? (i := 43) rfl))) (notFace_of_selects (args := #[]) (mvT hZ (hw _ (List.mem_of_getElem? (i := 45) rfl)))) (mvT hZ (hw _ (List.mem_of_getElem? (i := 45) rfl))) (mvT hZ (hw _ (List.mem_of_getElem? (i := 44) rfl))) (by decide) (backOf (W := 0) (rmrc l Z a0 hw [] a1 p7 (1 : Int32) (some 0) p3 none ev ps es os T76.heap n0 Z76 r76_0 r76_1 r76_2 r76_3 r76_4 r76_5 r76_6 r76_7 r76_8 r76_9 g_a1 (by decide) (own_Wn _) hps hes hos) hZ (hw _ (List.mem_of_getElem? (i := 46) rfl)) (hw _ (List.mem_of_getElem? (i := 13) rfl)) (by decide) (by decide)) q78a q78c (g := (mkF m 15 #[rv a1, iv p2, iv p3, iv p4, iv p5, iv p6, iv p7, iv p8, iv p9] [(.double (FP.l2d p7.toInt64)), (.ref a1)])) rfl (by rw [hml]; rfl) (Steps.refl _) (argsL := [(.double (FP.l2d p7.toInt64))]) (rest := []) (lenOf pd__28_D_29_V rfl) rfl (by show 2 * 0 + _ ≤ _; exact Nat.le_of_eq rfl) (hb hby d6_15) (fun _ hv => ⟨rfl, rfl, (by decide : 0 + 0 ≤ _), (by decide : 0 + 0 ≤ _)⟩)
    dsimp only [Pt.U, Pt.locs, Pt.cells, Pt.slots] at X78 l78 y78 z78 st78 hQ78
    subst l78 y78 z78
    refine own_go st78 ?_
    obtain ⟨ps2_78, es2_78, os2_78, ev2_78, rfl, Nq78, K78, r78_0, r78_1, r78_2, r78_3, r78_4, r78_5, r78_6, r78_7, r78_8, r78_9, r78_10, r78_11, r78_12⟩ := hQ78
    have r76_0_78 := r76_0.keep K78
    have Z78 : n0 ≤ T78.heap.size := Nat.le_trans Z76 K78.1
    have Kt78 := Kt76.trans K78 (allS (P := fun x => x ∈ _ ∨ _ ≤ x) (Or.inl (List.mem_of_getElem? (i := 0) rfl)) all0)
    have N78 := Fr.app N76 Nq78
    show own_Fin _ _ _ _ (T78.setTop (mkF m 18 #[rv a1, iv p2, iv p3, iv p4, iv p5, iv p6, iv p7, iv p8, iv p9] []))
    refine own_go (XS.iload X78.here hx rfl (hb hby d6_18) rfl (Steps.refl _)) ?_
    show own_Fin _ _ _ _ (T78.setTop (mkF m 20 #[rv a1, iv p2, iv p3, iv p4, iv p5, iv p6, iv p7, iv p8, iv p9] [(.int p5)]))
    refine own_go (XS.iloadN X78.here hx rfl (hb hby d6_20) rfl (Steps.refl _)) ?_
    show own_Fin _ _ _ _ (T78.setTop (mkF m 21 #[rv a1, iv p2, iv p3, iv p4, iv p5, iv p6, iv p7, iv p8, iv p9] [(.int p2), (.int p5)]))
    by_cases c21_79 : p5 = p2
    · refine own_go (XS.icmpNo X78.here hx rfl (hb hby d6_21) rfl (teq c21_79).2 (Steps.refl _)) ?_
      show own_Fin _ _ _ _ (T78.setTop (mkF m 24 #[rv a1, iv p2, iv p3, iv p4, iv p5, iv p6, iv p7, iv p8, iv p9] []))
      refine own_go (XS.aloadN X78.here hx rfl (hb hby d6_24) rfl rfl (Steps.refl _)) ?_
      show own_Fin _ _ _ _ (T78.setTop (mkF m 25 #[rv a1, iv p2, iv p3, iv p4, iv p5, iv p6, iv p7, iv p8, iv p9] [(.ref a1)]))
      refine own_go (XS.iload X78.here hx rfl (hb hby d6_25) rfl (Steps.refl _)) ?_
      show own_Fin _ _ _ _ (T78.setTop (mkF m 27 #[rv a1, iv p2, iv p3, iv p4, iv p5, iv p6, iv p7, iv p8, iv p9] [(.int p8), (.ref a1)]))
      refine own_go (XS.i2dS X78.here hx rfl (hb hby d6_27) rfl (i2d_w _) (Steps.refl _)) ?_
      show own_Fin _ _ _ _ (T78.setTop (mkF m 28 #[rv a1, iv p2, iv p3, iv p4, iv p5, iv p6, iv p7, iv p8, iv p9] [(.double (FP.l2d p8.toInt64)), (.ref a1)]))
      obtain ⟨cq80, kq80, q80a, q80b, q80c⟩ := isOf hZ rfl r78_0
      obtain ⟨_, _, ⟨T80, L80, k80, n80⟩, -, X80, ⟨Lc80, hQ80, l80, y80, z80⟩, st80⟩ := X78.virtualBack hx (y := (⟨"com/example/tidewalk/tidewalk/problems/RunMeasures", "record", "(D)V"⟩ : MethodName)) (z := (⟨"com/example/tidewalk/tidewalk/problems/RunMeasures", "record", "(D)V"⟩ : MethodName)) hown (mvT hZ (hw _ (List.mem_of_getElem? (i := 42) rfl))) (mvT hZ (hw _ (List.mem_of_getElem? (i := 43) rfl))) (notFace_of_selects (args := #[]) (mvT hZ (hw _ (List.mem_of_getElem? (i := 45) rfl)))) (mvT hZ (hw _ (List.mem_of_getElem? (i := 45) rfl))) (mvT hZ (hw _ (List.mem_of_getElem? (i := 44) rfl))) (by decide) (backOf (W := 0) (rmrc l Z a0 hw [] a1 p8 (1 : Int32) (some 0) p3 (own_mx none p7.toInt64) ev2_78 ps2_78 es2_78 os2_78 T78.heap n0 Z78 r78_0 r78_1 r78_2 r78_3 r78_4 r78_5 r78_6 r78_7 r78_8 r78_9 g_a1 (by decide) (own_Wmx (own_Wn _) p7) r78_10 r78_11 r78_12) hZ (hw _ (List.mem_of_getElem? (i := 46) rfl)) (hw _ (List.mem_of_getElem? (i := 13) rfl)) (by decide) (by decide)) q80a q80c (g := (mkF m 28 #[rv a1, iv p2, iv p3, iv p4, iv p5, iv p6, iv p7, iv p8, iv p9] [(.double (FP.l2d p8.toInt64)), (.ref a1)])) rfl (by rw [hml]; rfl) (Steps.refl _) (argsL := [(.double (FP.l2d p8.toInt64))]) (rest := []) (lenOf pd__28_D_29_V rfl) rfl (by show 2 * 0 + _ ≤ _; exact Nat.le_of_eq rfl) (hb hby d6_28) (fun _ hv => ⟨rfl, rfl, (by decide : 0 + 0 ≤ _), (by decide : 0 + 0 ≤ _)⟩)
      dsimp only [Pt.U, Pt.locs, Pt.cells, Pt.slots] at X80 l80 y80 z80 st80 hQ80
      subst l80 y80 z80
      refine own_go st80 ?_
      obtain ⟨ps2_80, es2_80, os2_80, ev2_80, rfl, Nq80, K80, r80_0, r80_1, r80_2, r80_3, r80_4, r80_5, r80_6, r80_7, r80_8, r80_9, r80_10, r80_11, r80_12⟩ := hQ80
      have r78_0_80 := r78_0.keep K80
      have Z80 : n0 ≤ T80.heap.size := Nat.le_trans Z78 K80.1
      have Kt80 := Kt78.trans K80 (allS (P := fun x => x ∈ _ ∨ _ ≤ x) (Or.inl (List.mem_of_getElem? (i := 0) rfl)) all0)
      have N80 := Fr.app N78 Nq80
      show own_Fin _ _ _ _ (T80.setTop (mkF m 31 #[rv a1, iv p2, iv p3, iv p4, iv p5, iv p6, iv p7, iv p8, iv p9] []))
      refine own_go (XS.iload X80.here hx rfl (hb hby d6_31) rfl (Steps.refl _)) ?_
      show own_Fin _ _ _ _ (T80.setTop (mkF m 33 #[rv a1, iv p2, iv p3, iv p4, iv p5, iv p6, iv p7, iv p8, iv p9] [(.int p6)]))
      refine own_go (XS.iloadN X80.here hx rfl (hb hby d6_33) rfl (Steps.refl _)) ?_
      show own_Fin _ _ _ _ (T80.setTop (mkF m 34 #[rv a1, iv p2, iv p3, iv p4, iv p5, iv p6, iv p7, iv p8, iv p9] [(.int p2), (.int p6)]))
      by_cases c34_81 : p6 = p2
      · refine own_go (XS.icmpNo X80.here hx rfl (hb hby d6_34) rfl (teq c34_81).2 (Steps.refl _)) ?_
        show own_Fin _ _ _ _ (T80.setTop (mkF m 37 #[rv a1, iv p2, iv p3, iv p4, iv p5, iv p6, iv p7, iv p8, iv p9] []))
        refine own_go (XS.aloadN X80.here hx rfl (hb hby d6_37) rfl rfl (Steps.refl _)) ?_
        show own_Fin _ _ _ _ (T80.setTop (mkF m 38 #[rv a1, iv p2, iv p3, iv p4, iv p5, iv p6, iv p7, iv p8, iv p9] [(.ref a1)]))
        refine own_go (XS.iload X80.here hx rfl (hb hby d6_38) rfl (Steps.refl _)) ?_
        show own_Fin _ _ _ _ (T80.setTop (mkF m 40 #[rv a1, iv p2, iv p3, iv p4, iv p5, iv p6, iv p7, iv p8, iv p9] [(.int p9), (.ref a1)]))
        refine own_go (XS.i2dS X80.here hx rfl (hb hby d6_40) rfl (i2d_w _) (Steps.refl _)) ?_
        show own_Fin _ _ _ _ (T80.setTop (mkF m 41 #[rv a1, iv p2, iv p3, iv p4, iv p5, iv p6, iv p7, iv p8, iv p9] [(.double (FP.l2d p9.toInt64)), (.ref a1)]))
        obtain ⟨cq82, kq82, q82a, q82b, q82c⟩ := isOf hZ rfl r80_0
        obtain ⟨_, _, ⟨T82, L82, k82, n82⟩, -, X82, ⟨Lc82, hQ82, l82, y82, z82⟩, st82⟩ := X80.virtualBack hx (y := (⟨"com/example/tidewalk/tidewalk/problems/RunMeasures", "record", "(D)V"⟩ : MethodName)) (z := (⟨"com/example/tidewalk/tidewalk/problems/RunMeasures", "record", "(D)V"⟩ : MethodName)) hown (mvT hZ (hw _ (List.mem_of_getElem? (i := 42) rfl))) (mvT hZ (hw _ (List.mem_of_getElem? (i := 43) rfl))) (notFace_of_selects (args := #[]) (mvT hZ (hw _ (List.mem_of_getElem? (i := 45) rfl)))) (mvT hZ (hw _ (List.mem_of_getElem? (i := 45) rfl))) (mvT hZ (hw _ (List.mem_of_getElem? (i := 44) rfl))) (by decide) (backOf (W := 0) (rmrc l Z a0 hw [] a1 p9 (1 : Int32) (some 0) p3 (own_mx (own_mx none p7.toInt64) p8.toInt64) ev2_80 ps2_80 es2_80 os2_80 T80.heap n0 Z80 r80_0 r80_1 r80_2 r80_3 r80_4 r80_5 r80_6 r80_7 r80_8 r80_9 g_a1 (by decide) (own_Wmx (own_Wmx (own_Wn _) p7) p8) r80_10 r80_11 r80_12) hZ (hw _ (List.mem_of_getElem? (i := 46) rfl)) (hw _ (List.mem_of_getElem? (i := 13) rfl)) (by decide) (by decide)) q82a q82c (g := (mkF m 41 #[rv a1, iv p2, iv p3, iv p4, iv p5, iv p6, iv p7, iv p8, iv p9] [(.double (FP.l2d p9.toInt64)), (.ref a1)])) rfl (by rw [hml]; rfl) (Steps.refl _) (argsL := [(.double (FP.l2d p9.toInt64))]) (rest := []) (lenOf pd__28_D_29_V rfl) rfl (by show 2 * 0 + _ ≤ _; exact Nat.le_of_eq rfl) (hb hby d6_41) (fun _ hv => ⟨rfl, rfl, (by decide : 0 + 0 ≤ _), (by decide : 0 + 0 ≤ _)⟩)
        dsimp only [Pt.U, Pt.locs, Pt.cells, Pt.slots] at X82 l82 y82 z82 st82 hQ82
        subst l82 y82 z82
        refine own_go st82 ?_
        obtain ⟨ps2_82, es2_82, os2_82, ev2_82, rfl, Nq82, K82, r82_0, r82_1, r82_2, r82_3, r82_4, r82_5, r82_6, r82_7, r82_8, r82_9, r82_10, r82_11, r82_12⟩ := hQ82
        have r80_0_82 := r80_0.keep K82
        have Z82 : n0 ≤ T82.heap.size := Nat.le_trans Z80 K82.1
        have Kt82 := Kt80.trans K82 (allS (P := fun x => x ∈ _ ∨ _ ≤ x) (Or.inl (List.mem_of_getElem? (i := 0) rfl)) all0)
        have N82 := Fr.app N80 Nq82
        show own_Fin _ _ _ _ (T82.setTop (mkF m 44 #[rv a1, iv p2, iv p3, iv p4, iv p5, iv p6, iv p7, iv p8, iv p9] []))
        obtain ⟨fs83, hr83, hrun83, hended83, hW83, hsame83⟩ := X82.leave (v := none) (fun _ => rfl)
        refine own_done (X82.returnOut hx Bd.returns (hb hby d6_44) hr83) hrun83 hended83 ⟨_, _, rfl, ?_, ⟨_, rfl⟩, hW83, hsame83.mono (by decide) (by decide)⟩
        show Qph_0 Z a1 p2 p3 p4 p5 p6 p7 p8 p9 ou ev ps es os h0 n0 _ T82.heap _
        exact ⟨ps2_82, es2_82, os2_82, ev2_82, rfl, N82, Kt82, r82_0, r82_1, r82_2, r82_3, (by rw [show (own_b3 p2 p4 p5 p6 p7 p8 p9) = (own_mx (own_mx (own_mx none p7.toInt64) p8.toInt64) p9.toInt64) from by simp [own_b3, own_if, c8_77, c21_79, c34_81]]; exact r82_4), r82_5, r82_6, r82_7, r82_8, r82_9, r82_10, r82_11, r82_12⟩
      · refine own_go (XS.icmpYes X80.here hx rfl (pc0 := 34) (pc' := 44) rfl (hb hby d6_34) rfl (feq c34_81).2 (by decide) (by decide) (Steps.refl _)) ?_
        show own_Fin _ _ _ _ (T80.setTop (mkF m 44 #[rv a1, iv p2, iv p3, iv p4, iv p5, iv p6, iv p7, iv p8, iv p9] []))
        obtain ⟨fs84, hr84, hrun84, hended84, hW84, hsame84⟩ := X80.leave (v := none) (fun _ => rfl)
        refine own_done (X80.returnOut hx Bd.returns (hb hby d6_44) hr84) hrun84 hended84 ⟨_, _, rfl, ?_, ⟨_, rfl⟩, hW84, hsame84.mono (by decide) (by decide)⟩
        show Qph_0 Z a1 p2 p3 p4 p5 p6 p7 p8 p9 ou ev ps es os h0 n0 _ T80.heap _
        exact ⟨ps2_80, es2_80, os2_80, ev2_80, rfl, N80, Kt80, r80_0, r80_1, r80_2, r80_3, (by rw [show (own_b3 p2 p4 p5 p6 p7 p8 p9) = (own_mx (own_mx none p7.toInt64) p8.toInt64) from by simp [own_b3, own_if, c8_77, c21_79, c34_81]]; exact r80_4), r80_5, r80_6, r80_7, r80_8, r80_9, r80_10, r80_11, r80_12⟩
    · refine own_go (XS.icmpYes X78.here hx rfl (pc0 := 21) (pc' := 31) rfl (hb hby d6_21) rfl (feq c21_79).2 (by decide) (by decide) (Steps.refl _)) ?_
      show own_Fin _ _ _ _ (T78.setTop (mkF m 31 #[rv a1, iv p2, iv p3, iv p4, iv p5, iv p6, iv p7, iv p8, iv p9] []))
      refine own_go (XS.iload X78.here hx rfl (hb hby d6_31) rfl (Steps.refl _)) ?_
      show own_Fin _ _ _ _ (T78.setTop (mkF m 33 #[rv a1, iv p2, iv p3, iv p4, iv p5, iv p6, iv p7, iv p8, iv p9] [(.int p6)]))
      refine own_go (XS.iloadN X78.here hx rfl (hb hby d6_33) rfl (Steps.refl _)) ?_
      show own_Fin _ _ _ _ (T78.setTop (mkF m 34 #[rv a1, iv p2, iv p3, iv p4, iv p5, iv p6, iv p7, iv p8, iv p9] [(.int p2), (.int p6)]))
      by_cases c34_85 : p6 = p2
      · refine own_go (XS.icmpNo X78.here hx rfl (hb hby d6_34) rfl (teq c34_85).2 (Steps.refl _)) ?_
        show own_Fin _ _ _ _ (T78.setTop (mkF m 37 #[rv a1, iv p2, iv p3, iv p4, iv p5, iv p6, iv p7, iv p8, iv p9] []))
        refine own_go (XS.aloadN X78.here hx rfl (hb hby d6_37) rfl rfl (Steps.refl _)) ?_
        show own_Fin _ _ _ _ (T78.setTop (mkF m 38 #[rv a1, iv p2, iv p3, iv p4, iv p5, iv p6, iv p7, iv p8, iv p9] [(.ref a1)]))
        refine own_go (XS.iload X78.here hx rfl (hb hby d6_38) rfl (Steps.refl _)) ?_
        show own_Fin _ _ _ _ (T78.setTop (mkF m 40 #[rv a1, iv p2, iv p3, iv p4, iv p5, iv p6, iv p7, iv p8, iv p9] [(.int p9), (.ref a1)]))
        refine own_go (XS.i2dS X78.here hx rfl (hb hby d6_40) rfl (i2d_w _) (Steps.refl _)) ?_
        show own_Fin _ _ _ _ (T78.setTop (mkF m 41 #[rv a1, iv p2, iv p3, iv p4, iv p5, iv p6, iv p7, iv p8, iv p9] [(.double (FP.l2d p9.toInt64)), (.ref a1)]))
        obtain ⟨cq86, kq86, q86a, q86b, q86c⟩ := isOf hZ rfl r78_0
        obtain ⟨_, _, ⟨T86, L86, k86, n86⟩, -, X86, ⟨Lc86, hQ86, l86, y86, z86⟩, st86⟩ := X78.virtualBack hx (y := (⟨"com/example/tidewalk/tidewalk/problems/RunMeasures", "record", "(D)V"⟩ : MethodName)) (z := (⟨"com/example/tidewalk/tidewalk/problems/RunMeasures", "record", "(D)V"⟩ : MethodName)) hown (mvT hZ (hw _ (List.mem_of_getElem? (i := 42) rfl))) (mvT hZ (hw _ (List.mem_of_getElem? (i := 43) rfl))) (notFace_of_selects (args := #[]) (mvT hZ (hw _ (List.mem_of_getElem? (i := 45) rfl)))) (mvT hZ (hw _ (List.mem_of_getElem? (i := 45) rfl))) (mvT hZ (hw _ (List.mem_of_getElem? (i := 44) rfl))) (by decide) (backOf (W := 0) (rmrc l Z a0 hw [] a1 p9 (1 : Int32) (some 0) p3 (own_mx none p7.toInt64) ev2_78 ps2_78 es2_78 os2_78 T78.heap n0 Z78 r78_0 r78_1 r78_2 r78_3 r78_4 r78_5 r78_6 r78_7 r78_8 r78_9 g_a1 (by decide) (own_Wmx (own_Wn _) p7) r78_10 r78_11 r78_12) hZ (hw _ (List.mem_of_getElem? (i := 46) rfl)) (hw _ (List.mem_of_getElem? (i := 13) rfl)) (by decide) (by decide)) q86a q86c (g := (mkF m 41 #[rv a1, iv p2, iv p3, iv p4, iv p5, iv p6, iv p7, iv p8, iv p9] [(.double (FP.l2d p9.toInt64)), (.ref a1)])) rfl (by rw [hml]; rfl) (Steps.refl _) (argsL := [(.double (FP.l2d p9.toInt64))]) (rest := []) (lenOf pd__28_D_29_V rfl) rfl (by show 2 * 0 + _ ≤ _; exact Nat.le_of_eq rfl) (hb hby d6_41) (fun _ hv => ⟨rfl, rfl, (by decide : 0 + 0 ≤ _), (by decide : 0 + 0 ≤ _)⟩)
        dsimp only [Pt.U, Pt.locs, Pt.cells, Pt.slots] at X86 l86 y86 z86 st86 hQ86
        subst l86 y86 z86
        refine own_go st86 ?_
        obtain ⟨ps2_86, es2_86, os2_86, ev2_86, rfl, Nq86, K86, r86_0, r86_1, r86_2, r86_3, r86_4, r86_5, r86_6, r86_7, r86_8, r86_9, r86_10, r86_11, r86_12⟩ := hQ86
        have r78_0_86 := r78_0.keep K86
        have Z86 : n0 ≤ T86.heap.size := Nat.le_trans Z78 K86.1
        have Kt86 := Kt78.trans K86 (allS (P := fun x => x ∈ _ ∨ _ ≤ x) (Or.inl (List.mem_of_getElem? (i := 0) rfl)) all0)
        have N86 := Fr.app N78 Nq86
        show own_Fin _ _ _ _ (T86.setTop (mkF m 44 #[rv a1, iv p2, iv p3, iv p4, iv p5, iv p6, iv p7, iv p8, iv p9] []))
        obtain ⟨fs87, hr87, hrun87, hended87, hW87, hsame87⟩ := X86.leave (v := none) (fun _ => rfl)
        refine own_done (X86.returnOut hx Bd.returns (hb hby d6_44) hr87) hrun87 hended87 ⟨_, _, rfl, ?_, ⟨_, rfl⟩, hW87, hsame87.mono (by decide) (by decide)⟩
        show Qph_0 Z a1 p2 p3 p4 p5 p6 p7 p8 p9 ou ev ps es os h0 n0 _ T86.heap _
        exact ⟨ps2_86, es2_86, os2_86, ev2_86, rfl, N86, Kt86, r86_0, r86_1, r86_2, r86_3, (by rw [show (own_b3 p2 p4 p5 p6 p7 p8 p9) = (own_mx (own_mx none p7.toInt64) p9.toInt64) from by simp [own_b3, own_if, c8_77, c21_79, c34_85]]; exact r86_4), r86_5, r86_6, r86_7, r86_8, r86_9, r86_10, r86_11, r86_12⟩
      · refine own_go (XS.icmpYes X78.here hx rfl (pc0 := 34) (pc' := 44) rfl (hb hby d6_34) rfl (feq c34_85).2 (by decide) (by decide) (Steps.refl _)) ?_
        show own_Fin _ _ _ _ (T78.setTop (mkF m 44 #[rv a1, iv p2, iv p3, iv p4, iv p5, iv p6, iv p7, iv p8, iv p9] []))
        obtain ⟨fs88, hr88, hrun88, hended88, hW88, hsame88⟩ := X78.leave (v := none) (fun _ => rfl)
        refine own_done (X78.returnOut hx Bd.returns (hb hby d6_44) hr88) hrun88 hended88 ⟨_, _, rfl, ?_, ⟨_, rfl⟩, hW88, hsame88.mono (by decide) (by decide)⟩
        show Qph_0 Z a1 p2 p3 p4 p5 p6 p7 p8 p9 ou ev ps es os h0 n0 _ T78.heap _
        exact ⟨ps2_78, es2_78, os2_78, ev2_78, rfl, N78, Kt78, r78_0, r78_1, r78_2, r78_3, (by rw [show (own_b3 p2 p4 p5 p6 p7 p8 p9) = (own_mx none p7.toInt64) from by simp [own_b3, own_if, c8_77, c21_79, c34_85]]; exact r78_4), r78_5, r78_6, r78_7, r78_8, r78_9, r78_10, r78_11, r78_12⟩
  · refine own_go (XS.icmpYes X76.here hx rfl (pc0 := 8) (pc' := 18) rfl (hb hby d6_8) rfl (feq c8_77).2 (by decide) (by decide) (Steps.refl _)) ?_
    show own_Fin _ _ _ _ (T76.setTop (mkF m 18 #[rv a1, iv p2, iv p3, iv p4, iv p5, iv p6, iv p7, iv p8, iv p9] []))
    refine own_go (XS.iload X76.here hx rfl (hb hby d6_18) rfl (Steps.refl _)) ?_
    show own_Fin _ _ _ _ (T76.setTop (mkF m 20 #[rv a1, iv p2, iv p3, iv p4, iv p5, iv p6, iv p7, iv p8, iv p9] [(.int p5)]))
    refine own_go (XS.iloadN X76.here hx rfl (hb hby d6_20) rfl (Steps.refl _)) ?_
    show own_Fin _ _ _ _ (T76.setTop (mkF m 21 #[rv a1, iv p2, iv p3, iv p4, iv p5, iv p6, iv p7, iv p8, iv p9] [(.int p2), (.int p5)]))
    by_cases c21_89 : p5 = p2
    · refine own_go (XS.icmpNo X76.here hx rfl (hb hby d6_21) rfl (teq c21_89).2 (Steps.refl _)) ?_
      show own_Fin _ _ _ _ (T76.setTop (mkF m 24 #[rv a1, iv p2, iv p3, iv p4, iv p5, iv p6, iv p7, iv p8, iv p9] []))
      refine own_go (XS.aloadN X76.here hx rfl (hb hby d6_24) rfl rfl (Steps.refl _)) ?_
      show own_Fin _ _ _ _ (T76.setTop (mkF m 25 #[rv a1, iv p2, iv p3, iv p4, iv p5, iv p6, iv p7, iv p8, iv p9] [(.ref a1)]))
      refine own_go (XS.iload X76.here hx rfl (hb hby d6_25) rfl (Steps.refl _)) ?_
      show own_Fin _ _ _ _ (T76.setTop (mkF m 27 #[rv a1, iv p2, iv p3, iv p4, iv p5, iv p6, iv p7, iv p8, iv p9] [(.int p8), (.ref a1)]))
      refine own_go (XS.i2dS X76.here hx rfl (hb hby d6_27) rfl (i2d_w _) (Steps.refl _)) ?_
      show own_Fin _ _ _ _ (T76.setTop (mkF m 28 #[rv a1, iv p2, iv p3, iv p4, iv p5, iv p6, iv p7, iv p8, iv p9] [(.double (FP.l2d p8.toInt64)), (.ref a1)]))
      obtain ⟨cq90, kq90, q90a, q90b, q90c⟩ := isOf hZ rfl r76_0
      obtain ⟨_, _, ⟨T90, L90, k90, n90⟩, -, X90, ⟨Lc90, hQ90, l90, y90, z90⟩, st90⟩ := X76.virtualBack hx (y := (⟨"com/example/tidewalk/tidewalk/problems/RunMeasures", "record", "(D)V"⟩ : MethodName)) (z := (⟨"com/example/tidewalk/tidewalk/problems/RunMeasures", "record", "(D)V"⟩ : MethodName)) hown (mvT hZ (hw _ (List.mem_of_getElem? (i := 42) rfl))) (mvT hZ (hw _ (List.mem_of_getElem? (i := 43) rfl))) (notFace_of_selects (args := #[]) (mvT hZ (hw _ (List.mem_of_getElem? (i := 45) rfl)))) (mvT hZ (hw _ (List.mem_of_getElem? (i := 45) rfl))) (mvT hZ (hw _ (List.mem_of_getElem? (i := 44) rfl))) (by decide) (backOf (W := 0) (rmrc l Z a0 hw [] a1 p8 (1 : Int32) (some 0) p3 none ev ps es os T76.heap n0 Z76 r76_0 r76_1 r76_2 r76_3 r76_4 r76_5 r76_6 r76_7 r76_8 r76_9 g_a1 (by decide) (own_Wn _) hps hes hos) hZ (hw _ (List.mem_of_getElem? (i := 46) rfl)) (hw _ (List.mem_of_getElem? (i := 13) rfl)) (by decide) (by decide)) q90a q90c (g := (mkF m 28 #[rv a1, iv p2, iv p3, iv p4, iv p5, iv p6, iv p7, iv p8, iv p9] [(.double (FP.l2d p8.toInt64)), (.ref a1)])) rfl (by rw [hml]; rfl) (Steps.refl _) (argsL := [(.double (FP.l2d p8.toInt64))]) (rest := []) (lenOf pd__28_D_29_V rfl) rfl (by show 2 * 0 + _ ≤ _; exact Nat.le_of_eq rfl) (hb hby d6_28) (fun _ hv => ⟨rfl, rfl, (by decide : 0 + 0 ≤ _), (by decide : 0 + 0 ≤ _)⟩)
      dsimp only [Pt.U, Pt.locs, Pt.cells, Pt.slots] at X90 l90 y90 z90 st90 hQ90
      subst l90 y90 z90
      refine own_go st90 ?_
      obtain ⟨ps2_90, es2_90, os2_90, ev2_90, rfl, Nq90, K90, r90_0, r90_1, r90_2, r90_3, r90_4, r90_5, r90_6, r90_7, r90_8, r90_9, r90_10, r90_11, r90_12⟩ := hQ90
      have r76_0_90 := r76_0.keep K90
      have Z90 : n0 ≤ T90.heap.size := Nat.le_trans Z76 K90.1
      have Kt90 := Kt76.trans K90 (allS (P := fun x => x ∈ _ ∨ _ ≤ x) (Or.inl (List.mem_of_getElem? (i := 0) rfl)) all0)
      have N90 := Fr.app N76 Nq90
      show own_Fin _ _ _ _ (T90.setTop (mkF m 31 #[rv a1, iv p2, iv p3, iv p4, iv p5, iv p6, iv p7, iv p8, iv p9] []))
      refine own_go (XS.iload X90.here hx rfl (hb hby d6_31) rfl (Steps.refl _)) ?_
      show own_Fin _ _ _ _ (T90.setTop (mkF m 33 #[rv a1, iv p2, iv p3, iv p4, iv p5, iv p6, iv p7, iv p8, iv p9] [(.int p6)]))
      refine own_go (XS.iloadN X90.here hx rfl (hb hby d6_33) rfl (Steps.refl _)) ?_
      show own_Fin _ _ _ _ (T90.setTop (mkF m 34 #[rv a1, iv p2, iv p3, iv p4, iv p5, iv p6, iv p7, iv p8, iv p9] [(.int p2), (.int p6)]))
      by_cases c34_91 : p6 = p2
      · refine own_go (XS.icmpNo X90.here hx rfl (hb hby d6_34) rfl (teq c34_91).2 (Steps.refl _)) ?_
        show own_Fin _ _ _ _ (T90.setTop (mkF m 37 #[rv a1, iv p2, iv p3, iv p4, iv p5, iv p6, iv p7, iv p8, iv p9] []))
        refine own_go (XS.aloadN X90.here hx rfl (hb hby d6_37) rfl rfl (Steps.refl _)) ?_
        show own_Fin _ _ _ _ (T90.setTop (mkF m 38 #[rv a1, iv p2, iv p3, iv p4, iv p5, iv p6, iv p7, iv p8, iv p9] [(.ref a1)]))
        refine own_go (XS.iload X90.here hx rfl (hb hby d6_38) rfl (Steps.refl _)) ?_
        show own_Fin _ _ _ _ (T90.setTop (mkF m 40 #[rv a1, iv p2, iv p3, iv p4, iv p5, iv p6, iv p7, iv p8, iv p9] [(.int p9), (.ref a1)]))
        refine own_go (XS.i2dS X90.here hx rfl (hb hby d6_40) rfl (i2d_w _) (Steps.refl _)) ?_
        show own_Fin _ _ _ _ (T90.setTop (mkF m 41 #[rv a1, iv p2, iv p3, iv p4, iv p5, iv p6, iv p7, iv p8, iv p9] [(.double (FP.l2d p9.toInt64)), (.ref a1)]))
        obtain ⟨cq92, kq92, q92a, q92b, q92c⟩ := isOf hZ rfl r90_0
        obtain ⟨_, _, ⟨T92, L92, k92, n92⟩, -, X92, ⟨Lc92, hQ92, l92, y92, z92⟩, st92⟩ := X90.virtualBack hx (y := (⟨"com/example/tidewalk/tidewalk/problems/RunMeasures", "record", "(D)V"⟩ : MethodName)) (z := (⟨"com/example/tidewalk/tidewalk/problems/RunMeasures", "record", "(D)V"⟩ : MethodName)) hown (mvT hZ (hw _ (List.mem_of_getElem? (i := 42) rfl))) (mvT hZ (hw _ (List.mem_of_getElem? (i := 43) rfl))) (notFace_of_selects (args := #[]) (mvT hZ (hw _ (List.mem_of_getElem? (i := 45) rfl)))) (mvT hZ (hw _ (List.mem_of_getElem? (i := 45) rfl))) (mvT hZ (hw _ (List.mem_of_getElem? (i := 44) rfl))) (by decide) (backOf (W := 0) (rmrc l Z a0 hw [] a1 p9 (1 : Int32) (some 0) p3 (own_mx none p8.toInt64) ev2_90 ps2_90 es2_90 os2_90 T90.heap n0 Z90 r90_0 r90_1 r90_2 r90_3 r90_4 r90_5 r90_6 r90_7 r90_8 r90_9 g_a1 (by decide) (own_Wmx (own_Wn _) p8) r90_10 r90_11 r90_12) hZ (hw _ (List.mem_of_getElem? (i := 46) rfl)) (hw _ (List.mem_of_getElem? (i := 13) rfl)) (by decide) (by decide)) q92a q92c (g := (mkF m 41 #[rv a1, iv p2, iv p3, iv p4, iv p5, iv p6, iv p7, iv p8, iv p9] [(.double (FP.l2d p9.toInt64)), (.ref a1)])) rfl (by rw [hml]; rfl) (Steps.refl _) (argsL := [(.double (FP.l2d p9.toInt64))]) (rest := []) (lenOf pd__28_D_29_V rfl) rfl (by show 2 * 0 + _ ≤ _; exact Nat.le_of_eq rfl) (hb hby d6_41) (fun _ hv => ⟨rfl, rfl, (by decide : 0 + 0 ≤ _), (by decide : 0 + 0 ≤ _)⟩)
        dsimp only [Pt.U, Pt.locs, Pt.cells, Pt.slots] at X92 l92 y92 z92 st92 hQ92
        subst l92 y92 z92
        refine own_go st92 ?_
        obtain ⟨ps2_92, es2_92, os2_92, ev2_92, rfl, Nq92, K92, r92_0, r92_1, r92_2, r92_3, r92_4, r92_5, r92_6, r92_7, r92_8, r92_9, r92_10, r92_11, r92_12⟩ := hQ92
        have r90_0_92 := r90_0.keep K92
        have Z92 : n0 ≤ T92.heap.size := Nat.le_trans Z90 K92.1
        have Kt92 := Kt90.trans K92 (allS (P := fun x => x ∈ _ ∨ _ ≤ x) (Or.inl (List.mem_of_getElem? (i := 0) rfl)) all0)
        have N92 := Fr.app N90 Nq92
        show own_Fin _ _ _ _ (T92.setTop (mkF m 44 #[rv a1, iv p2, iv p3, iv p4, iv p5, iv p6, iv p7, iv p8, iv p9] []))
        obtain ⟨fs93, hr93, hrun93, hended93, hW93, hsame93⟩ := X92.leave (v := none) (fun _ => rfl)
        refine own_done (X92.returnOut hx Bd.returns (hb hby d6_44) hr93) hrun93 hended93 ⟨_, _, rfl, ?_, ⟨_, rfl⟩, hW93, hsame93.mono (by decide) (by decide)⟩
        show Qph_0 Z a1 p2 p3 p4 p5 p6 p7 p8 p9 ou ev ps es os h0 n0 _ T92.heap _
        exact ⟨ps2_92, es2_92, os2_92, ev2_92, rfl, N92, Kt92, r92_0, r92_1, r92_2, r92_3, (by rw [show (own_b3 p2 p4 p5 p6 p7 p8 p9) = (own_mx (own_mx none p8.toInt64) p9.toInt64) from by simp [own_b3, own_if, c8_77, c21_89, c34_91]]; exact r92_4), r92_5, r92_6, r92_7, r92_8, r92_9, r92_10, r92_11, r92_12⟩
      · refine own_go (XS.icmpYes X90.here hx rfl (pc0 := 34) (pc' := 44) rfl (hb hby d6_34) rfl (feq c34_91).2 (by decide) (by decide) (Steps.refl _)) ?_
        show own_Fin _ _ _ _ (T90.setTop (mkF m 44 #[rv a1, iv p2, iv p3, iv p4, iv p5, iv p6, iv p7, iv p8, iv p9] []))
        obtain ⟨fs94, hr94, hrun94, hended94, hW94, hsame94⟩ := X90.leave (v := none) (fun _ => rfl)
        refine own_done (X90.returnOut hx Bd.returns (hb hby d6_44) hr94) hrun94 hended94 ⟨_, _, rfl, ?_, ⟨_, rfl⟩, hW94, hsame94.mono (by decide) (by decide)⟩
        show Qph_0 Z a1 p2 p3 p4 p5 p6 p7 p8 p9 ou ev ps es os h0 n0 _ T90.heap _
        exact ⟨ps2_90, es2_90, os2_90, ev2_90, rfl, N90, Kt90, r90_0, r90_1, r90_2, r90_3, (by rw [show (own_b3 p2 p4 p5 p6 p7 p8 p9) = (own_mx none p8.toInt64) from by simp [own_b3, own_if, c8_77, c21_89, c34_91]]; exact r90_4), r90_5, r90_6, r90_7, r90_8, r90_9, r90_10, r90_11, r90_12⟩
    · refine own_go (XS.icmpYes X76.here hx rfl (pc0 := 21) (pc' := 31) rfl (hb hby d6_21) rfl (feq c21_89).2 (by decide) (by decide) (Steps.refl _)) ?_
      show own_Fin _ _ _ _ (T76.setTop (mkF m 31 #[rv a1, iv p2, iv p3, iv p4, iv p5, iv p6, iv p7, iv p8, iv p9] []))
      refine own_go (XS.iload X76.here hx rfl (hb hby d6_31) rfl (Steps.refl _)) ?_
      show own_Fin _ _ _ _ (T76.setTop (mkF m 33 #[rv a1, iv p2, iv p3, iv p4, iv p5, iv p6, iv p7, iv p8, iv p9] [(.int p6)]))
      refine own_go (XS.iloadN X76.here hx rfl (hb hby d6_33) rfl (Steps.refl _)) ?_
      show own_Fin _ _ _ _ (T76.setTop (mkF m 34 #[rv a1, iv p2, iv p3, iv p4, iv p5, iv p6, iv p7, iv p8, iv p9] [(.int p2), (.int p6)]))
      by_cases c34_95 : p6 = p2
      · refine own_go (XS.icmpNo X76.here hx rfl (hb hby d6_34) rfl (teq c34_95).2 (Steps.refl _)) ?_
        show own_Fin _ _ _ _ (T76.setTop (mkF m 37 #[rv a1, iv p2, iv p3, iv p4, iv p5, iv p6, iv p7, iv p8, iv p9] []))
        refine own_go (XS.aloadN X76.here hx rfl (hb hby d6_37) rfl rfl (Steps.refl _)) ?_
        show own_Fin _ _ _ _ (T76.setTop (mkF m 38 #[rv a1, iv p2, iv p3, iv p4, iv p5, iv p6, iv p7, iv p8, iv p9] [(.ref a1)]))
        refine own_go (XS.iload X76.here hx rfl (hb hby d6_38) rfl (Steps.refl _)) ?_
        show own_Fin _ _ _ _ (T76.setTop (mkF m 40 #[rv a1, iv p2, iv p3, iv p4, iv p5, iv p6, iv p7, iv p8, iv p9] [(.int p9), (.ref a1)]))
        refine own_go (XS.i2dS X76.here hx rfl (hb hby d6_40) rfl (i2d_w _) (Steps.refl _)) ?_
        show own_Fin _ _ _ _ (T76.setTop (mkF m 41 #[rv a1, iv p2, iv p3, iv p4, iv p5, iv p6, iv p7, iv p8, iv p9] [(.double (FP.l2d p9.toInt64)), (.ref a1)]))
        obtain ⟨cq96, kq96, q96a, q96b, q96c⟩ := isOf hZ rfl r76_0
        obtain ⟨_, _, ⟨T96, L96, k96, n96⟩, -, X96, ⟨Lc96, hQ96, l96, y96, z96⟩, st96⟩ := X76.virtualBack hx (y := (⟨"com/example/tidewalk/tidewalk/problems/RunMeasures", "record", "(D)V"⟩ : MethodName)) (z := (⟨"com/example/tidewalk/tidewalk/problems/RunMeasures", "record", "(D)V"⟩ : MethodName)) hown (mvT hZ (hw _ (List.mem_of_getElem? (i := 42) rfl))) (mvT hZ (hw _ (List.mem_of_getElem? (i := 43) rfl))) (notFace_of_selects (args := #[]) (mvT hZ (hw _ (List.mem_of_getElem? (i := 45) rfl)))) (mvT hZ (hw _ (List.mem_of_getElem? (i := 45) rfl))) (mvT hZ (hw _ (List.mem_of_getElem? (i := 44) rfl))) (by decide) (backOf (W := 0) (rmrc l Z a0 hw [] a1 p9 (1 : Int32) (some 0) p3 none ev ps es os T76.heap n0 Z76 r76_0 r76_1 r76_2 r76_3 r76_4 r76_5 r76_6 r76_7 r76_8 r76_9 g_a1 (by decide) (own_Wn _) hps hes hos) hZ (hw _ (List.mem_of_getElem? (i := 46) rfl)) (hw _ (List.mem_of_getElem? (i := 13) rfl)) (by decide) (by decide)) q96a q96c (g := (mkF m 41 #[rv a1, iv p2, iv p3, iv p4, iv p5, iv p6, iv p7, iv p8, iv p9] [(.double (FP.l2d p9.toInt64)), (.ref a1)])) rfl (by rw [hml]; rfl) (Steps.refl _) (argsL := [(.double (FP.l2d p9.toInt64))]) (rest := []) (lenOf pd__28_D_29_V rfl) rfl (by show 2 * 0 + _ ≤ _; exact Nat.le_of_eq rfl) (hb hby d6_41) (fun _ hv => ⟨rfl, rfl, (by decide : 0 + 0 ≤ _), (by decide : 0 + 0 ≤ _)⟩)
        dsimp only [Pt.U, Pt.locs, Pt.cells, Pt.slots] at X96 l96 y96 z96 st96 hQ96
        subst l96 y96 z96
        refine own_go st96 ?_
        obtain ⟨ps2_96, es2_96, os2_96, ev2_96, rfl, Nq96, K96, r96_0, r96_1, r96_2, r96_3, r96_4, r96_5, r96_6, r96_7, r96_8, r96_9, r96_10, r96_11, r96_12⟩ := hQ96
        have r76_0_96 := r76_0.keep K96
        have Z96 : n0 ≤ T96.heap.size := Nat.le_trans Z76 K96.1
        have Kt96 := Kt76.trans K96 (allS (P := fun x => x ∈ _ ∨ _ ≤ x) (Or.inl (List.mem_of_getElem? (i := 0) rfl)) all0)
        have N96 := Fr.app N76 Nq96
        show own_Fin _ _ _ _ (T96.setTop (mkF m 44 #[rv a1, iv p2, iv p3, iv p4, iv p5, iv p6, iv p7, iv p8, iv p9] []))
        obtain ⟨fs97, hr97, hrun97, hended97, hW97, hsame97⟩ := X96.leave (v := none) (fun _ => rfl)
        refine own_done (X96.returnOut hx Bd.returns (hb hby d6_44) hr97) hrun97 hended97 ⟨_, _, rfl, ?_, ⟨_, rfl⟩, hW97, hsame97.mono (by decide) (by decide)⟩
        show Qph_0 Z a1 p2 p3 p4 p5 p6 p7 p8 p9 ou ev ps es os h0 n0 _ T96.heap _
        exact ⟨ps2_96, es2_96, os2_96, ev2_96, rfl, N96, Kt96, r96_0, r96_1, r96_2, r96_3, (by rw [show (own_b3 p2 p4 p5 p6 p7 p8 p9) = (own_mx none p9.toInt64) from by simp [own_b3, own_if, c8_77, c21_89, c34_95]]; exact r96_4), r96_5, r96_6, r96_7, r96_8, r96_9, r96_10, r96_11, r96_12⟩
      · refine own_go (XS.icmpYes X76.here hx rfl (pc0 := 34) (pc' := 44) rfl (hb hby d6_34) rfl (feq c34_95).2 (by decide) (by decide) (Steps.refl _)) ?_
        show own_Fin _ _ _ _ (T76.setTop (mkF m 44 #[rv a1, iv p2, iv p3, iv p4, iv p5, iv p6, iv p7, iv p8, iv p9] []))
        obtain ⟨fs98, hr98, hrun98, hended98, hW98, hsame98⟩ := X76.leave (v := none) (fun _ => rfl)
        refine own_done (X76.returnOut hx Bd.returns (hb hby d6_44) hr98) hrun98 hended98 ⟨_, _, rfl, ?_, ⟨_, rfl⟩, hW98, hsame98.mono (by decide) (by decide)⟩
        show Qph_0 Z a1 p2 p3 p4 p5 p6 p7 p8 p9 ou ev ps es os h0 n0 _ T76.heap _
        exact ⟨ps, es, os, ev, rfl, N76, Kt76, r76_0, r76_1, r76_2, r76_3, (by rw [show (own_b3 p2 p4 p5 p6 p7 p8 p9) = none from by simp [own_b3, own_if, c8_77, c21_89, c34_95]]; exact r76_4), r76_5, r76_6, r76_7, r76_8, r76_9, hps, hes, hos⟩
theorem ef_ph_1 (m : MethodId) (x0 : Addr) (x1 : Int32) (x2 : Int32) (x3 : Int32) (x4 : Int32) (x5 : Int32) (x6 : Int32) (x7 : Int32) (x8 : Int32) : entryFrame m #[(.ref x0), (.int x1), (.int x2), (.int x3), (.int x4), (.int x5), (.int x6), (.int x7), (.int x8)] 9 = mkF m 0 #[.val (.ref x0), .val (.int x1), .val (.int x2), .val (.int x3), .val (.int x4), .val (.int x5), .val (.int x6), .val (.int x7), .val (.int x8)] [] := by first | (simp [entryFrame, mkF, argsToLocals, Value.category]; done) | rfl
def Qph_1 (Z : State) (a1 : Addr) (p2 : Int32) (p3 : Int32) (p4 : Int32) (p5 : Int32) (p6 : Int32) (p7 : Int32) (p8 : Int32) (p9 : Int32) (zc : Option Int64) (zo : Int32) (zb : Option Int64) (ev : Int64) (ps : UInt64) (es : UInt64) (os : UInt64) (h0 : Heap) (n0 : Nat) (v : Option Value) (h : Heap) (L : List Loc) : Prop := ∃ (ps2 : UInt64) (es2 : UInt64) (os2 : UInt64) (ev2 : Int64), v = none ∧ Fr n0 L ∧ Keep h0 h [a1] ∧ Exa Z h a1 "com/example/tidewalk/tidewalk/problems/RunMeasures" ∧ Fld Z h a1 "com/example/tidewalk/tidewalk/problems/RunMeasures" "periods" "I" (.int (2 : Int32)) ∧ Fld Z h a1 "com/example/tidewalk/tidewalk/problems/RunMeasures" "closedBestErrorSum" "D" (.double (own_cl (own_pl zc (own_er zo.toInt64 zb)))) ∧ Fld Z h a1 "com/example/tidewalk/tidewalk/problems/RunMeasures" "optimum" "D" (.double (FP.l2d p3.toInt64)) ∧ Fld Z h a1 "com/example/tidewalk/tidewalk/problems/RunMeasures" "best" "D" (.double (own_be (own_b3 p2 p4 p5 p6 p7 p8 p9))) ∧ Fld Z h a1 "com/example/tidewalk/tidewalk/problems/RunMeasures" "optimumKnown" "Z" (.int (1 : Int32)) ∧ Fld Z h a1 "com/example/tidewalk/tidewalk/problems/RunMeasures" "evaluations" "J" (.long ev2) ∧ Fld Z h a1 "com/example/tidewalk/tidewalk/problems/RunMeasures" "performanceSum" "D" (.double ps2) ∧ Fld Z h a1 "com/example/tidewalk/tidewalk/problems/RunMeasures" "errorSum" "D" (.double es2) ∧ Fld Z h a1 "com/example/tidewalk/tidewalk/problems/RunMeasures" "optimumSum" "D" (.double os2) ∧ NoNaN64 ps2 ∧ NoNaN64 es2 ∧ NoNaN64 os2
abbrev Gph_1 (Z : State) (a1 : Addr) (p2 : Int32) (p3 : Int32) (p4 : Int32) (p5 : Int32) (p6 : Int32) (p7 : Int32) (p8 : Int32) (p9 : Int32) (zc : Option Int64) (zo : Int32) (zb : Option Int64) (ev : Int64) (ps : UInt64) (es : UInt64) (os : UInt64) (h0 : Heap) (n0 : Nat) (s : State) : Outcome → State → Prop := fun o U' => ∃ v L, o = .returned v ∧ Qph_1 Z a1 p2 p3 p4 p5 p6 p7 p8 p9 zc zo zb ev ps es os h0 n0 v U'.heap L ∧ FrameEnd s o U' L ({ frames := 3, cells := 0, slots := 0, locals := 60 } : Room).cells ({ frames := 3, cells := 0, slots := 0, locals := 60 } : Room).slots
set_option maxRecDepth 65536 in
set_option maxHeartbeats 40000000 in
theorem rmph_1 (l : Launch) (Z : State) (a0 : Array Value) (hw : ∀ d ∈ tables_1, d.before a0 Z = true) (ws : List Jvm.Cond) (a1 : Addr) (p2 : Int32) (p3 : Int32) (p4 : Int32) (p5 : Int32) (p6 : Int32) (p7 : Int32) (p8 : Int32) (p9 : Int32) (zc : Option Int64) (zo : Int32) (zb : Option Int64) (ev : Int64) (ps : UInt64) (es : UInt64) (os : UInt64) (h0 : Heap) (n0 : Nat) (Z0 : n0 ≤ h0.size) (E_a1 : Exa Z h0 a1 "com/example/tidewalk/tidewalk/problems/RunMeasures") (F_periods_a1 : Fld Z h0 a1 "com/example/tidewalk/tidewalk/problems/RunMeasures" "periods" "I" (.int (1 : Int32))) (F_closedBestErrorSum_a1 : Fld Z h0 a1 "com/example/tidewalk/tidewalk/problems/RunMeasures" "closedBestErrorSum" "D" (.double (own_cl zc))) (F_optimum_a1 : Fld Z h0 a1 "com/example/tidewalk/tidewalk/problems/RunMeasures" "optimum" "D" (.double (FP.l2d zo.toInt64))) (F_best_a1 : Fld Z h0 a1 "com/example/tidewalk/tidewalk/problems/RunMeasures" "best" "D" (.double (own_be zb))) (F_optimumKnown_a1 : Fld Z h0 a1 "com/example/tidewalk/tidewalk/problems/RunMeasures" "optimumKnown" "Z" (.int (1 : Int32))) (F_evaluations_a1 : Fld Z h0 a1 "com/example/tidewalk/tidewalk/problems/RunMeasures" "evaluations" "J" (.long ev)) (F_performanceSum_a1 : Fld Z h0 a1 "com/example/tidewalk/tidewalk/problems/RunMeasures" "performanceSum" "D" (.double ps)) (F_errorSum_a1 : Fld Z h0 a1 "com/example/tidewalk/tidewalk/problems/RunMeasures" "errorSum" "D" (.double es)) (F_optimumSum_a1 : Fld Z h0 a1 "com/example/tidewalk/tidewalk/problems/RunMeasures" "optimumSum" "D" (.double os)) (g_a1 : n0 ≤ a1) (hwb : own_W 2147483648 zb) (hc : own_W 17179869184 zc) (hps : NoNaN64 ps) (hes : NoNaN64 es) (hos : NoNaN64 os) :
    MetFree l (⟨"com/example/tidewalk/tidewalk/problems/RunMeasuresBestErrorBeforeChangePinLaw", "phase", "(Lcom/example/tidewalk/tidewalk/problems/RunMeasures;IIIIIIII)V"⟩ : MethodName) (head1 (Jvm.Cond.code (⟨"com/example/tidewalk/tidewalk/problems/RunMeasuresBestErrorBeforeChangePinLaw", "phase", "(Lcom/example/tidewalk/tidewalk/problems/RunMeasures;IIIIIIII)V"⟩ : MethodName) method_4_code 9 none :: ws) ({ frames := 3, cells := 0, slots := 0, locals := 60 } : Room)) (fun a U => a = #[(.ref a1), (.int p2), (.int p3), (.int p4), (.int p5), (.int p6), (.int p7), (.int p8), (.int p9)] ∧ Z.Warmed39 U.vm ∧ U.heap = h0) (fun _ _ _ _ _ => True) (fun _ U o U' => ∃ v L, o = .returned v ∧ Qph_1 Z a1 p2 p3 p4 p5 p6 p7 p8 p9 zc zo zb ev ps es os h0 n0 v U'.heap L ∧ FrameEnd U o U' L ({ frames := 3, cells := 0, slots := 0, locals := 60 } : Room).cells ({ frames := 3, cells := 0, slots := 0, locals := 60 } : Room).slots) := by
  refine MetFree.of_bodySF (plainFor_of_name pn_com_example_tidewalk_tidewalk_problems_RunMeasuresBestErrorBeforeChangePinLaw) hisR ?_
  intro p e s m args below meth c s₁ Bd hml0 hP hK
  obtain ⟨rfl, hZ, hh⟩ := hP
  have hx := Bd.exec
  have hby := Bd.bytes
  have hml : c.maxLocals = 9 := hml0
  have hown : s.vm.findClass "com/example/tidewalk/tidewalk/problems/RunMeasuresBestErrorBeforeChangePinLaw" = some m.cls := findClass_of_methodNamed Bd.named
  have hnm := (name_of_methodNamed Bd.named Bd.method).1
  have X0 : Stand p l e ({ frames := 3, cells := 0, slots := 0, locals := 60 } : Room) s m #[(.ref a1), (.int p2), (.int p3), (.int p4), (.int p5), (.int p6), (.int p7), (.int p8), (.int p9)] below meth c s₁ [] 0 0 := Stand.of_body Bd
  have e0 : s₁.heap = h0 := by rw [← hh, Bd.state]; rfl
  have es0 : s.heap = h0 := hh
  have N0 := Fr.nil n0
  show own_Fin p e below (Gph_1 Z a1 p2 p3 p4 p5 p6 p7 p8 p9 zc zo zb ev ps es os h0 n0 s) (s₁.setTop (entryFrame m #[(.ref a1), (.int p2), (.int p3), (.int p4), (.int p5), (.int p6), (.int p7), (.int p8), (.int p9)] 9))
  rw [ef_ph_1 m a1 p2 p3 p4 p5 p6 p7 p8 p9]
  have Kz := Keep.refl h0 [a1]
  refine own_go (XS.aloadN X0.here hx rfl (hb hby d6_0) rfl rfl (Steps.refl _)) ?_
  show own_Fin _ _ _ _ (s₁.setTop (mkF m 1 #[rv a1, iv p2, iv p3, iv p4, iv p5, iv p6, iv p7, iv p8, iv p9] [(.ref a1)]))
  refine own_go (XS.iloadN X0.here hx rfl (hb hby d6_1) rfl (Steps.refl _)) ?_
  show own_Fin _ _ _ _ (s₁.setTop (mkF m 2 #[rv a1, iv p2, iv p3, iv p4, iv p5, iv p6, iv p7, iv p8, iv p9] [(.int p3), (.ref a1)]))
  refine own_go (XS.i2dS X0.here hx rfl (hb hby d6_2) rfl (i2d_w _) (Steps.refl _)) ?_
  show own_Fin _ _ _ _ (s₁.setTop (mkF m 3 #[rv a1, iv p2, iv p3, iv p4, iv p5, iv p6, iv p7, iv p8, iv p9] [(.double (FP.l2d p3.toInt64)), (.ref a1)]))
  obtain ⟨cq99, kq99, q99a, q99b, q99c⟩ := isOf hZ e0 E_a1
  obtain ⟨_, _, ⟨T99, L99, k99, n99⟩, -, X99, ⟨Lc99, hQ99, l99, y99, z99⟩, st99⟩ := X0.virtualBack hx (y := (⟨"com/example/tidewalk/tidewalk/problems/RunMeasures", "startPeriod", "(D)V"⟩ : MethodName)) (z := (⟨"com/example/tidewalk/tidewalk/problems/RunMeasures", "startPeriod", "(D)V"⟩ : MethodName)) hown (mvT hZ (hw _ (List.mem_of_getElem? (i := 31) rfl))) (mvT hZ (hw _ (List.mem_of_getElem? (i := 32) rfl))) (notFace_of_selects (args := #[]) (mvT hZ (hw _ (List.mem_of_getElem? (i := 34) rfl)))) (mvT hZ (hw _ (List.mem_of_getElem? (i := 34) rfl))) (mvT hZ (hw _ (List.mem_of_getElem? (i := 33) rfl))) (by decide) (backOf (W := 0) (rmsp_1 l Z a0 hw [] a1 p3 zc zo zb ev ps es os h0 n0 Z0 E_a1 F_periods_a1 F_closedBestErrorSum_a1 F_optimum_a1 F_best_a1 F_optimumKnown_a1 F_evaluations_a1 F_performanceSum_a1 F_errorSum_a1 F_optimumSum_a1 g_a1 hwb hc) hZ (hw _ (List.mem_of_getElem? (i := 35) rfl)) (hw _ (List.mem_of_getElem? (i := 13) rfl)) (by decide) (by decide)) q99a q99c (g := (mkF m 3 #[rv a1, iv p2, iv p3, iv p4, iv p5, iv p6, iv p7, iv p8, iv p9] [(.double (FP.l2d p3.toInt64)), (.ref a1)])) rfl (by rw [hml]; rfl) (Steps.refl _) (argsL := [(.double (FP.l2d p3.toInt64))]) (rest := []) (lenOf pd__28_D_29_V rfl) rfl (by show 2 * 0 + _ ≤ _; exact Nat.le_of_eq rfl) (hb hby d6_3) (fun _ hv => ⟨rfl, e0, (by decide : 0 + 0 ≤ _), (by decide : 0 + 0 ≤ _)⟩)
  dsimp only [Pt.U, Pt.locs, Pt.cells, Pt.slots] at X99 l99 y99 z99 st99 hQ99
  subst l99 y99 z99
  refine own_go st99 ?_
  obtain ⟨rfl, Nq99, K99, r99_0, r99_1, r99_2, r99_3, r99_4, r99_5, r99_6, r99_7, r99_8, r99_9⟩ := hQ99
  have E_a1_99 := E_a1.keep K99
  have Z99 : n0 ≤ T99.heap.size := Nat.le_trans Z0 K99.1
  have Kt99 := Kz.trans K99 (allS (P := fun x => x ∈ _ ∨ _ ≤ x) (Or.inl (List.mem_of_getElem? (i := 0) rfl)) all0)
  have N99 := Fr.app N0 Nq99
  show own_Fin _ _ _ _ (T99.setTop (mkF m 6 #[rv a1, iv p2, iv p3, iv p4, iv p5, iv p6, iv p7, iv p8, iv p9] []))
  refine own_go (XS.iloadN X99.here hx rfl (hb hby d6_6) rfl (Steps.refl _)) ?_
  show own_Fin _ _ _ _ (T99.setTop (mkF m 7 #[rv a1, iv p2, iv p3, iv p4, iv p5, iv p6, iv p7, iv p8, iv p9] [(.int p4)]))
  refine own_go (XS.iloadN X99.here hx rfl (hb hby d6_7) rfl (Steps.refl _)) ?_
  show own_Fin _ _ _ _ (T99.setTop (mkF m 8 #[rv a1, iv p2, iv p3, iv p4, iv p5, iv p6, iv p7, iv p8, iv p9] [(.int p2), (.int p4)]))
  by_cases c8_100 : p4 = p2
  · refine own_go (XS.icmpNo X99.here hx rfl (hb hby d6_8) rfl (teq c8_100).2 (Steps.refl _)) ?_
    show own_Fin _ _ _ _ (T99.setTop (mkF m 11 #[rv a1, iv p2, iv p3, iv p4, iv p5, iv p6, iv p7, iv p8, iv p9] []))
    refine own_go (XS.aloadN X99.here hx rfl (hb hby d6_11) rfl rfl (Steps.refl _)) ?_
    show own_Fin _ _ _ _ (T99.setTop (mkF m 12 #[rv a1, iv p2, iv p3, iv p4, iv p5, iv p6, iv p7, iv p8, iv p9] [(.ref a1)]))
    refine own_go (XS.iload X99.here hx rfl (hb hby d6_12) rfl (Steps.refl _)) ?_
    show own_Fin _ _ _ _ (T99.setTop (mkF m 14 #[rv a1, iv p2, iv p3, iv p4, iv p5, iv p6, iv p7, iv p8, iv p9] [(.int p7), (.ref a1)]))
    refine own_go (XS.i2dS X99.here hx rfl (hb hby d6_14) rfl (i2d_w _) (Steps.refl _)) ?_
    show own_Fin _ _ _ _ (T99.setTop (mkF m 15 #[rv a1, iv p2, iv p3, iv p4, iv p5, iv p6, iv p7, iv p8, iv p9] [(.double (FP.l2d p7.toInt64)), (.ref a1)]))
    obtain ⟨cq101, kq101, q101a, q101b, q101c⟩ := isOf hZ rfl r99_0
    obtain ⟨_, _, ⟨T101, L101, k101, n101⟩, -, X101, ⟨Lc101, hQ101, l101, y101, z101⟩, st101⟩ := X99.virtualBack hx (y := (⟨"com/example/tidewalk/tidewalk/problems/RunMeasures", "record", "(D)V"⟩ : MethodName)) (z := (⟨"com/example/tidewalk/tidewalk/problems/RunMeasures", "record", "(D)V"⟩ : MethodName)) hown (mvT hZ (hw _ (List.mem_of_getElem? (i := 42) rfl))) (mvT hZ (hw _ (List.mem_of_getElem? (i := 43) rfl))) (notFace_of_selects (args := #[]) (mvT hZ (hw _ (List.mem_of_getElem? (i := 45) rfl)))) (mvT hZ (hw _ (List.mem_of_getElem? (i := 45) rfl))) (mvT hZ (hw _ (List.mem_of_getElem? (i := 44) rfl))) (by decide) (backOf (W := 0) (rmrc l Z a0 hw [] a1 p7 (2 : Int32) (own_pl zc (own_er zo.toInt64 zb)) p3 none ev ps es os T99.heap n0 Z99 r99_0 r99_1 r99_2 r99_3 r99_4 r99_5 r99_6 r99_7 r99_8 r99_9 g_a1 (by decide) (own_Wn _) hps hes hos) hZ (hw _ (List.mem_of_getElem? (i := 46) rfl)) (hw _ (List.mem_of_getElem? (i := 13) rfl)) (by decide) (by decide)) q101a q101c (g := (mkF m 15 #[rv a1, iv p2, iv p3, iv p4, iv p5, iv p6, iv p7, iv p8, iv p9] [(.double (FP.l2d p7.toInt64)), (.ref a1)])) rfl (by rw [hml]; rfl) (Steps.refl _) (argsL := [(.double (FP.l2d p7.toInt64))]) (rest := []) (lenOf pd__28_D_29_V rfl) rfl (by show 2 * 0 + _ ≤ _; exact Nat.le_of_eq rfl) (hb hby d6_15) (fun _ hv => ⟨rfl, rfl, (by decide : 0 + 0 ≤ _), (by decide : 0 + 0 ≤ _)⟩)
    dsimp only [Pt.U, Pt.locs, Pt.cells, Pt.slots] at X101 l101 y101 z101 st101 hQ101
    subst l101 y101 z101
    refine own_go st101 ?_
    obtain ⟨ps2_101, es2_101, os2_101, ev2_101, rfl, Nq101, K101, r101_0, r101_1, r101_2, r101_3, r101_4, r101_5, r101_6, r101_7, r101_8, r101_9, r101_10, r101_11, r101_12⟩ := hQ101
    have r99_0_101 := r99_0.keep K101
    have Z101 : n0 ≤ T101.heap.size := Nat.le_trans Z99 K101.1
    have Kt101 := Kt99.trans K101 (allS (P := fun x => x ∈ _ ∨ _ ≤ x) (Or.inl (List.mem_of_getElem? (i := 0) rfl)) all0)
    have N101 := Fr.app N99 Nq101
    show own_Fin _ _ _ _ (T101.setTop (mkF m 18 #[rv a1, iv p2, iv p3, iv p4, iv p5, iv p6, iv p7, iv p8, iv p9] []))
    refine own_go (XS.iload X101.here hx rfl (hb hby d6_18) rfl (Steps.refl _)) ?_
    show own_Fin _ _ _ _ (T101.setTop (mkF m 20 #[rv a1, iv p2, iv p3, iv p4, iv p5, iv p6, iv p7, iv p8, iv p9] [(.int p5)]))
    refine own_go (XS.iloadN X101.here hx rfl (hb hby d6_20) rfl (Steps.refl _)) ?_
    show own_Fin _ _ _ _ (T101.setTop (mkF m 21 #[rv a1, iv p2, iv p3, iv p4, iv p5, iv p6, iv p7, iv p8, iv p9] [(.int p2), (.int p5)]))
    by_cases c21_102 : p5 = p2
    · refine own_go (XS.icmpNo X101.here hx rfl (hb hby d6_21) rfl (teq c21_102).2 (Steps.refl _)) ?_
      show own_Fin _ _ _ _ (T101.setTop (mkF m 24 #[rv a1, iv p2, iv p3, iv p4, iv p5, iv p6, iv p7, iv p8, iv p9] []))
      refine own_go (XS.aloadN X101.here hx rfl (hb hby d6_24) rfl rfl (Steps.refl _)) ?_
      show own_Fin _ _ _ _ (T101.setTop (mkF m 25 #[rv a1, iv p2, iv p3, iv p4, iv p5, iv p6, iv p7, iv p8, iv p9] [(.ref a1)]))
      refine own_go (XS.iload X101.here hx rfl (hb hby d6_25) rfl (Steps.refl _)) ?_
      show own_Fin _ _ _ _ (T101.setTop (mkF m 27 #[rv a1, iv p2, iv p3, iv p4, iv p5, iv p6, iv p7, iv p8, iv p9] [(.int p8), (.ref a1)]))
      refine own_go (XS.i2dS X101.here hx rfl (hb hby d6_27) rfl (i2d_w _) (Steps.refl _)) ?_
      show own_Fin _ _ _ _ (T101.setTop (mkF m 28 #[rv a1, iv p2, iv p3, iv p4, iv p5, iv p6, iv p7, iv p8, iv p9] [(.double (FP.l2d p8.toInt64)), (.ref a1)]))
      obtain ⟨cq103, kq103, q103a, q103b, q103c⟩ := isOf hZ rfl r101_0
      obtain ⟨_, _, ⟨T103, L103, k103, n103⟩, -, X103, ⟨Lc103, hQ103, l103, y103, z103⟩, st103⟩ := X101.virtualBack hx (y := (⟨"com/example/tidewalk/tidewalk/problems/RunMeasures", "record", "(D)V"⟩ : MethodName)) (z := (⟨"com/example/tidewalk/tidewalk/problems/RunMeasures", "record", "(D)V"⟩ : MethodName)) hown (mvT hZ (hw _ (List.mem_of_getElem? (i := 42) rfl))) (mvT hZ (hw _ (List.mem_of_getElem? (i := 43) rfl))) (notFace_of_selects (args := #[]) (mvT hZ (hw _ (List.mem_of_getElem? (i := 45) rfl)))) (mvT hZ (hw _ (List.mem_of_getElem? (i := 45) rfl))) (mvT hZ (hw _ (List.mem_of_getElem? (i := 44) rfl))) (by decide) (backOf (W := 0) (rmrc l Z a0 hw [] a1 p8 (2 : Int32) (own_pl zc (own_er zo.toInt64 zb)) p3 (own_mx none p7.toInt64) ev2_101 ps2_101 es2_101 os2_101 T101.heap n0 Z101 r101_0 r101_1 r101_2 r101_3 r101_4 r101_5 r101_6 r101_7 r101_8 r101_9 g_a1 (by decide) (own_Wmx (own_Wn _) p7) r101_10 r101_11 r101_12) hZ (hw _ (List.mem_of_getElem? (i := 46) rfl)) (hw _ (List.mem_of_getElem? (i := 13) rfl)) (by decide) (by decide)) q103a q103c (g := (mkF m 28 #[rv a1, iv p2, iv p3, iv p4, iv p5, iv p6, iv p7, iv p8, iv p9] [(.double (FP.l2d p8.toInt64)), (.ref a1)])) rfl (by rw [hml]; rfl) (Steps.refl _) (argsL := [(.double (FP.l2d p8.toInt64))]) (rest := []) (lenOf pd__28_D_29_V rfl) rfl (by show 2 * 0 + _ ≤ _; exact Nat.le_of_eq rfl) (hb hby d6_28) (fun _ hv => ⟨rfl, rfl, (by decide : 0 + 0 ≤ _), (by decide : 0 + 0 ≤ _)⟩)
      dsimp only [Pt.U, Pt.locs, Pt.cells, Pt.slots] at X103 l103 y103 z103 st103 hQ103
      subst l103 y103 z103
      refine own_go st103 ?_
      obtain ⟨ps2_103, es2_103, os2_103, ev2_103, rfl, Nq103, K103, r103_0, r103_1, r103_2, r103_3, r103_4, r103_5, r103_6, r103_7, r103_8, r103_9, r103_10, r103_11, r103_12⟩ := hQ103
      have r101_0_103 := r101_0.keep K103
      have Z103 : n0 ≤ T103.heap.size := Nat.le_trans Z101 K103.1
      have Kt103 := Kt101.trans K103 (allS (P := fun x => x ∈ _ ∨ _ ≤ x) (Or.inl (List.mem_of_getElem? (i := 0) rfl)) all0)
      have N103 := Fr.app N101 Nq103
      show own_Fin _ _ _ _ (T103.setTop (mkF m 31 #[rv a1, iv p2, iv p3, iv p4, iv p5, iv p6, iv p7, iv p8, iv p9] []))
      refine own_go (XS.iload X103.here hx rfl (hb hby d6_31) rfl (Steps.refl _)) ?_
      show own_Fin _ _ _ _ (T103.setTop (mkF m 33 #[rv a1, iv p2, iv p3, iv p4, iv p5, iv p6, iv p7, iv p8, iv p9] [(.int p6)]))
      refine own_go (XS.iloadN X103.here hx rfl (hb hby d6_33) rfl (Steps.refl _)) ?_
      show own_Fin _ _ _ _ (T103.setTop (mkF m 34 #[rv a1, iv p2, iv p3, iv p4, iv p5, iv p6, iv p7, iv p8, iv p9] [(.int p2), (.int p6)]))
      by_cases c34_104 : p6 = p2
      · refine own_go (XS.icmpNo X103.here hx rfl (hb hby d6_34) rfl (teq c34_104).2 (Steps.refl _)) ?_
        show own_Fin _ _ _ _ (T103.setTop (mkF m 37 #[rv a1, iv p2, iv p3, iv p4, iv p5, iv p6, iv p7, iv p8, iv p9] []))
        refine own_go (XS.aloadN X103.here hx rfl (hb hby d6_37) rfl rfl (Steps.refl _)) ?_
        show own_Fin _ _ _ _ (T103.setTop (mkF m 38 #[rv a1, iv p2, iv p3, iv p4, iv p5, iv p6, iv p7, iv p8, iv p9] [(.ref a1)]))
        refine own_go (XS.iload X103.here hx rfl (hb hby d6_38) rfl (Steps.refl _)) ?_
        show own_Fin _ _ _ _ (T103.setTop (mkF m 40 #[rv a1, iv p2, iv p3, iv p4, iv p5, iv p6, iv p7, iv p8, iv p9] [(.int p9), (.ref a1)]))
        refine own_go (XS.i2dS X103.here hx rfl (hb hby d6_40) rfl (i2d_w _) (Steps.refl _)) ?_
        show own_Fin _ _ _ _ (T103.setTop (mkF m 41 #[rv a1, iv p2, iv p3, iv p4, iv p5, iv p6, iv p7, iv p8, iv p9] [(.double (FP.l2d p9.toInt64)), (.ref a1)]))
        obtain ⟨cq105, kq105, q105a, q105b, q105c⟩ := isOf hZ rfl r103_0
        obtain ⟨_, _, ⟨T105, L105, k105, n105⟩, -, X105, ⟨Lc105, hQ105, l105, y105, z105⟩, st105⟩ := X103.virtualBack hx (y := (⟨"com/example/tidewalk/tidewalk/problems/RunMeasures", "record", "(D)V"⟩ : MethodName)) (z := (⟨"com/example/tidewalk/tidewalk/problems/RunMeasures", "record", "(D)V"⟩ : MethodName)) hown (mvT hZ (hw _ (List.mem_of_getElem? (i := 42) rfl))) (mvT hZ (hw _ (List.mem_of_getElem? (i := 43) rfl))) (notFace_of_selects (args := #[]) (mvT hZ (hw _ (List.mem_of_getElem? (i := 45) rfl)))) (mvT hZ (hw _ (List.mem_of_getElem? (i := 45) rfl))) (mvT hZ (hw _ (List.mem_of_getElem? (i := 44) rfl))) (by decide) (backOf (W := 0) (rmrc l Z a0 hw [] a1 p9 (2 : Int32) (own_pl zc (own_er zo.toInt64 zb)) p3 (own_mx (own_mx none p7.toInt64) p8.toInt64) ev2_103 ps2_103 es2_103 os2_103 T103.heap n0 Z103 r103_0 r103_1 r103_2 r103_3 r103_4 r103_5 r103_6 r103_7 r103_8 r103_9 g_a1 (by decide) (own_Wmx (own_Wmx (own_Wn _) p7) p8) r103_10 r103_11 r103_12) hZ (hw _ (List.mem_of_getElem? (i := 46) rfl)) (hw _ (List.mem_of_getElem? (i := 13) rfl)) (by decide) (by decide)) q105a q105c (g := (mkF m 41 #[rv a1, iv p2, iv p3, iv p4, iv p5, iv p6, iv p7, iv p8, iv p9] [(.double (FP.l2d p9.toInt64)), (.ref a1)])) rfl (by rw [hml]; rfl) (Steps.refl _) (argsL := [(.double (FP.l2d p9.toInt64))]) (rest := []) (lenOf pd__28_D_29_V rfl) rfl (by show 2 * 0 + _ ≤ _; exact Nat.le_of_eq rfl) (hb hby d6_41) (fun _ hv => ⟨rfl, rfl, (by decide : 0 + 0 ≤ _), (by decide : 0 + 0 ≤ _)⟩)
        dsimp only [Pt.U, Pt.locs, Pt.cells, Pt.slots] at X105 l105 y105 z105 st105 hQ105
        subst l105 y105 z105
        refine own_go st105 ?_
        obtain ⟨ps2_105, es2_105, os2_105, ev2_105, rfl, Nq105, K105, r105_0, r105_1, r105_2, r105_3, r105_4, r105_5, r105_6, r105_7, r105_8, r105_9, r105_10, r105_11, r105_12⟩ := hQ105
        have r103_0_105 := r103_0.keep K105
        have Z105 : n0 ≤ T105.heap.size := Nat.le_trans Z103 K105.1
        have Kt105 := Kt103.trans K105 (allS (P := fun x => x ∈ _ ∨ _ ≤ x) (Or.inl (List.mem_of_getElem? (i := 0) rfl)) all0)
        have N105 := Fr.app N103 Nq105
        show own_Fin _ _ _ _ (T105.setTop (mkF m 44 #[rv a1, iv p2, iv p3, iv p4, iv p5, iv p6, iv p7, iv p8, iv p9] []))
        obtain ⟨fs106, hr106, hrun106, hended106, hW106, hsame106⟩ := X105.leave (v := none) (fun _ => rfl)
        refine own_done (X105.returnOut hx Bd.returns (hb hby d6_44) hr106) hrun106 hended106 ⟨_, _, rfl, ?_, ⟨_, rfl⟩, hW106, hsame106.mono (by decide) (by decide)⟩
        show Qph_1 Z a1 p2 p3 p4 p5 p6 p7 p8 p9 zc zo zb ev ps es os h0 n0 _ T105.heap _
        exact ⟨ps2_105, es2_105, os2_105, ev2_105, rfl, N105, Kt105, r105_0, r105_1, r105_2, r105_3, (by rw [show (own_b3 p2 p4 p5 p6 p7 p8 p9) = (own_mx (own_mx (own_mx none p7.toInt64) p8.toInt64) p9.toInt64) from by simp [own_b3, own_if, c8_100, c21_102, c34_104]]; exact r105_4), r105_5, r105_6, r105_7, r105_8, r105_9, r105_10, r105_11, r105_12⟩
      · refine own_go (XS.icmpYes X103.here hx rfl (pc0 := 34) (pc' := 44) rfl (hb hby d6_34) rfl (feq c34_104).2 (by decide) (by decide) (Steps.refl _)) ?_
        show own_Fin _ _ _ _ (T103.setTop (mkF m 44 #[rv a1, iv p2, iv p3, iv p4, iv p5, iv p6, iv p7, iv p8, iv p9] []))
        obtain ⟨fs107, hr107, hrun107, hended107, hW107, hsame107⟩ := X103.leave (v := none) (fun _ => rfl)
        refine own_done (X103.returnOut hx Bd.returns (hb hby d6_44) hr107) hrun107 hended107 ⟨_, _, rfl, ?_, ⟨_, rfl⟩, hW107, hsame107.mono (by decide) (by decide)⟩
        show Qph_1 Z a1 p2 p3 p4 p5 p6 p7 p8 p9 zc zo zb ev ps es os h0 n0 _ T103.heap _
        exact ⟨ps2_103, es2_103, os2_103, ev2_103, rfl, N103, Kt103, r103_0, r103_1, r103_2, r103_3, (by rw [show (own_b3 p2 p4 p5 p6 p7 p8 p9) = (own_mx (own_mx none p7.toInt64) p8.toInt64) from by simp [own_b3, own_if, c8_100, c21_102, c34_104]]; exact r103_4), r103_5, r103_6, r103_7, r103_8, r103_9, r103_10, r103_11, r103_12⟩
    · refine own_go (XS.icmpYes X101.here hx rfl (pc0 := 21) (pc' := 31) rfl (hb hby d6_21) rfl (feq c21_102).2 (by decide) (by decide) (Steps.refl _)) ?_
      show own_Fin _ _ _ _ (T101.setTop (mkF m 31 #[rv a1, iv p2, iv p3, iv p4, iv p5, iv p6, iv p7, iv p8, iv p9] []))
      refine own_go (XS.iload X101.here hx rfl (hb hby d6_31) rfl (Steps.refl _)) ?_
      show own_Fin _ _ _ _ (T101.setTop (mkF m 33 #[rv a1, iv p2, iv p3, iv p4, iv p5, iv p6, iv p7, iv p8, iv p9] [(.int p6)]))
      refine own_go (XS.iloadN X101.here hx rfl (hb hby d6_33) rfl (Steps.refl _)) ?_
      show own_Fin _ _ _ _ (T101.setTop (mkF m 34 #[rv a1, iv p2, iv p3, iv p4, iv p5, iv p6, iv p7, iv p8, iv p9] [(.int p2), (.int p6)]))
      by_cases c34_108 : p6 = p2
      · refine own_go (XS.icmpNo X101.here hx rfl (hb hby d6_34) rfl (teq c34_108).2 (Steps.refl _)) ?_
        show own_Fin _ _ _ _ (T101.setTop (mkF m 37 #[rv a1, iv p2, iv p3, iv p4, iv p5, iv p6, iv p7, iv p8, iv p9] []))
        refine own_go (XS.aloadN X101.here hx rfl (hb hby d6_37) rfl rfl (Steps.refl _)) ?_
        show own_Fin _ _ _ _ (T101.setTop (mkF m 38 #[rv a1, iv p2, iv p3, iv p4, iv p5, iv p6, iv p7, iv p8, iv p9] [(.ref a1)]))
        refine own_go (XS.iload X101.here hx rfl (hb hby d6_38) rfl (Steps.refl _)) ?_
        show own_Fin _ _ _ _ (T101.setTop (mkF m 40 #[rv a1, iv p2, iv p3, iv p4, iv p5, iv p6, iv p7, iv p8, iv p9] [(.int p9), (.ref a1)]))
        refine own_go (XS.i2dS X101.here hx rfl (hb hby d6_40) rfl (i2d_w _) (Steps.refl _)) ?_
        show own_Fin _ _ _ _ (T101.setTop (mkF m 41 #[rv a1, iv p2, iv p3, iv p4, iv p5, iv p6, iv p7, iv p8, iv p9] [(.double (FP.l2d p9.toInt64)), (.ref a1)]))
        obtain ⟨cq109, kq109, q109a, q109b, q109c⟩ := isOf hZ rfl r101_0
        obtain ⟨_, _, ⟨T109, L109, k109, n109⟩, -, X109, ⟨Lc109, hQ109, l109, y109, z109⟩, st109⟩ := X101.virtualBack hx (y := (⟨"com/example/tidewalk/tidewalk/problems/RunMeasures", "record", "(D)V"⟩ : MethodName)) (z := (⟨"com/example/tidewalk/tidewalk/problems/RunMeasures", "record", "(D)V"⟩ : MethodName)) hown (mvT hZ (hw _ (List.mem_of_getElem? (i := 42) rfl))) (mvT hZ (hw _ (List.mem_of_getElem? (i := 43) rfl))) (notFace_of_selects (args := #[]) (mvT hZ (hw _ (List.mem_of_getElem? (i := 45) rfl)))) (mvT hZ (hw _ (List.mem_of_getElem? (i := 45) rfl))) (mvT hZ (hw _ (List.mem_of_getElem? (i := 44) rfl))) (by decide) (backOf (W := 0) (rmrc l Z a0 hw [] a1 p9 (2 : Int32) (own_pl zc (own_er zo.toInt64 zb)) p3 (own_mx none p7.toInt64) ev2_101 ps2_101 es2_101 os2_101 T101.heap n0 Z101 r101_0 r101_1 r101_2 r101_3 r101_4 r101_5 r101_6 r101_7 r101_8 r101_9 g_a1 (by decide) (own_Wmx (own_Wn _) p7) r101_10 r101_11 r101_12) hZ (hw _ (List.mem_of_getElem? (i := 46) rfl)) (hw _ (List.mem_of_getElem? (i := 13) rfl)) (by decide) (by decide)) q109a q109c (g := (mkF m 41 #[rv a1, iv p2, iv p3, iv p4, iv p5, iv p6, iv p7, iv p8, iv p9] [(.double (FP.l2d p9.toInt64)), (.ref a1)])) rfl (by rw [hml]; rfl) (Steps.refl _) (argsL := [(.double (FP.l2d p9.toInt64))]) (rest := []) (lenOf pd__28_D_29_V rfl) rfl (by show 2 * 0 + _ ≤ _; exact Nat.le_of_eq rfl) (hb hby d6_41) (fun _ hv => ⟨rfl, rfl, (by decide : 0 + 0 ≤ _), (by decide : 0 + 0 ≤ _)⟩)
        dsimp only [Pt.U, Pt.locs, Pt.cells, Pt.slots] at X109 l109 y109 z109 st109 hQ109
        subst l109 y109 z109
        refine own_go st109 ?_
        obtain ⟨ps2_109, es2_109, os2_109, ev2_109, rfl, Nq109, K109, r109_0, r109_1, r109_2, r109_3, r109_4, r109_5, r109_6, r109_7, r109_8, r109_9, r109_10, r109_11, r109_12⟩ := hQ109
        have r101_0_109 := r101_0.keep K109
        have Z109 : n0 ≤ T109.heap.size := Nat.le_trans Z101 K109.1
        have Kt109 := Kt101.trans K109 (allS (P := fun x => x ∈ _ ∨ _ ≤ x) (Or.inl (List.mem_of_getElem? (i := 0) rfl)) all0)
        have N109 := Fr.app N101 Nq109
        show own_Fin _ _ _ _ (T109.setTop (mkF m 44 #[rv a1, iv p2, iv p3, iv p4, iv p5, iv p6, iv p7, iv p8, iv p9] []))
        obtain ⟨fs110, hr110, hrun110, hended110, hW110, hsame110⟩ := X109.leave (v := none) (fun _ => rfl)
        refine own_done (X109.returnOut hx Bd.returns (hb hby d6_44) hr110) hrun110 hended110 ⟨_, _, rfl, ?_, ⟨_, rfl⟩, hW110, hsame110.mono (by decide) (by decide)⟩
        show Qph_1 Z a1 p2 p3 p4 p5 p6 p7 p8 p9 zc zo zb ev ps es os h0 n0 _ T109.heap _
        exact ⟨ps2_109, es2_109, os2_109, ev2_109, rfl, N109, Kt109, r109_0, r109_1, r109_2, r109_3, (by rw [show (own_b3 p2 p4 p5 p6 p7 p8 p9) = (own_mx (own_mx none p7.toInt64) p9.toInt64) from by simp [own_b3, own_if, c8_100, c21_102, c34_108]]; exact r109_4), r109_5, r109_6, r109_7, r109_8, r109_9, r109_10, r109_11, r109_12⟩
      · refine own_go (XS.icmpYes X101.here hx rfl (pc0 := 34) (pc' := 44) rfl (hb hby d6_34) rfl (feq c34_108).2 (by decide) (by decide) (Steps.refl _)) ?_
        show own_Fin _ _ _ _ (T101.setTop (mkF m 44 #[rv a1, iv p2, iv p3, iv p4, iv p5, iv p6, iv p7, iv p8, iv p9] []))
        obtain ⟨fs111, hr111, hrun111, hended111, hW111, hsame111⟩ := X101.leave (v := none) (fun _ => rfl)
        refine own_done (X101.returnOut hx Bd.returns (hb hby d6_44) hr111) hrun111 hended111 ⟨_, _, rfl, ?_, ⟨_, rfl⟩, hW111, hsame111.mono (by decide) (by decide)⟩
        show Qph_1 Z a1 p2 p3 p4 p5 p6 p7 p8 p9 zc zo zb ev ps es os h0 n0 _ T101.heap _
        exact ⟨ps2_101, es2_101, os2_101, ev2_101, rfl, N101, Kt101, r101_0, r101_1, r101_2, r101_3, (by rw [show (own_b3 p2 p4 p5 p6 p7 p8 p9) = (own_mx none p7.toInt64) from by simp [own_b3, own_if, c8_100, c21_102, c34_108]]; exact r101_4), r101_5, r101_6, r101_7, r101_8, r101_9, r101_10, r101_11, r101_12⟩
  · refine own_go (XS.icmpYes X99.here hx rfl (pc0 := 8) (pc' := 18) rfl (hb hby d6_8) rfl (feq c8_100).2 (by decide) (by decide) (Steps.refl _)) ?_
    show own_Fin _ _ _ _ (T99.setTop (mkF m 18 #[rv a1, iv p2, iv p3, iv p4, iv p5, iv p6, iv p7, iv p8, iv p9] []))
    refine own_go (XS.iload X99.here hx rfl (hb hby d6_18) rfl (Steps.refl _)) ?_
    show own_Fin _ _ _ _ (T99.setTop (mkF m 20 #[rv a1, iv p2, iv p3, iv p4, iv p5, iv p6, iv p7, iv p8, iv p9] [(.int p5)]))
    refine own_go (XS.iloadN X99.here hx rfl (hb hby d6_20) rfl (Steps.refl _)) ?_
    show own_Fin _ _ _ _ (T99.setTop (mkF m 21 #[rv a1, iv p2, iv p3, iv p4, iv p5, iv p6, iv p7, iv p8, iv p9] [(.int p2), (.int p5)]))
    by_cases c21_112 : p5 = p2
    · refine own_go (XS.icmpNo X99.here hx rfl (hb hby d6_21) rfl (teq c21_112).2 (Steps.refl _)) ?_
      show own_Fin _ _ _ _ (T99.setTop (mkF m 24 #[rv a1, iv p2, iv p3, iv p4, iv p5, iv p6, iv p7, iv p8, iv p9] []))
      refine own_go (XS.aloadN X99.here hx rfl (hb hby d6_24) rfl rfl (Steps.refl _)) ?_
      show own_Fin _ _ _ _ (T99.setTop (mkF m 25 #[rv a1, iv p2, iv p3, iv p4, iv p5, iv p6, iv p7, iv p8, iv p9] [(.ref a1)]))
      refine own_go (XS.iload X99.here hx rfl (hb hby d6_25) rfl (Steps.refl _)) ?_
      show own_Fin _ _ _ _ (T99.setTop (mkF m 27 #[rv a1, iv p2, iv p3, iv p4, iv p5, iv p6, iv p7, iv p8, iv p9] [(.int p8), (.ref a1)]))
      refine own_go (XS.i2dS X99.here hx rfl (hb hby d6_27) rfl (i2d_w _) (Steps.refl _)) ?_
      show own_Fin _ _ _ _ (T99.setTop (mkF m 28 #[rv a1, iv p2, iv p3, iv p4, iv p5, iv p6, iv p7, iv p8, iv p9] [(.double (FP.l2d p8.toInt64)), (.ref a1)]))
      obtain ⟨cq113, kq113, q113a, q113b, q113c⟩ := isOf hZ rfl r99_0
      obtain ⟨_, _, ⟨T113, L113, k113, n113⟩, -, X113, ⟨Lc113, hQ113, l113, y113, z113⟩, st113⟩ := X99.virtualBack hx (y := (⟨"com/example/tidewalk/tidewalk/problems/RunMeasures", "record", "(D)V"⟩ : MethodName)) (z := (⟨"com/example/tidewalk/tidewalk/problems/RunMeasures", "record", "(D)V"⟩ : MethodName)) hown (mvT hZ (hw _ (List.mem_of_getElem? (i := 42) rfl))) (mvT hZ (hw _ (List.mem_of_getElem? (i := 43) rfl))) (notFace_of_selects (args := #[]) (mvT hZ (hw _ (List.mem_of_getElem? (i := 45) rfl)))) (mvT hZ (hw _ (List.mem_of_getElem? (i := 45) rfl))) (mvT hZ (hw _ (List.mem_of_getElem? (i := 44) rfl))) (by decide) (backOf (W := 0) (rmrc l Z a0 hw [] a1 p8 (2 : Int32) (own_pl zc (own_er zo.toInt64 zb)) p3 none ev ps es os T99.heap n0 Z99 r99_0 r99_1 r99_2 r99_3 r99_4 r99_5 r99_6 r99_7 r99_8 r99_9 g_a1 (by decide) (own_Wn _) hps hes hos) hZ (hw _ (List.mem_of_getElem? (i := 46) rfl)) (hw _ (List.mem_of_getElem? (i := 13) rfl)) (by decide) (by decide)) q113a q113c (g := (mkF m 28 #[rv a1, iv p2, iv p3, iv p4, iv p5, iv p6, iv p7, iv p8, iv p9] [(.double (FP.l2d p8.toInt64)), (.ref a1)])) rfl (by rw [hml]; rfl) (Steps.refl _) (argsL := [(.double (FP.l2d p8.toInt64))]) (rest := []) (lenOf pd__28_D_29_V rfl) rfl (by show 2 * 0 + _ ≤ _; exact Nat.le_of_eq rfl) (hb hby d6_28) (fun _ hv => ⟨rfl, rfl, (by decide : 0 + 0 ≤ _), (by decide : 0 + 0 ≤ _)⟩)
      dsimp only [Pt.U, Pt.locs, Pt.cells, Pt.slots] at X113 l113 y113 z113 st113 hQ113
      subst l113 y113 z113
      refine own_go st113 ?_
      obtain ⟨ps2_113, es2_113, os2_113, ev2_113, rfl, Nq113, K113, r113_0, r113_1, r113_2, r113_3, r113_4, r113_5, r113_6, r113_7, r113_8, r113_9, r113_10, r113_11, r113_12⟩ := hQ113
      have r99_0_113 := r99_0.keep K113
      have Z113 : n0 ≤ T113.heap.size := Nat.le_trans Z99 K113.1
      have Kt113 := Kt99.trans K113 (allS (P := fun x => x ∈ _ ∨ _ ≤ x) (Or.inl (List.mem_of_getElem? (i := 0) rfl)) all0)
      have N113 := Fr.app N99 Nq113
      show own_Fin _ _ _ _ (T113.setTop (mkF m 31 #[rv a1, iv p2, iv p3, iv p4, iv p5, iv p6, iv p7, iv p8, iv p9] []))
      refine own_go (XS.iload X113.here hx rfl (hb hby d6_31) rfl (Steps.refl _)) ?_
      show own_Fin _ _ _ _ (T113.setTop (mkF m 33 #[rv a1, iv p2, iv p3, iv p4, iv p5, iv p6, iv p7, iv p8, iv p9] [(.int p6)]))
      refine own_go (XS.iloadN X113.here hx rfl (hb hby d6_33) rfl (Steps.refl _)) ?_
      show own_Fin _ _ _ _ (T113.setTop (mkF m 34 #[rv a1, iv p2, iv p3, iv p4, iv p5, iv p6, iv p7, iv p8, iv p9] [(.int p2), (.int p6)]))
      by_cases c34_114 : p6 = p2
      · refine own_go (XS.icmpNo X113.here hx rfl (hb hby d6_34) rfl (teq c34_114).2 (Steps.refl _)) ?_
        show own_Fin _ _ _ _ (T113.setTop (mkF m 37 #[rv a1, iv p2, iv p3, iv p4, iv p5, iv p6, iv p7, iv p8, iv p9] []))
        refine own_go (XS.aloadN X113.here hx rfl (hb hby d6_37) rfl rfl (Steps.refl _)) ?_
        show own_Fin _ _ _ _ (T113.setTop (mkF m 38 #[rv a1, iv p2, iv p3, iv p4, iv p5, iv p6, iv p7, iv p8, iv p9] [(.ref a1)]))
        refine own_go (XS.iload X113.here hx rfl (hb hby d6_38) rfl (Steps.refl _)) ?_
        show own_Fin _ _ _ _ (T113.setTop (mkF m 40 #[rv a1, iv p2, iv p3, iv p4, iv p5, iv p6, iv p7, iv p8, iv p9] [(.int p9), (.ref a1)]))
        refine own_go (XS.i2dS X113.here hx rfl (hb hby d6_40) rfl (i2d_w _) (Steps.refl _)) ?_
        show own_Fin _ _ _ _ (T113.setTop (mkF m 41 #[rv a1, iv p2, iv p3, iv p4, iv p5, iv p6, iv p7, iv p8, iv p9] [(.double (FP.l2d p9.toInt64)), (.ref a1)]))
        obtain ⟨cq115, kq115, q115a, q115b, q115c⟩ := isOf hZ rfl r113_0
        obtain ⟨_, _, ⟨T115, L115, k115, n115⟩, -, X115, ⟨Lc115, hQ115, l115, y115, z115⟩, st115⟩ := X113.virtualBack hx (y := (⟨"com/example/tidewalk/tidewalk/problems/RunMeasures", "record", "(D)V"⟩ : MethodName)) (z := (⟨"com/example/tidewalk/tidewalk/problems/RunMeasures", "record", "(D)V"⟩ : MethodName)) hown (mvT hZ (hw _ (List.mem_of_getElem? (i := 42) rfl))) (mvT hZ (hw _ (List.mem_of_getElem? (i := 43) rfl))) (notFace_of_selects (args := #[]) (mvT hZ (hw _ (List.mem_of_getElem? (i := 45) rfl)))) (mvT hZ (hw _ (List.mem_of_getElem? (i := 45) rfl))) (mvT hZ (hw _ (List.mem_of_getElem? (i := 44) rfl))) (by decide) (backOf (W := 0) (rmrc l Z a0 hw [] a1 p9 (2 : Int32) (own_pl zc (own_er zo.toInt64 zb)) p3 (own_mx none p8.toInt64) ev2_113 ps2_113 es2_113 os2_113 T113.heap n0 Z113 r113_0 r113_1 r113_2 r113_3 r113_4 r113_5 r113_6 r113_7 r113_8 r113_9 g_a1 (by decide) (own_Wmx (own_Wn _) p8) r113_10 r113_11 r113_12) hZ (hw _ (List.mem_of_getElem? (i := 46) rfl)) (hw _ (List.mem_of_getElem? (i := 13) rfl)) (by decide) (by decide)) q115a q115c (g := (mkF m 41 #[rv a1, iv p2, iv p3, iv p4, iv p5, iv p6, iv p7, iv p8, iv p9] [(.double (FP.l2d p9.toInt64)), (.ref a1)])) rfl (by rw [hml]; rfl) (Steps.refl _) (argsL := [(.double (FP.l2d p9.toInt64))]) (rest := []) (lenOf pd__28_D_29_V rfl) rfl (by show 2 * 0 + _ ≤ _; exact Nat.le_of_eq rfl) (hb hby d6_41) (fun _ hv => ⟨rfl, rfl, (by decide : 0 + 0 ≤ _), (by decide : 0 + 0 ≤ _)⟩)
        dsimp only [Pt.U, Pt.locs, Pt.cells, Pt.slots] at X115 l115 y115 z115 st115 hQ115
        subst l115 y115 z115
        refine own_go st115 ?_
        obtain ⟨ps2_115, es2_115, os2_115, ev2_115, rfl, Nq115, K115, r115_0, r115_1, r115_2, r115_3, r115_4, r115_5, r115_6, r115_7, r115_8, r115_9, r115_10, r115_11, r115_12⟩ := hQ115
        have r113_0_115 := r113_0.keep K115
        have Z115 : n0 ≤ T115.heap.size := Nat.le_trans Z113 K115.1
        have Kt115 := Kt113.trans K115 (allS (P := fun x => x ∈ _ ∨ _ ≤ x) (Or.inl (List.mem_of_getElem? (i := 0) rfl)) all0)
        have N115 := Fr.app N113 Nq115
        show own_Fin _ _ _ _ (T115.setTop (mkF m 44 #[rv a1, iv p2, iv p3, iv p4, iv p5, iv p6, iv p7, iv p8, iv p9] []))
        obtain ⟨fs116, hr116, hrun116, hended116, hW116, hsame116⟩ := X115.leave (v := none) (fun _ => rfl)
        refine own_done (X115.returnOut hx Bd.returns (hb hby d6_44) hr116) hrun116 hended116 ⟨_, _, rfl, ?_, ⟨_, rfl⟩, hW116, hsame116.mono (by decide) (by decide)⟩
        show Qph_1 Z a1 p2 p3 p4 p5 p6 p7 p8 p9 zc zo zb ev ps es os h0 n0 _ T115.heap _
        exact ⟨ps2_115, es2_115, os2_115, ev2_115, rfl, N115, Kt115, r115_0, r115_1, r115_2, r115_3, (by rw [show (own_b3 p2 p4 p5 p6 p7 p8 p9) = (own_mx (own_mx none p8.toInt64) p9.toInt64) from by simp [own_b3, own_if, c8_100, c21_112, c34_114]]; exact r115_4), r115_5, r115_6, r115_7, r115_8, r115_9, r115_10, r115_11, r115_12⟩
      · refine own_go (XS.icmpYes X113.here hx rfl (pc0 := 34) (pc' := 44) rfl (hb hby d6_34) rfl (feq c34_114).2 (by decide) (by decide) (Steps.refl _)) ?_
        show own_Fin _ _ _ _ (T113.setTop (mkF m 44 #[rv a1, iv p2, iv p3, iv p4, iv p5, iv p6, iv p7, iv p8, iv p9] []))
        obtain ⟨fs117, hr117, hrun117, hended117, hW117, hsame117⟩ := X113.leave (v := none) (fun _ => rfl)
        refine own_done (X113.returnOut hx Bd.returns (hb hby d6_44) hr117) hrun117 hended117 ⟨_, _, rfl, ?_, ⟨_, rfl⟩, hW117, hsame117.mono (by decide) (by decide)⟩
        show Qph_1 Z a1 p2 p3 p4 p5 p6 p7 p8 p9 zc zo zb ev ps es os h0 n0 _ T113.heap _
        exact ⟨ps2_113, es2_113, os2_113, ev2_113, rfl, N113, Kt113, r113_0, r113_1, r113_2, r113_3, (by rw [show (own_b3 p2 p4 p5 p6 p7 p8 p9) = (own_mx none p8.toInt64) from by simp [own_b3, own_if, c8_100, c21_112, c34_114]]; exact r113_4), r113_5, r113_6, r113_7, r113_8, r113_9, r113_10, r113_11, r113_12⟩
    · refine own_go (XS.icmpYes X99.here hx rfl (pc0 := 21) (pc' := 31) rfl (hb hby d6_21) rfl (feq c21_112).2 (by decide) (by decide) (Steps.refl _)) ?_
      show own_Fin _ _ _ _ (T99.setTop (mkF m 31 #[rv a1, iv p2, iv p3, iv p4, iv p5, iv p6, iv p7, iv p8, iv p9] []))
      refine own_go (XS.iload X99.here hx rfl (hb hby d6_31) rfl (Steps.refl _)) ?_
      show own_Fin _ _ _ _ (T99.setTop (mkF m 33 #[rv a1, iv p2, iv p3, iv p4, iv p5, iv p6, iv p7, iv p8, iv p9] [(.int p6)]))
      refine own_go (XS.iloadN X99.here hx rfl (hb hby d6_33) rfl (Steps.refl _)) ?_
      show own_Fin _ _ _ _ (T99.setTop (mkF m 34 #[rv a1, iv p2, iv p3, iv p4, iv p5, iv p6, iv p7, iv p8, iv p9] [(.int p2), (.int p6)]))
      by_cases c34_118 : p6 = p2
      · refine own_go (XS.icmpNo X99.here hx rfl (hb hby d6_34) rfl (teq c34_118).2 (Steps.refl _)) ?_
        show own_Fin _ _ _ _ (T99.setTop (mkF m 37 #[rv a1, iv p2, iv p3, iv p4, iv p5, iv p6, iv p7, iv p8, iv p9] []))
        refine own_go (XS.aloadN X99.here hx rfl (hb hby d6_37) rfl rfl (Steps.refl _)) ?_
        show own_Fin _ _ _ _ (T99.setTop (mkF m 38 #[rv a1, iv p2, iv p3, iv p4, iv p5, iv p6, iv p7, iv p8, iv p9] [(.ref a1)]))
        refine own_go (XS.iload X99.here hx rfl (hb hby d6_38) rfl (Steps.refl _)) ?_
        show own_Fin _ _ _ _ (T99.setTop (mkF m 40 #[rv a1, iv p2, iv p3, iv p4, iv p5, iv p6, iv p7, iv p8, iv p9] [(.int p9), (.ref a1)]))
        refine own_go (XS.i2dS X99.here hx rfl (hb hby d6_40) rfl (i2d_w _) (Steps.refl _)) ?_
        show own_Fin _ _ _ _ (T99.setTop (mkF m 41 #[rv a1, iv p2, iv p3, iv p4, iv p5, iv p6, iv p7, iv p8, iv p9] [(.double (FP.l2d p9.toInt64)), (.ref a1)]))
        obtain ⟨cq119, kq119, q119a, q119b, q119c⟩ := isOf hZ rfl r99_0
        obtain ⟨_, _, ⟨T119, L119, k119, n119⟩, -, X119, ⟨Lc119, hQ119, l119, y119, z119⟩, st119⟩ := X99.virtualBack hx (y := (⟨"com/example/tidewalk/tidewalk/problems/RunMeasures", "record", "(D)V"⟩ : MethodName)) (z := (⟨"com/example/tidewalk/tidewalk/problems/RunMeasures", "record", "(D)V"⟩ : MethodName)) hown (mvT hZ (hw _ (List.mem_of_getElem? (i := 42) rfl))) (mvT hZ (hw _ (List.mem_of_getElem? (i := 43) rfl))) (notFace_of_selects (args := #[]) (mvT hZ (hw _ (List.mem_of_getElem? (i := 45) rfl)))) (mvT hZ (hw _ (List.mem_of_getElem? (i := 45) rfl))) (mvT hZ (hw _ (List.mem_of_getElem? (i := 44) rfl))) (by decide) (backOf (W := 0) (rmrc l Z a0 hw [] a1 p9 (2 : Int32) (own_pl zc (own_er zo.toInt64 zb)) p3 none ev ps es os T99.heap n0 Z99 r99_0 r99_1 r99_2 r99_3 r99_4 r99_5 r99_6 r99_7 r99_8 r99_9 g_a1 (by decide) (own_Wn _) hps hes hos) hZ (hw _ (List.mem_of_getElem? (i := 46) rfl)) (hw _ (List.mem_of_getElem? (i := 13) rfl)) (by decide) (by decide)) q119a q119c (g := (mkF m 41 #[rv a1, iv p2, iv p3, iv p4, iv p5, iv p6, iv p7, iv p8, iv p9] [(.double (FP.l2d p9.toInt64)), (.ref a1)])) rfl (by rw [hml]; rfl) (Steps.refl _) (argsL := [(.double (FP.l2d p9.toInt64))]) (rest := []) (lenOf pd__28_D_29_V rfl) rfl (by show 2 * 0 + _ ≤ _; exact Nat.le_of_eq rfl) (hb hby d6_41) (fun _ hv => ⟨rfl, rfl, (by decide : 0 + 0 ≤ _), (by decide : 0 + 0 ≤ _)⟩)
        dsimp only [Pt.U, Pt.locs, Pt.cells, Pt.slots] at X119 l119 y119 z119 st119 hQ119
        subst l119 y119 z119
        refine own_go st119 ?_
        obtain ⟨ps2_119, es2_119, os2_119, ev2_119, rfl, Nq119, K119, r119_0, r119_1, r119_2, r119_3, r119_4, r119_5, r119_6, r119_7, r119_8, r119_9, r119_10, r119_11, r119_12⟩ := hQ119
        have r99_0_119 := r99_0.keep K119
        have Z119 : n0 ≤ T119.heap.size := Nat.le_trans Z99 K119.1
        have Kt119 := Kt99.trans K119 (allS (P := fun x => x ∈ _ ∨ _ ≤ x) (Or.inl (List.mem_of_getElem? (i := 0) rfl)) all0)
        have N119 := Fr.app N99 Nq119
        show own_Fin _ _ _ _ (T119.setTop (mkF m 44 #[rv a1, iv p2, iv p3, iv p4, iv p5, iv p6, iv p7, iv p8, iv p9] []))
        obtain ⟨fs120, hr120, hrun120, hended120, hW120, hsame120⟩ := X119.leave (v := none) (fun _ => rfl)
        refine own_done (X119.returnOut hx Bd.returns (hb hby d6_44) hr120) hrun120 hended120 ⟨_, _, rfl, ?_, ⟨_, rfl⟩, hW120, hsame120.mono (by decide) (by decide)⟩
        show Qph_1 Z a1 p2 p3 p4 p5 p6 p7 p8 p9 zc zo zb ev ps es os h0 n0 _ T119.heap _
        exact ⟨ps2_119, es2_119, os2_119, ev2_119, rfl, N119, Kt119, r119_0, r119_1, r119_2, r119_3, (by rw [show (own_b3 p2 p4 p5 p6 p7 p8 p9) = (own_mx none p9.toInt64) from by simp [own_b3, own_if, c8_100, c21_112, c34_118]]; exact r119_4), r119_5, r119_6, r119_7, r119_8, r119_9, r119_10, r119_11, r119_12⟩
      · refine own_go (XS.icmpYes X99.here hx rfl (pc0 := 34) (pc' := 44) rfl (hb hby d6_34) rfl (feq c34_118).2 (by decide) (by decide) (Steps.refl _)) ?_
        show own_Fin _ _ _ _ (T99.setTop (mkF m 44 #[rv a1, iv p2, iv p3, iv p4, iv p5, iv p6, iv p7, iv p8, iv p9] []))
        obtain ⟨fs121, hr121, hrun121, hended121, hW121, hsame121⟩ := X99.leave (v := none) (fun _ => rfl)
        refine own_done (X99.returnOut hx Bd.returns (hb hby d6_44) hr121) hrun121 hended121 ⟨_, _, rfl, ?_, ⟨_, rfl⟩, hW121, hsame121.mono (by decide) (by decide)⟩
        show Qph_1 Z a1 p2 p3 p4 p5 p6 p7 p8 p9 zc zo zb ev ps es os h0 n0 _ T99.heap _
        exact ⟨ps, es, os, ev, rfl, N99, Kt99, r99_0, r99_1, r99_2, r99_3, (by rw [show (own_b3 p2 p4 p5 p6 p7 p8 p9) = none from by simp [own_b3, own_if, c8_100, c21_112, c34_118]]; exact r99_4), r99_5, r99_6, r99_7, r99_8, r99_9, hps, hes, hos⟩
theorem ef_ph_2 (m : MethodId) (x0 : Addr) (x1 : Int32) (x2 : Int32) (x3 : Int32) (x4 : Int32) (x5 : Int32) (x6 : Int32) (x7 : Int32) (x8 : Int32) : entryFrame m #[(.ref x0), (.int x1), (.int x2), (.int x3), (.int x4), (.int x5), (.int x6), (.int x7), (.int x8)] 9 = mkF m 0 #[.val (.ref x0), .val (.int x1), .val (.int x2), .val (.int x3), .val (.int x4), .val (.int x5), .val (.int x6), .val (.int x7), .val (.int x8)] [] := by first | (simp [entryFrame, mkF, argsToLocals, Value.category]; done) | rfl
def Qph_2 (Z : State) (a1 : Addr) (p2 : Int32) (p3 : Int32) (p4 : Int32) (p5 : Int32) (p6 : Int32) (p7 : Int32) (p8 : Int32) (p9 : Int32) (zc : Option Int64) (zo : Int32) (zb : Option Int64) (ev : Int64) (ps : UInt64) (es : UInt64) (os : UInt64) (h0 : Heap) (n0 : Nat) (v : Option Value) (h : Heap) (L : List Loc) : Prop := ∃ (ps2 : UInt64) (es2 : UInt64) (os2 : UInt64) (ev2 : Int64), v = none ∧ Fr n0 L ∧ Keep h0 h [a1] ∧ Exa Z h a1 "com/example/tidewalk/tidewalk/problems/RunMeasures" ∧ Fld Z h a1 "com/example/tidewalk/tidewalk/problems/RunMeasures" "periods" "I" (.int (3 : Int32)) ∧ Fld Z h a1 "com/example/tidewalk/tidewalk/problems/RunMeasures" "closedBestErrorSum" "D" (.double (own_cl (own_pl zc (own_er zo.toInt64 zb)))) ∧ Fld Z h a1 "com/example/tidewalk/tidewalk/problems/RunMeasures" "optimum" "D" (.double (FP.l2d p3.toInt64)) ∧ Fld Z h a1 "com/example/tidewalk/tidewalk/problems/RunMeasures" "best" "D" (.double (own_be (own_b3 p2 p4 p5 p6 p7 p8 p9))) ∧ Fld Z h a1 "com/example/tidewalk/tidewalk/problems/RunMeasures" "optimumKnown" "Z" (.int (1 : Int32)) ∧ Fld Z h a1 "com/example/tidewalk/tidewalk/problems/RunMeasures" "evaluations" "J" (.long ev2) ∧ Fld Z h a1 "com/example/tidewalk/tidewalk/problems/RunMeasures" "performanceSum" "D" (.double ps2) ∧ Fld Z h a1 "com/example/tidewalk/tidewalk/problems/RunMeasures" "errorSum" "D" (.double es2) ∧ Fld Z h a1 "com/example/tidewalk/tidewalk/problems/RunMeasures" "optimumSum" "D" (.double os2) ∧ NoNaN64 ps2 ∧ NoNaN64 es2 ∧ NoNaN64 os2
abbrev Gph_2 (Z : State) (a1 : Addr) (p2 : Int32) (p3 : Int32) (p4 : Int32) (p5 : Int32) (p6 : Int32) (p7 : Int32) (p8 : Int32) (p9 : Int32) (zc : Option Int64) (zo : Int32) (zb : Option Int64) (ev : Int64) (ps : UInt64) (es : UInt64) (os : UInt64) (h0 : Heap) (n0 : Nat) (s : State) : Outcome → State → Prop := fun o U' => ∃ v L, o = .returned v ∧ Qph_2 Z a1 p2 p3 p4 p5 p6 p7 p8 p9 zc zo zb ev ps es os h0 n0 v U'.heap L ∧ FrameEnd s o U' L ({ frames := 3, cells := 0, slots := 0, locals := 60 } : Room).cells ({ frames := 3, cells := 0, slots := 0, locals := 60 } : Room).slots
set_option maxRecDepth 65536 in
set_option maxHeartbeats 40000000 in
theorem rmph_2 (l : Launch) (Z : State) (a0 : Array Value) (hw : ∀ d ∈ tables_1, d.before a0 Z = true) (ws : List Jvm.Cond) (a1 : Addr) (p2 : Int32) (p3 : Int32) (p4 : Int32) (p5 : Int32) (p6 : Int32) (p7 : Int32) (p8 : Int32) (p9 : Int32) (zc : Option Int64) (zo : Int32) (zb : Option Int64) (ev : Int64) (ps : UInt64) (es : UInt64) (os : UInt64) (h0 : Heap) (n0 : Nat) (Z0 : n0 ≤ h0.size) (E_a1 : Exa Z h0 a1 "com/example/tidewalk/tidewalk/problems/RunMeasures") (F_periods_a1 : Fld Z h0 a1 "com/example/tidewalk/tidewalk/problems/RunMeasures" "periods" "I" (.int (2 : Int32))) (F_closedBestErrorSum_a1 : Fld Z h0 a1 "com/example/tidewalk/tidewalk/problems/RunMeasures" "closedBestErrorSum" "D" (.double (own_cl zc))) (F_optimum_a1 : Fld Z h0 a1 "com/example/tidewalk/tidewalk/problems/RunMeasures" "optimum" "D" (.double (FP.l2d zo.toInt64))) (F_best_a1 : Fld Z h0 a1 "com/example/tidewalk/tidewalk/problems/RunMeasures" "best" "D" (.double (own_be zb))) (F_optimumKnown_a1 : Fld Z h0 a1 "com/example/tidewalk/tidewalk/problems/RunMeasures" "optimumKnown" "Z" (.int (1 : Int32))) (F_evaluations_a1 : Fld Z h0 a1 "com/example/tidewalk/tidewalk/problems/RunMeasures" "evaluations" "J" (.long ev)) (F_performanceSum_a1 : Fld Z h0 a1 "com/example/tidewalk/tidewalk/problems/RunMeasures" "performanceSum" "D" (.double ps)) (F_errorSum_a1 : Fld Z h0 a1 "com/example/tidewalk/tidewalk/problems/RunMeasures" "errorSum" "D" (.double es)) (F_optimumSum_a1 : Fld Z h0 a1 "com/example/tidewalk/tidewalk/problems/RunMeasures" "optimumSum" "D" (.double os)) (g_a1 : n0 ≤ a1) (hwb : own_W 2147483648 zb) (hc : own_W 17179869184 zc) (hps : NoNaN64 ps) (hes : NoNaN64 es) (hos : NoNaN64 os) :
    MetFree l (⟨"com/example/tidewalk/tidewalk/problems/RunMeasuresBestErrorBeforeChangePinLaw", "phase", "(Lcom/example/tidewalk/tidewalk/problems/RunMeasures;IIIIIIII)V"⟩ : MethodName) (head1 (Jvm.Cond.code (⟨"com/example/tidewalk/tidewalk/problems/RunMeasuresBestErrorBeforeChangePinLaw", "phase", "(Lcom/example/tidewalk/tidewalk/problems/RunMeasures;IIIIIIII)V"⟩ : MethodName) method_4_code 9 none :: ws) ({ frames := 3, cells := 0, slots := 0, locals := 60 } : Room)) (fun a U => a = #[(.ref a1), (.int p2), (.int p3), (.int p4), (.int p5), (.int p6), (.int p7), (.int p8), (.int p9)] ∧ Z.Warmed39 U.vm ∧ U.heap = h0) (fun _ _ _ _ _ => True) (fun _ U o U' => ∃ v L, o = .returned v ∧ Qph_2 Z a1 p2 p3 p4 p5 p6 p7 p8 p9 zc zo zb ev ps es os h0 n0 v U'.heap L ∧ FrameEnd U o U' L ({ frames := 3, cells := 0, slots := 0, locals := 60 } : Room).cells ({ frames := 3, cells := 0, slots := 0, locals := 60 } : Room).slots) := by
  refine MetFree.of_bodySF (plainFor_of_name pn_com_example_tidewalk_tidewalk_problems_RunMeasuresBestErrorBeforeChangePinLaw) hisR ?_
  intro p e s m args below meth c s₁ Bd hml0 hP hK
  obtain ⟨rfl, hZ, hh⟩ := hP
  have hx := Bd.exec
  have hby := Bd.bytes
  have hml : c.maxLocals = 9 := hml0
  have hown : s.vm.findClass "com/example/tidewalk/tidewalk/problems/RunMeasuresBestErrorBeforeChangePinLaw" = some m.cls := findClass_of_methodNamed Bd.named
  have hnm := (name_of_methodNamed Bd.named Bd.method).1
  have X0 : Stand p l e ({ frames := 3, cells := 0, slots := 0, locals := 60 } : Room) s m #[(.ref a1), (.int p2), (.int p3), (.int p4), (.int p5), (.int p6), (.int p7), (.int p8), (.int p9)] below meth c s₁ [] 0 0 := Stand.of_body Bd
  have e0 : s₁.heap = h0 := by rw [← hh, Bd.state]; rfl
  have es0 : s.heap = h0 := hh
  have N0 := Fr.nil n0
  show own_Fin p e below (Gph_2 Z a1 p2 p3 p4 p5 p6 p7 p8 p9 zc zo zb ev ps es os h0 n0 s) (s₁.setTop (entryFrame m #[(.ref a1), (.int p2), (.int p3), (.int p4), (.int p5), (.int p6), (.int p7), (.int p8), (.int p9)] 9))
  rw [ef_ph_2 m a1 p2 p3 p4 p5 p6 p7 p8 p9]
  have Kz := Keep.refl h0 [a1]
  refine own_go (XS.aloadN X0.here hx rfl (hb hby d6_0) rfl rfl (Steps.refl _)) ?_
  show own_Fin _ _ _ _ (s₁.setTop (mkF m 1 #[rv a1, iv p2, iv p3, iv p4, iv p5, iv p6, iv p7, iv p8, iv p9] [(.ref a1)]))
  refine own_go (XS.iloadN X0.here hx rfl (hb hby d6_1) rfl (Steps.refl _)) ?_
  show own_Fin _ _ _ _ (s₁.setTop (mkF m 2 #[rv a1, iv p2, iv p3, iv p4, iv p5, iv p6, iv p7, iv p8, iv p9] [(.int p3), (.ref a1)]))
  refine own_go (XS.i2dS X0.here hx rfl (hb hby d6_2) rfl (i2d_w _) (Steps.refl _)) ?_
  show own_Fin _ _ _ _ (s₁.setTop (mkF m 3 #[rv a1, iv p2, iv p3, iv p4, iv p5, iv p6, iv p7, iv p8, iv p9] [(.double (FP.l2d p3.toInt64)), (.ref a1)]))
  obtain ⟨cq122, kq122, q122a, q122b, q122c⟩ := isOf hZ e0 E_a1
  obtain ⟨_, _, ⟨T122, L122, k122, n122⟩, -, X122, ⟨Lc122, hQ122, l122, y122, z122⟩, st122⟩ := X0.virtualBack hx (y := (⟨"com/example/tidewalk/tidewalk/problems/RunMeasures", "startPeriod", "(D)V"⟩ : MethodName)) (z := (⟨"com/example/tidewalk/tidewalk/problems/RunMeasures", "startPeriod", "(D)V"⟩ : MethodName)) hown (mvT hZ (hw _ (List.mem_of_getElem? (i := 31) rfl))) (mvT hZ (hw _ (List.mem_of_getElem? (i := 32) rfl))) (notFace_of_selects (args := #[]) (mvT hZ (hw _ (List.mem_of_getElem? (i := 34) rfl)))) (mvT hZ (hw _ (List.mem_of_getElem? (i := 34) rfl))) (mvT hZ (hw _ (List.mem_of_getElem? (i := 33) rfl))) (by decide) (backOf (W := 0) (rmsp_2 l Z a0 hw [] a1 p3 zc zo zb ev ps es os h0 n0 Z0 E_a1 F_periods_a1 F_closedBestErrorSum_a1 F_optimum_a1 F_best_a1 F_optimumKnown_a1 F_evaluations_a1 F_performanceSum_a1 F_errorSum_a1 F_optimumSum_a1 g_a1 hwb hc) hZ (hw _ (List.mem_of_getElem? (i := 35) rfl)) (hw _ (List.mem_of_getElem? (i := 13) rfl)) (by decide) (by decide)) q122a q122c (g := (mkF m 3 #[rv a1, iv p2, iv p3, iv p4, iv p5, iv p6, iv p7, iv p8, iv p9] [(.double (FP.l2d p3.toInt64)), (.ref a1)])) rfl (by rw [hml]; rfl) (Steps.refl _) (argsL := [(.double (FP.l2d p3.toInt64))]) (rest := []) (lenOf pd__28_D_29_V rfl) rfl (by show 2 * 0 + _ ≤ _; exact Nat.le_of_eq rfl) (hb hby d6_3) (fun _ hv => ⟨rfl, e0, (by decide : 0 + 0 ≤ _), (by decide : 0 + 0 ≤ _)⟩)
  dsimp only [Pt.U, Pt.locs, Pt.cells, Pt.slots] at X122 l122 y122 z122 st122 hQ122
  subst l122 y122 z122
  refine own_go st122 ?_
  obtain ⟨rfl, Nq122, K122, r122_0, r122_1, r122_2, r122_3, r122_4, r122_5, r122_6, r122_7, r122_8, r122_9⟩ := hQ122
  have E_a1_122 := E_a1.keep K122
  have Z122 : n0 ≤ T122.heap.size := Nat.le_trans Z0 K122.1
  have Kt122 := Kz.trans K122 (allS (P := fun x => x ∈ _ ∨ _ ≤ x) (Or.inl (List.mem_of_getElem? (i := 0) rfl)) all0)
  have N122 := Fr.app N0 Nq122
  show own_Fin _ _ _ _ (T122.setTop (mkF m 6 #[rv a1, iv p2, iv p3, iv p4, iv p5, iv p6, iv p7, iv p8, iv p9] []))
  refine own_go (XS.iloadN X122.here hx rfl (hb hby d6_6) rfl (Steps.refl _)) ?_
  show own_Fin _ _ _ _ (T122.setTop (mkF m 7 #[rv a1, iv p2, iv p3, iv p4, iv p5, iv p6, iv p7, iv p8, iv p9] [(.int p4)]))
  refine own_go (XS.iloadN X122.here hx rfl (hb hby d6_7) rfl (Steps.refl _)) ?_
  show own_Fin _ _ _ _ (T122.setTop (mkF m 8 #[rv a1, iv p2, iv p3, iv p4, iv p5, iv p6, iv p7, iv p8, iv p9] [(.int p2), (.int p4)]))
  by_cases c8_123 : p4 = p2
  · refine own_go (XS.icmpNo X122.here hx rfl (hb hby d6_8) rfl (teq c8_123).2 (Steps.refl _)) ?_
    show own_Fin _ _ _ _ (T122.setTop (mkF m 11 #[rv a1, iv p2, iv p3, iv p4, iv p5, iv p6, iv p7, iv p8, iv p9] []))
    refine own_go (XS.aloadN X122.here hx rfl (hb hby d6_11) rfl rfl (Steps.refl _)) ?_
    show own_Fin _ _ _ _ (T122.setTop (mkF m 12 #[rv a1, iv p2, iv p3, iv p4, iv p5, iv p6, iv p7, iv p8, iv p9] [(.ref a1)]))
    refine own_go (XS.iload X122.here hx rfl (hb hby d6_12) rfl (Steps.refl _)) ?_
    show own_Fin _ _ _ _ (T122.setTop (mkF m 14 #[rv a1, iv p2, iv p3, iv p4, iv p5, iv p6, iv p7, iv p8, iv p9] [(.int p7), (.ref a1)]))
    refine own_go (XS.i2dS X122.here hx rfl (hb hby d6_14) rfl (i2d_w _) (Steps.refl _)) ?_
    show own_Fin _ _ _ _ (T122.setTop (mkF m 15 #[rv a1, iv p2, iv p3, iv p4, iv p5, iv p6, iv p7, iv p8, iv p9] [(.double (FP.l2d p7.toInt64)), (.ref a1)]))
    obtain ⟨cq124, kq124, q124a, q124b, q124c⟩ := isOf hZ rfl r122_0
    obtain ⟨_, _, ⟨T124, L124, k124, n124⟩, -, X124, ⟨Lc124, hQ124, l124, y124, z124⟩, st124⟩ := X122.virtualBack hx (y := (⟨"com/example/tidewalk/tidewalk/problems/RunMeasures", "record", "(D)V"⟩ : MethodName)) (z := (⟨"com/example/tidewalk/tidewalk/problems/RunMeasures", "record", "(D)V"⟩ : MethodName)) hown (mvT hZ (hw _ (List.mem_of_getElem? (i := 42) rfl))) (mvT hZ (hw _ (List.mem_of_getElem? (i := 43) rfl))) (notFace_of_selects (args := #[]) (mvT hZ (hw _ (List.mem_of_getElem? (i := 45) rfl)))) (mvT hZ (hw _ (List.mem_of_getElem? (i := 45) rfl))) (mvT hZ (hw _ (List.mem_of_getElem? (i := 44) rfl))) (by decide) (backOf (W := 0) (rmrc l Z a0 hw [] a1 p7 (3 : Int32) (own_pl zc (own_er zo.toInt64 zb)) p3 none ev ps es os T122.heap n0 Z122 r122_0 r122_1 r122_2 r122_3 r122_4 r122_5 r122_6 r122_7 r122_8 r122_9 g_a1 (by decide) (own_Wn _) hps hes hos) hZ (hw _ (List.mem_of_getElem? (i := 46) rfl)) (hw _ (List.mem_of_getElem? (i := 13) rfl)) (by decide) (by decide)) q124a q124c (g := (mkF m 15 #[rv a1, iv p2, iv p3, iv p4, iv p5, iv p6, iv p7, iv p8, iv p9] [(.double (FP.l2d p7.toInt64)), (.ref a1)])) rfl (by rw [hml]; rfl) (Steps.refl _) (argsL := [(.double (FP.l2d p7.toInt64))]) (rest := []) (lenOf pd__28_D_29_V rfl) rfl (by show 2 * 0 + _ ≤ _; exact Nat.le_of_eq rfl) (hb hby d6_15) (fun _ hv => ⟨rfl, rfl, (by decide : 0 + 0 ≤ _), (by decide : 0 + 0 ≤ _)⟩)
    dsimp only [Pt.U, Pt.locs, Pt.cells, Pt.slots] at X124 l124 y124 z124 st124 hQ124
    subst l124 y124 z124
    refine own_go st124 ?_
    obtain ⟨ps2_124, es2_124, os2_124, ev2_124, rfl, Nq124, K124, r124_0, r124_1, r124_2, r124_3, r124_4, r124_5, r124_6, r124_7, r124_8, r124_9, r124_10, r124_11, r124_12⟩ := hQ124
    have r122_0_124 := r122_0.keep K124
    have Z124 : n0 ≤ T124.heap.size := Nat.le_trans Z122 K124.1
    have Kt124 := Kt122.trans K124 (allS (P := fun x => x ∈ _ ∨ _ ≤ x) (Or.inl (List.mem_of_getElem? (i := 0) rfl)) all0)
    have N124 := Fr.app N122 Nq124
    show own_Fin _ _ _ _ (T124.setTop (mkF m 18 #[rv a1, iv p2, iv p3, iv p4, iv p5, iv p6, iv p7, iv p8, iv p9] []))
    refine own_go (XS.iload X124.here hx rfl (hb hby d6_18) rfl (Steps.refl _)) ?_
    show own_Fin _ _ _ _ (T124.setTop (mkF m 20 #[rv a1, iv p2, iv p3, iv p4, iv p5, iv p6, iv p7, iv p8, iv p9] [(.int p5)]))
    refine own_go (XS.iloadN X124.here hx rfl (hb hby d6_20) rfl (Steps.refl _)) ?_
    show own_Fin _ _ _ _ (T124.setTop (mkF m 21 #[rv a1, iv p2, iv p3, iv p4, iv p5, iv p6, iv p7, iv p8, iv p9] [(.int p2), (.int p5)]))
    by_cases c21_125 : p5 = p2
    · refine own_go (XS.icmpNo X124.here hx rfl (hb hby d6_21) rfl (teq c21_125).2 (Steps.refl _)) ?_
      show own_Fin _ _ _ _ (T124.setTop (mkF m 24 #[rv a1, iv p2, iv p3, iv p4, iv p5, iv p6, iv p7, iv p8, iv p9] []))
      refine own_go (XS.aloadN X124.here hx rfl (hb hby d6_24) rfl rfl (Steps.refl _)) ?_
      show own_Fin _ _ _ _ (T124.setTop (mkF m 25 #[rv a1, iv p2, iv p3, iv p4, iv p5, iv p6, iv p7, iv p8, iv p9] [(.ref a1)]))
      refine own_go (XS.iload X124.here hx rfl (hb hby d6_25) rfl (Steps.refl _)) ?_
      show own_Fin _ _ _ _ (T124.setTop (mkF m 27 #[rv a1, iv p2, iv p3, iv p4, iv p5, iv p6, iv p7, iv p8, iv p9] [(.int p8), (.ref a1)]))
      refine own_go (XS.i2dS X124.here hx rfl (hb hby d6_27) rfl (i2d_w _) (Steps.refl _)) ?_
      show own_Fin _ _ _ _ (T124.setTop (mkF m 28 #[rv a1, iv p2, iv p3, iv p4, iv p5, iv p6, iv p7, iv p8, iv p9] [(.double (FP.l2d p8.toInt64)), (.ref a1)]))
      obtain ⟨cq126, kq126, q126a, q126b, q126c⟩ := isOf hZ rfl r124_0
      obtain ⟨_, _, ⟨T126, L126, k126, n126⟩, -, X126, ⟨Lc126, hQ126, l126, y126, z126⟩, st126⟩ := X124.virtualBack hx (y := (⟨"com/example/tidewalk/tidewalk/problems/RunMeasures", "record", "(D)V"⟩ : MethodName)) (z := (⟨"com/example/tidewalk/tidewalk/problems/RunMeasures", "record", "(D)V"⟩ : MethodName)) hown (mvT hZ (hw _ (List.mem_of_getElem? (i := 42) rfl))) (mvT hZ (hw _ (List.mem_of_getElem? (i := 43) rfl))) (notFace_of_selects (args := #[]) (mvT hZ (hw _ (List.mem_of_getElem? (i := 45) rfl)))) (mvT hZ (hw _ (List.mem_of_getElem? (i := 45) rfl))) (mvT hZ (hw _ (List.mem_of_getElem? (i := 44) rfl))) (by decide) (backOf (W := 0) (rmrc l Z a0 hw [] a1 p8 (3 : Int32) (own_pl zc (own_er zo.toInt64 zb)) p3 (own_mx none p7.toInt64) ev2_124 ps2_124 es2_124 os2_124 T124.heap n0 Z124 r124_0 r124_1 r124_2 r124_3 r124_4 r124_5 r124_6 r124_7 r124_8 r124_9 g_a1 (by decide) (own_Wmx (own_Wn _) p7) r124_10 r124_11 r124_12) hZ (hw _ (List.mem_of_getElem? (i := 46) rfl)) (hw _ (List.mem_of_getElem? (i := 13) rfl)) (by decide) (by decide)) q126a q126c (g := (mkF m 28 #[rv a1, iv p2, iv p3, iv p4, iv p5, iv p6, iv p7, iv p8, iv p9] [(.double (FP.l2d p8.toInt64)), (.ref a1)])) rfl (by rw [hml]; rfl) (Steps.refl _) (argsL := [(.double (FP.l2d p8.toInt64))]) (rest := []) (lenOf pd__28_D_29_V rfl) rfl (by show 2 * 0 + _ ≤ _; exact Nat.le_of_eq rfl) (hb hby d6_28) (fun _ hv => ⟨rfl, rfl, (by decide : 0 + 0 ≤ _), (by decide : 0 + 0 ≤ _)⟩)
      dsimp only [Pt.U, Pt.locs, Pt.cells, Pt.slots] at X126 l126 y126 z126 st126 hQ126
      subst l126 y126 z126
      refine own_go st126 ?_
      obtain ⟨ps2_126, es2_126, os2_126, ev2_126, rfl, Nq126, K126, r126_0, r126_1, r126_2, r126_3, r126_4, r126_5, r126_6, r126_7, r126_8, r126_9, r126_10, r126_11, r126_12⟩ := hQ126
      have r124_0_126 := r124_0.keep K126
      have Z126 : n0 ≤ T126.heap.size := Nat.le_trans Z124 K126.1
      have Kt126 := Kt124.trans K126 (allS (P := fun x => x ∈ _ ∨ _ ≤ x) (Or.inl (List.mem_of_getElem? (i := 0) rfl)) all0)
      have N126 := Fr.app N124 Nq126
      show own_Fin _ _ _ _ (T126.setTop (mkF m 31 #[rv a1, iv p2, iv p3, iv p4, iv p5, iv p6, iv p7, iv p8, iv p9] []))
      refine own_go (XS.iload X126.here hx rfl (hb hby d6_31) rfl (Steps.refl _)) ?_
      show own_Fin _ _ _ _ (T126.setTop (mkF m 33 #[rv a1, iv p2, iv p3, iv p4, iv p5, iv p6, iv p7, iv p8, iv p9] [(.int p6)]))
      refine own_go (XS.iloadN X126.here hx rfl (hb hby d6_33) rfl (Steps.refl _)) ?_
      show own_Fin _ _ _ _ (T126.setTop (mkF m 34 #[rv a1, iv p2, iv p3, iv p4, iv p5, iv p6, iv p7, iv p8, iv p9] [(.int p2), (.int p6)]))
      by_cases c34_127 : p6 = p2
      · refine own_go (XS.icmpNo X126.here hx rfl (hb hby d6_34) rfl (teq c34_127).2 (Steps.refl _)) ?_
        show own_Fin _ _ _ _ (T126.setTop (mkF m 37 #[rv a1, iv p2, iv p3, iv p4, iv p5, iv p6, iv p7, iv p8, iv p9] []))
        refine own_go (XS.aloadN X126.here hx rfl (hb hby d6_37) rfl rfl (Steps.refl _)) ?_
        show own_Fin _ _ _ _ (T126.setTop (mkF m 38 #[rv a1, iv p2, iv p3, iv p4, iv p5, iv p6, iv p7, iv p8, iv p9] [(.ref a1)]))
        refine own_go (XS.iload X126.here hx rfl (hb hby d6_38) rfl (Steps.refl _)) ?_
        show own_Fin _ _ _ _ (T126.setTop (mkF m 40 #[rv a1, iv p2, iv p3, iv p4, iv p5, iv p6, iv p7, iv p8, iv p9] [(.int p9), (.ref a1)]))
        refine own_go (XS.i2dS X126.here hx rfl (hb hby d6_40) rfl (i2d_w _) (Steps.refl _)) ?_
        show own_Fin _ _ _ _ (T126.setTop (mkF m 41 #[rv a1, iv p2, iv p3, iv p4, iv p5, iv p6, iv p7, iv p8, iv p9] [(.double (FP.l2d p9.toInt64)), (.ref a1)]))
        obtain ⟨cq128, kq128, q128a, q128b, q128c⟩ := isOf hZ rfl r126_0
        obtain ⟨_, _, ⟨T128, L128, k128, n128⟩, -, X128, ⟨Lc128, hQ128, l128, y128, z128⟩, st128⟩ := X126.virtualBack hx (y := (⟨"com/example/tidewalk/tidewalk/problems/RunMeasures", "record", "(D)V"⟩ : MethodName)) (z := (⟨"com/example/tidewalk/tidewalk/problems/RunMeasures", "record", "(D)V"⟩ : MethodName)) hown (mvT hZ (hw _ (List.mem_of_getElem? (i := 42) rfl))) (mvT hZ (hw _ (List.mem_of_getElem? (i := 43) rfl))) (notFace_of_selects (args := #[]) (mvT hZ (hw _ (List.mem_of_getElem? (i := 45) rfl)))) (mvT hZ (hw _ (List.mem_of_getElem? (i := 45) rfl))) (mvT hZ (hw _ (List.mem_of_getElem? (i := 44) rfl))) (by decide) (backOf (W := 0) (rmrc l Z a0 hw [] a1 p9 (3 : Int32) (own_pl zc (own_er zo.toInt64 zb)) p3 (own_mx (own_mx none p7.toInt64) p8.toInt64) ev2_126 ps2_126 es2_126 os2_126 T126.heap n0 Z126 r126_0 r126_1 r126_2 r126_3 r126_4 r126_5 r126_6 r126_7 r126_8 r126_9 g_a1 (by decide) (own_Wmx (own_Wmx (own_Wn _) p7) p8) r126_10 r126_11 r126_12) hZ (hw _ (List.mem_of_getElem? (i := 46) rfl)) (hw _ (List.mem_of_getElem? (i := 13) rfl)) (by decide) (by decide)) q128a q128c (g := (mkF m 41 #[rv a1, iv p2, iv p3, iv p4, iv p5, iv p6, iv p7, iv p8, iv p9] [(.double (FP.l2d p9.toInt64)), (.ref a1)])) rfl (by rw [hml]; rfl) (Steps.refl _) (argsL := [(.double (FP.l2d p9.toInt64))]) (rest := []) (lenOf pd__28_D_29_V rfl) rfl (by show 2 * 0 + _ ≤ _; exact Nat.le_of_eq rfl) (hb hby d6_41) (fun _ hv => ⟨rfl, rfl, (by decide : 0 + 0 ≤ _), (by decide : 0 + 0 ≤ _)⟩)
        dsimp only [Pt.U, Pt.locs, Pt.cells, Pt.slots] at X128 l128 y128 z128 st128 hQ128
        subst l128 y128 z128
        refine own_go st128 ?_
        obtain ⟨ps2_128, es2_128, os2_128, ev2_128, rfl, Nq128, K128, r128_0, r128_1, r128_2, r128_3, r128_4, r128_5, r128_6, r128_7, r128_8, r128_9, r128_10, r128_11, r128_12⟩ := hQ128
        have r126_0_128 := r126_0.keep K128
        have Z128 : n0 ≤ T128.heap.size := Nat.le_trans Z126 K128.1
        have Kt128 := Kt126.trans K128 (allS (P := fun x => x ∈ _ ∨ _ ≤ x) (Or.inl (List.mem_of_getElem? (i := 0) rfl)) all0)
        have N128 := Fr.app N126 Nq128
        show own_Fin _ _ _ _ (T128.setTop (mkF m 44 #[rv a1, iv p2, iv p3, iv p4, iv p5, iv p6, iv p7, iv p8, iv p9] []))
        obtain ⟨fs129, hr129, hrun129, hended129, hW129, hsame129⟩ := X128.leave (v := none) (fun _ => rfl)
        refine own_done (X128.returnOut hx Bd.returns (hb hby d6_44) hr129) hrun129 hended129 ⟨_, _, rfl, ?_, ⟨_, rfl⟩, hW129, hsame129.mono (by decide) (by decide)⟩
        show Qph_2 Z a1 p2 p3 p4 p5 p6 p7 p8 p9 zc zo zb ev ps es os h0 n0 _ T128.heap _
        exact ⟨ps2_128, es2_128, os2_128, ev2_128, rfl, N128, Kt128, r128_0, r128_1, r128_2, r128_3, (by rw [show (own_b3 p2 p4 p5 p6 p7 p8 p9) = (own_mx (own_mx (own_mx none p7.toInt64) p8.toInt64) p9.toInt64) from by simp [own_b3, own_if, c8_123, c21_125, c34_127]]; exact r128_4), r128_5, r128_6, r128_7, r128_8, r128_9, r128_10, r128_11, r128_12⟩
      · refine own_go (XS.icmpYes X126.here hx rfl (pc0 := 34) (pc' := 44) rfl (hb hby d6_34) rfl (feq c34_127).2 (by decide) (by decide) (Steps.refl _)) ?_
        show own_Fin _ _ _ _ (T126.setTop (mkF m 44 #[rv a1, iv p2, iv p3, iv p4, iv p5, iv p6, iv p7, iv p8, iv p9] []))
        obtain ⟨fs130, hr130, hrun130, hended130, hW130, hsame130⟩ := X126.leave (v := none) (fun _ => rfl)
        refine own_done (X126.returnOut hx Bd.returns (hb hby d6_44) hr130) hrun130 hended130 ⟨_, _, rfl, ?_, ⟨_, rfl⟩, hW130, hsame130.mono (by decide) (by decide)⟩
        show Qph_2 Z a1 p2 p3 p4 p5 p6 p7 p8 p9 zc zo zb ev ps es os h0 n0 _ T126.heap _
        exact ⟨ps2_126, es2_126, os2_126, ev2_126, rfl, N126, Kt126, r126_0, r126_1, r126_2, r126_3, (by rw [show (own_b3 p2 p4 p5 p6 p7 p8 p9) = (own_mx (own_mx none p7.toInt64) p8.toInt64) from by simp [own_b3, own_if, c8_123, c21_125, c34_127]]; exact r126_4), r126_5, r126_6, r126_7, r126_8, r126_9, r126_10, r126_11, r126_12⟩
    · refine own_go (XS.icmpYes X124.here hx rfl (pc0 := 21) (pc' := 31) rfl (hb hby d6_21) rfl (feq c21_125).2 (by decide) (by decide) (Steps.refl _)) ?_
      show own_Fin _ _ _ _ (T124.setTop (mkF m 31 #[rv a1, iv p2, iv p3, iv p4, iv p5, iv p6, iv p7, iv p8, iv p9] []))
      refine own_go (XS.iload X124.here hx rfl (hb hby d6_31) rfl (Steps.refl _)) ?_
      show own_Fin _ _ _ _ (T124.setTop (mkF m 33 #[rv a1, iv p2, iv p3, iv p4, iv p5, iv p6, iv p7, iv p8, iv p9] [(.int p6)]))
      refine own_go (XS.iloadN X124.here hx rfl (hb hby d6_33) rfl (Steps.refl _)) ?_
      show own_Fin _ _ _ _ (T124.setTop (mkF m 34 #[rv a1, iv p2, iv p3, iv p4, iv p5, iv p6, iv p7, iv p8, iv p9] [(.int p2), (.int p6)]))
      by_cases c34_131 : p6 = p2
      · refine own_go (XS.icmpNo X124.here hx rfl (hb hby d6_34) rfl (teq c34_131).2 (Steps.refl _)) ?_
        show own_Fin _ _ _ _ (T124.setTop (mkF m 37 #[rv a1, iv p2, iv p3, iv p4, iv p5, iv p6, iv p7, iv p8, iv p9] []))
        refine own_go (XS.aloadN X124.here hx rfl (hb hby d6_37) rfl rfl (Steps.refl _)) ?_
        show own_Fin _ _ _ _ (T124.setTop (mkF m 38 #[rv a1, iv p2, iv p3, iv p4, iv p5, iv p6, iv p7, iv p8, iv p9] [(.ref a1)]))
        refine own_go (XS.iload X124.here hx rfl (hb hby d6_38) rfl (Steps.refl _)) ?_
        show own_Fin _ _ _ _ (T124.setTop (mkF m 40 #[rv a1, iv p2, iv p3, iv p4, iv p5, iv p6, iv p7, iv p8, iv p9] [(.int p9), (.ref a1)]))
        refine own_go (XS.i2dS X124.here hx rfl (hb hby d6_40) rfl (i2d_w _) (Steps.refl _)) ?_
        show own_Fin _ _ _ _ (T124.setTop (mkF m 41 #[rv a1, iv p2, iv p3, iv p4, iv p5, iv p6, iv p7, iv p8, iv p9] [(.double (FP.l2d p9.toInt64)), (.ref a1)]))
        obtain ⟨cq132, kq132, q132a, q132b, q132c⟩ := isOf hZ rfl r124_0
        obtain ⟨_, _, ⟨T132, L132, k132, n132⟩, -, X132, ⟨Lc132, hQ132, l132, y132, z132⟩, st132⟩ := X124.virtualBack hx (y := (⟨"com/example/tidewalk/tidewalk/problems/RunMeasures", "record", "(D)V"⟩ : MethodName)) (z := (⟨"com/example/tidewalk/tidewalk/problems/RunMeasures", "record", "(D)V"⟩ : MethodName)) hown (mvT hZ (hw _ (List.mem_of_getElem? (i := 42) rfl))) (mvT hZ (hw _ (List.mem_of_getElem? (i := 43) rfl))) (notFace_of_selects (args := #[]) (mvT hZ (hw _ (List.mem_of_getElem? (i := 45) rfl)))) (mvT hZ (hw _ (List.mem_of_getElem? (i := 45) rfl))) (mvT hZ (hw _ (List.mem_of_getElem? (i := 44) rfl))) (by decide) (backOf (W := 0) (rmrc l Z a0 hw [] a1 p9 (3 : Int32) (own_pl zc (own_er zo.toInt64 zb)) p3 (own_mx none p7.toInt64) ev2_124 ps2_124 es2_124 os2_124 T124.heap n0 Z124 r124_0 r124_1 r124_2 r124_3 r124_4 r124_5 r124_6 r124_7 r124_8 r124_9 g_a1 (by decide) (own_Wmx (own_Wn _) p7) r124_10 r124_11 r124_12) hZ (hw _ (List.mem_of_getElem? (i := 46) rfl)) (hw _ (List.mem_of_getElem? (i := 13) rfl)) (by decide) (by decide)) q132a q132c (g := (mkF m 41 #[rv a1, iv p2, iv p3, iv p4, iv p5, iv p6, iv p7, iv p8, iv p9] [(.double (FP.l2d p9.toInt64)), (.ref a1)])) rfl (by rw [hml]; rfl) (Steps.refl _) (argsL := [(.double (FP.l2d p9.toInt64))]) (rest := []) (lenOf pd__28_D_29_V rfl) rfl (by show 2 * 0 + _ ≤ _; exact Nat.le_of_eq rfl) (hb hby d6_41) (fun _ hv => ⟨rfl, rfl, (by decide : 0 + 0 ≤ _), (by decide : 0 + 0 ≤ _)⟩)
        dsimp only [Pt.U, Pt.locs, Pt.cells, Pt.slots] at X132 l132 y132 z132 st132 hQ132
        subst l132 y132 z132
        refine own_go st132 ?_
        obtain ⟨ps2_132, es2_132, os2_132, ev2_132, rfl, Nq132, K132, r132_0, r132_1, r132_2, r132_3, r132_4, r132_5, r132_6, r132_7, r132_8, r132_9, r132_10, r132_11, r132_12⟩ := hQ132
        have r124_0_132 := r124_0.keep K132
        have Z132 : n0 ≤ T132.heap.size := Nat.le_trans Z124 K132.1
        have Kt132 := Kt124.trans K132 (allS (P := fun x => x ∈ _ ∨ _ ≤ x) (Or.inl (List.mem_of_getElem? (i := 0) rfl)) all0)
        have N132 := Fr.app N124 Nq132
        show own_Fin _ _ _ _ (T132.setTop (mkF m 44 #[rv a1, iv p2, iv p3, iv p4, iv p5, iv p6, iv p7, iv p8, iv p9] []))
        obtain ⟨fs133, hr133, hrun133, hended133, hW133, hsame133⟩ := X132.leave (v := none) (fun _ => rfl)
        refine own_done (X132.returnOut hx Bd.returns (hb hby d6_44) hr133) hrun133 hended133 ⟨_, _, rfl, ?_, ⟨_, rfl⟩, hW133, hsame133.mono (by decide) (by decide)⟩
        show Qph_2 Z a1 p2 p3 p4 p5 p6 p7 p8 p9 zc zo zb ev ps es os h0 n0 _ T132.heap _
        exact ⟨ps2_132, es2_132, os2_132, ev2_132, rfl, N132, Kt132, r132_0, r132_1, r132_2, r132_3, (by rw [show (own_b3 p2 p4 p5 p6 p7 p8 p9) = (own_mx (own_mx none p7.toInt64) p9.toInt64) from by simp [own_b3, own_if, c8_123, c21_125, c34_131]]; exact r132_4), r132_5, r132_6, r132_7, r132_8, r132_9, r132_10, r132_11, r132_12⟩
      · refine own_go (XS.icmpYes X124.here hx rfl (pc0 := 34) (pc' := 44) rfl (hb hby d6_34) rfl (feq c34_131).2 (by decide) (by decide) (Steps.refl _)) ?_
        show own_Fin _ _ _ _ (T124.setTop (mkF m 44 #[rv a1, iv p2, iv p3, iv p4, iv p5, iv p6, iv p7, iv p8, iv p9] []))
        obtain ⟨fs134, hr134, hrun134, hended134, hW134, hsame134⟩ := X124.leave (v := none) (fun _ => rfl)
        refine own_done (X124.returnOut hx Bd.returns (hb hby d6_44) hr134) hrun134 hended134 ⟨_, _, rfl, ?_, ⟨_, rfl⟩, hW134, hsame134.mono (by decide) (by decide)⟩
        show Qph_2 Z a1 p2 p3 p4 p5 p6 p7 p8 p9 zc zo zb ev ps es os h0 n0 _ T124.heap _
        exact ⟨ps2_124, es2_124, os2_124, ev2_124, rfl, N124, Kt124, r124_0, r124_1, r124_2, r124_3, (by rw [show (own_b3 p2 p4 p5 p6 p7 p8 p9) = (own_mx none p7.toInt64) from by simp [own_b3, own_if, c8_123, c21_125, c34_131]]; exact r124_4), r124_5, r124_6, r124_7, r124_8, r124_9, r124_10, r124_11, r124_12⟩
  · refine own_go (XS.icmpYes X122.here hx rfl (pc0 := 8) (pc' := 18) rfl (hb hby d6_8) rfl (feq c8_123).2 (by decide) (by decide) (Steps.refl _)) ?_
    show own_Fin _ _ _ _ (T122.setTop (mkF m 18 #[rv a1, iv p2, iv p3, iv p4, iv p5, iv p6, iv p7, iv p8, iv p9] []))
    refine own_go (XS.iload X122.here hx rfl (hb hby d6_18) rfl (Steps.refl _)) ?_
    show own_Fin _ _ _ _ (T122.setTop (mkF m 20 #[rv a1, iv p2, iv p3, iv p4, iv p5, iv p6, iv p7, iv p8, iv p9] [(.int p5)]))
    refine own_go (XS.iloadN X122.here hx rfl (hb hby d6_20) rfl (Steps.refl _)) ?_
    show own_Fin _ _ _ _ (T122.setTop (mkF m 21 #[rv a1, iv p2, iv p3, iv p4, iv p5, iv p6, iv p7, iv p8, iv p9] [(.int p2), (.int p5)]))
    by_cases c21_135 : p5 = p2
    · refine own_go (XS.icmpNo X122.here hx rfl (hb hby d6_21) rfl (teq c21_135).2 (Steps.refl _)) ?_
      show own_Fin _ _ _ _ (T122.setTop (mkF m 24 #[rv a1, iv p2, iv p3, iv p4, iv p5, iv p6, iv p7, iv p8, iv p9] []))
      refine own_go (XS.aloadN X122.here hx rfl (hb hby d6_24) rfl rfl (Steps.refl _)) ?_
      show own_Fin _ _ _ _ (T122.setTop (mkF m 25 #[rv a1, iv p2, iv p3, iv p4, iv p5, iv p6, iv p7, iv p8, iv p9] [(.ref a1)]))
      refine own_go (XS.iload X122.here hx rfl (hb hby d6_25) rfl (Steps.refl _)) ?_
      show own_Fin _ _ _ _ (T122.setTop (mkF m 27 #[rv a1, iv p2, iv p3, iv p4, iv p5, iv p6, iv p7, iv p8, iv p9] [(.int p8), (.ref a1)]))
      refine own_go (XS.i2dS X122.here hx rfl (hb hby d6_27) rfl (i2d_w _) (Steps.refl _)) ?_
      show own_Fin _ _ _ _ (T122.setTop (mkF m 28 #[rv a1, iv p2, iv p3, iv p4, iv p5, iv p6, iv p7, iv p8, iv p9] [(.double (FP.l2d p8.toInt64)), (.ref a1)]))
      obtain ⟨cq136, kq136, q136a, q136b, q136c⟩ := isOf hZ rfl r122_0
      obtain ⟨_, _, ⟨T136, L136, k136, n136⟩, -, X136, ⟨Lc136, hQ136, l136, y136, z136⟩, st136⟩ := X122.virtualBack hx (y := (⟨"com/example/tidewalk/tidewalk/problems/RunMeasures", "record", "(D)V"⟩ : MethodName)) (z := (⟨"com/example/tidewalk/tidewalk/problems/RunMeasures", "record", "(D)V"⟩ : MethodName)) hown (mvT hZ (hw _ (List.mem_of_getElem? (i := 42) rfl))) (mvT hZ (hw _ (List.mem_of_getElem? (i := 43) rfl))) (notFace_of_selects (args := #[]) (mvT hZ (hw _ (List.mem_of_getElem? (i := 45) rfl)))) (mvT hZ (hw _ (List.mem_of_getElem? (i := 45) rfl))) (mvT hZ (hw _ (List.mem_of_getElem? (i := 44) rfl))) (by decide) (backOf (W := 0) (rmrc l Z a0 hw [] a1 p8 (3 : Int32) (own_pl zc (own_er zo.toInt64 zb)) p3 none ev ps es os T122.heap n0 Z122 r122_0 r122_1 r122_2 r122_3 r122_4 r122_5 r122_6 r122_7 r122_8 r122_9 g_a1 (by decide) (own_Wn _) hps hes hos) hZ (hw _ (List.mem_of_getElem? (i := 46) rfl)) (hw _ (List.mem_of_getElem? (i := 13) rfl)) (by decide) (by decide)) q136a q136c (g := (mkF m 28 #[rv a1, iv p2, iv p3, iv p4, iv p5, iv p6, iv p7, iv p8, iv p9] [(.double (FP.l2d p8.toInt64)), (.ref a1)])) rfl (by rw [hml]; rfl) (Steps.refl _) (argsL := [(.double (FP.l2d p8.toInt64))]) (rest := []) (lenOf pd__28_D_29_V rfl) rfl (by show 2 * 0 + _ ≤ _; exact Nat.le_of_eq rfl) (hb hby d6_28) (fun _ hv => ⟨rfl, rfl, (by decide : 0 + 0 ≤ _), (by decide : 0 + 0 ≤ _)⟩)
      dsimp only [Pt.U, Pt.locs, Pt.cells, Pt.slots] at X136 l136 y136 z136 st136 hQ136
      subst l136 y136 z136
      refine own_go st136 ?_
      obtain ⟨ps2_136, es2_136, os2_136, ev2_136, rfl, Nq136, K136, r136_0, r136_1, r136_2, r136_3, r136_4, r136_5, r136_6, r136_7, r136_8, r136_9, r136_10, r136_11, r136_12⟩ := hQ136
      have r122_0_136 := r122_0.keep K136
      have Z136 : n0 ≤ T136.heap.size := Nat.le_trans Z122 K136.1
      have Kt136 := Kt122.trans K136 (allS (P := fun x => x ∈ _ ∨ _ ≤ x) (Or.inl (List.mem_of_getElem? (i := 0) rfl)) all0)
      have N136 := Fr.app N122 Nq136
      show own_Fin _ _ _ _ (T136.setTop (mkF m 31 #[rv a1, iv p2, iv p3, iv p4, iv p5, iv p6, iv p7, iv p8, iv p9] []))
      refine own_go (XS.iload X136.here hx rfl (hb hby d6_31) rfl (Steps.refl _)) ?_
      show own_Fin _ _ _ _ (T136.setTop (mkF m 33 #[rv a1, iv p2, iv p3, iv p4, iv p5, iv p6, iv p7, iv p8, iv p9] [(.int p6)]))
      refine own_go (XS.iloadN X136.here hx rfl (hb hby d6_33) rfl (Steps.refl _)) ?_
      show own_Fin _ _ _ _ (T136.setTop (mkF m 34 #[rv a1, iv p2, iv p3, iv p4, iv p5, iv p6, iv p7, iv p8, iv p9] [(.int p2), (.int p6)]))
      by_cases c34_137 : p6 = p2
      · refine own_go (XS.icmpNo X136.here hx rfl (hb hby d6_34) rfl (teq c34_137).2 (Steps.refl _)) ?_
        show own_Fin _ _ _ _ (T136.setTop (mkF m 37 #[rv a1, iv p2, iv p3, iv p4, iv p5, iv p6, iv p7, iv p8, iv p9] []))
        refine own_go (XS.aloadN X136.here hx rfl (hb hby d6_37) rfl rfl (Steps.refl _)) ?_
        show own_Fin _ _ _ _ (T136.setTop (mkF m 38 #[rv a1, iv p2, iv p3, iv p4, iv p5, iv p6, iv p7, iv p8, iv p9] [(.ref a1)]))
        refine own_go (XS.iload X136.here hx rfl (hb hby d6_38) rfl (Steps.refl _)) ?_
        show own_Fin _ _ _ _ (T136.setTop (mkF m 40 #[rv a1, iv p2, iv p3, iv p4, iv p5, iv p6, iv p7, iv p8, iv p9] [(.int p9), (.ref a1)]))
        refine own_go (XS.i2dS X136.here hx rfl (hb hby d6_40) rfl (i2d_w _) (Steps.refl _)) ?_
        show own_Fin _ _ _ _ (T136.setTop (mkF m 41 #[rv a1, iv p2, iv p3, iv p4, iv p5, iv p6, iv p7, iv p8, iv p9] [(.double (FP.l2d p9.toInt64)), (.ref a1)]))
        obtain ⟨cq138, kq138, q138a, q138b, q138c⟩ := isOf hZ rfl r136_0
        obtain ⟨_, _, ⟨T138, L138, k138, n138⟩, -, X138, ⟨Lc138, hQ138, l138, y138, z138⟩, st138⟩ := X136.virtualBack hx (y := (⟨"com/example/tidewalk/tidewalk/problems/RunMeasures", "record", "(D)V"⟩ : MethodName)) (z := (⟨"com/example/tidewalk/tidewalk/problems/RunMeasures", "record", "(D)V"⟩ : MethodName)) hown (mvT hZ (hw _ (List.mem_of_getElem? (i := 42) rfl))) (mvT hZ (hw _ (List.mem_of_getElem? (i := 43) rfl))) (notFace_of_selects (args := #[]) (mvT hZ (hw _ (List.mem_of_getElem? (i := 45) rfl)))) (mvT hZ (hw _ (List.mem_of_getElem? (i := 45) rfl))) (mvT hZ (hw _ (List.mem_of_getElem? (i := 44) rfl))) (by decide) (backOf (W := 0) (rmrc l Z a0 hw [] a1 p9 (3 : Int32) (own_pl zc (own_er zo.toInt64 zb)) p3 (own_mx none p8.toInt64) ev2_136 ps2_136 es2_136 os2_136 T136.heap n0 Z136 r136_0 r136_1 r136_2 r136_3 r136_4 r136_5 r136_6 r136_7 r136_8 r136_9 g_a1 (by decide) (own_Wmx (own_Wn _) p8) r136_10 r136_11 r136_12) hZ (hw _ (List.mem_of_getElem? (i := 46) rfl)) (hw _ (List.mem_of_getElem? (i := 13) rfl)) (by decide) (by decide)) q138a q138c (g := (mkF m 41 #[rv a1, iv p2, iv p3, iv p4, iv p5, iv p6, iv p7, iv p8, iv p9] [(.double (FP.l2d p9.toInt64)), (.ref a1)])) rfl (by rw [hml]; rfl) (Steps.refl _) (argsL := [(.double (FP.l2d p9.toInt64))]) (rest := []) (lenOf pd__28_D_29_V rfl) rfl (by show 2 * 0 + _ ≤ _; exact Nat.le_of_eq rfl) (hb hby d6_41) (fun _ hv => ⟨rfl, rfl, (by decide : 0 + 0 ≤ _), (by decide : 0 + 0 ≤ _)⟩)
        dsimp only [Pt.U, Pt.locs, Pt.cells, Pt.slots] at X138 l138 y138 z138 st138 hQ138
        subst l138 y138 z138
        refine own_go st138 ?_
        obtain ⟨ps2_138, es2_138, os2_138, ev2_138, rfl, Nq138, K138, r138_0, r138_1, r138_2, r138_3, r138_4, r138_5, r138_6, r138_7, r138_8, r138_9, r138_10, r138_11, r138_12⟩ := hQ138
        have r136_0_138 := r136_0.keep K138
        have Z138 : n0 ≤ T138.heap.size := Nat.le_trans Z136 K138.1
        have Kt138 := Kt136.trans K138 (allS (P := fun x => x ∈ _ ∨ _ ≤ x) (Or.inl (List.mem_of_getElem? (i := 0) rfl)) all0)
        have N138 := Fr.app N136 Nq138
        show own_Fin _ _ _ _ (T138.setTop (mkF m 44 #[rv a1, iv p2, iv p3, iv p4, iv p5, iv p6, iv p7, iv p8, iv p9] []))
        obtain ⟨fs139, hr139, hrun139, hended139, hW139, hsame139⟩ := X138.leave (v := none) (fun _ => rfl)
        refine own_done (X138.returnOut hx Bd.returns (hb hby d6_44) hr139) hrun139 hended139 ⟨_, _, rfl, ?_, ⟨_, rfl⟩, hW139, hsame139.mono (by decide) (by decide)⟩
        show Qph_2 Z a1 p2 p3 p4 p5 p6 p7 p8 p9 zc zo zb ev ps es os h0 n0 _ T138.heap _
        exact ⟨ps2_138, es2_138, os2_138, ev2_138, rfl, N138, Kt138, r138_0, r138_1, r138_2, r138_3, (by rw [show (own_b3 p2 p4 p5 p6 p7 p8 p9) = (own_mx (own_mx none p8.toInt64) p9.toInt64) from by simp [own_b3, own_if, c8_123, c21_135, c34_137]]; exact r138_4), r138_5, r138_6, r138_7, r138_8, r138_9, r138_10, r138_11, r138_12⟩
      · refine own_go (XS.icmpYes X136.here hx rfl (pc0 := 34) (pc' := 44) rfl (hb hby d6_34) rfl (feq c34_137).2 (by decide) (by decide) (Steps.refl _)) ?_
        show own_Fin _ _ _ _ (T136.setTop (mkF m 44 #[rv a1, iv p2, iv p3, iv p4, iv p5, iv p6, iv p7, iv p8, iv p9] []))
        obtain ⟨fs140, hr140, hrun140, hended140, hW140, hsame140⟩ := X136.leave (v := none) (fun _ => rfl)
        refine own_done (X136.returnOut hx Bd.returns (hb hby d6_44) hr140) hrun140 hended140 ⟨_, _, rfl, ?_, ⟨_, rfl⟩, hW140, hsame140.mono (by decide) (by decide)⟩
        show Qph_2 Z a1 p2 p3 p4 p5 p6 p7 p8 p9 zc zo zb ev ps es os h0 n0 _ T136.heap _
        exact ⟨ps2_136, es2_136, os2_136, ev2_136, rfl, N136, Kt136, r136_0, r136_1, r136_2, r136_3, (by rw [show (own_b3 p2 p4 p5 p6 p7 p8 p9) = (own_mx none p8.toInt64) from by simp [own_b3, own_if, c8_123, c21_135, c34_137]]; exact r136_4), r136_5, r136_6, r136_7, r136_8, r136_9, r136_10, r136_11, r136_12⟩
    · refine own_go (XS.icmpYes X122.here hx rfl (pc0 := 21) (pc' := 31) rfl (hb hby d6_21) rfl (feq c21_135).2 (by decide) (by decide) (Steps.refl _)) ?_
      show own_Fin _ _ _ _ (T122.setTop (mkF m 31 #[rv a1, iv p2, iv p3, iv p4, iv p5, iv p6, iv p7, iv p8, iv p9] []))
      refine own_go (XS.iload X122.here hx rfl (hb hby d6_31) rfl (Steps.refl _)) ?_
      show own_Fin _ _ _ _ (T122.setTop (mkF m 33 #[rv a1, iv p2, iv p3, iv p4, iv p5, iv p6, iv p7, iv p8, iv p9] [(.int p6)]))
      refine own_go (XS.iloadN X122.here hx rfl (hb hby d6_33) rfl (Steps.refl _)) ?_
      show own_Fin _ _ _ _ (T122.setTop (mkF m 34 #[rv a1, iv p2, iv p3, iv p4, iv p5, iv p6, iv p7, iv p8, iv p9] [(.int p2), (.int p6)]))
      by_cases c34_141 : p6 = p2
      · refine own_go (XS.icmpNo X122.here hx rfl (hb hby d6_34) rfl (teq c34_141).2 (Steps.refl _)) ?_
        show own_Fin _ _ _ _ (T122.setTop (mkF m 37 #[rv a1, iv p2, iv p3, iv p4, iv p5, iv p6, iv p7, iv p8, iv p9] []))
        refine own_go (XS.aloadN X122.here hx rfl (hb hby d6_37) rfl rfl (Steps.refl _)) ?_
        show own_Fin _ _ _ _ (T122.setTop (mkF m 38 #[rv a1, iv p2, iv p3, iv p4, iv p5, iv p6, iv p7, iv p8, iv p9] [(.ref a1)]))
        refine own_go (XS.iload X122.here hx rfl (hb hby d6_38) rfl (Steps.refl _)) ?_
        show own_Fin _ _ _ _ (T122.setTop (mkF m 40 #[rv a1, iv p2, iv p3, iv p4, iv p5, iv p6, iv p7, iv p8, iv p9] [(.int p9), (.ref a1)]))
        refine own_go (XS.i2dS X122.here hx rfl (hb hby d6_40) rfl (i2d_w _) (Steps.refl _)) ?_
        show own_Fin _ _ _ _ (T122.setTop (mkF m 41 #[rv a1, iv p2, iv p3, iv p4, iv p5, iv p6, iv p7, iv p8, iv p9] [(.double (FP.l2d p9.toInt64)), (.ref a1)]))
        obtain ⟨cq142, kq142, q142a, q142b, q142c⟩ := isOf hZ rfl r122_0
        obtain ⟨_, _, ⟨T142, L142, k142, n142⟩, -, X142, ⟨Lc142, hQ142, l142, y142, z142⟩, st142⟩ := X122.virtualBack hx (y := (⟨"com/example/tidewalk/tidewalk/problems/RunMeasures", "record", "(D)V"⟩ : MethodName)) (z := (⟨"com/example/tidewalk/tidewalk/problems/RunMeasures", "record", "(D)V"⟩ : MethodName)) hown (mvT hZ (hw _ (List.mem_of_getElem? (i := 42) rfl))) (mvT hZ (hw _ (List.mem_of_getElem? (i := 43) rfl))) (notFace_of_selects (args := #[]) (mvT hZ (hw _ (List.mem_of_getElem? (i := 45) rfl)))) (mvT hZ (hw _ (List.mem_of_getElem? (i := 45) rfl))) (mvT hZ (hw _ (List.mem_of_getElem? (i := 44) rfl))) (by decide) (backOf (W := 0) (rmrc l Z a0 hw [] a1 p9 (3 : Int32) (own_pl zc (own_er zo.toInt64 zb)) p3 none ev ps es os T122.heap n0 Z122 r122_0 r122_1 r122_2 r122_3 r122_4 r122_5 r122_6 r122_7 r122_8 r122_9 g_a1 (by decide) (own_Wn _) hps hes hos) hZ (hw _ (List.mem_of_getElem? (i := 46) rfl)) (hw _ (List.mem_of_getElem? (i := 13) rfl)) (by decide) (by decide)) q142a q142c (g := (mkF m 41 #[rv a1, iv p2, iv p3, iv p4, iv p5, iv p6, iv p7, iv p8, iv p9] [(.double (FP.l2d p9.toInt64)), (.ref a1)])) rfl (by rw [hml]; rfl) (Steps.refl _) (argsL := [(.double (FP.l2d p9.toInt64))]) (rest := []) (lenOf pd__28_D_29_V rfl) rfl (by show 2 * 0 + _ ≤ _; exact Nat.le_of_eq rfl) (hb hby d6_41) (fun _ hv => ⟨rfl, rfl, (by decide : 0 + 0 ≤ _), (by decide : 0 + 0 ≤ _)⟩)
        dsimp only [Pt.U, Pt.locs, Pt.cells, Pt.slots] at X142 l142 y142 z142 st142 hQ142
        subst l142 y142 z142
        refine own_go st142 ?_
        obtain ⟨ps2_142, es2_142, os2_142, ev2_142, rfl, Nq142, K142, r142_0, r142_1, r142_2, r142_3, r142_4, r142_5, r142_6, r142_7, r142_8, r142_9, r142_10, r142_11, r142_12⟩ := hQ142
        have r122_0_142 := r122_0.keep K142
        have Z142 : n0 ≤ T142.heap.size := Nat.le_trans Z122 K142.1
        have Kt142 := Kt122.trans K142 (allS (P := fun x => x ∈ _ ∨ _ ≤ x) (Or.inl (List.mem_of_getElem? (i := 0) rfl)) all0)
        have N142 := Fr.app N122 Nq142
        show own_Fin _ _ _ _ (T142.setTop (mkF m 44 #[rv a1, iv p2, iv p3, iv p4, iv p5, iv p6, iv p7, iv p8, iv p9] []))
        obtain ⟨fs143, hr143, hrun143, hended143, hW143, hsame143⟩ := X142.leave (v := none) (fun _ => rfl)
        refine own_done (X142.returnOut hx Bd.returns (hb hby d6_44) hr143) hrun143 hended143 ⟨_, _, rfl, ?_, ⟨_, rfl⟩, hW143, hsame143.mono (by decide) (by decide)⟩
        show Qph_2 Z a1 p2 p3 p4 p5 p6 p7 p8 p9 zc zo zb ev ps es os h0 n0 _ T142.heap _
        exact ⟨ps2_142, es2_142, os2_142, ev2_142, rfl, N142, Kt142, r142_0, r142_1, r142_2, r142_3, (by rw [show (own_b3 p2 p4 p5 p6 p7 p8 p9) = (own_mx none p9.toInt64) from by simp [own_b3, own_if, c8_123, c21_135, c34_141]]; exact r142_4), r142_5, r142_6, r142_7, r142_8, r142_9, r142_10, r142_11, r142_12⟩
      · refine own_go (XS.icmpYes X122.here hx rfl (pc0 := 34) (pc' := 44) rfl (hb hby d6_34) rfl (feq c34_141).2 (by decide) (by decide) (Steps.refl _)) ?_
        show own_Fin _ _ _ _ (T122.setTop (mkF m 44 #[rv a1, iv p2, iv p3, iv p4, iv p5, iv p6, iv p7, iv p8, iv p9] []))
        obtain ⟨fs144, hr144, hrun144, hended144, hW144, hsame144⟩ := X122.leave (v := none) (fun _ => rfl)
        refine own_done (X122.returnOut hx Bd.returns (hb hby d6_44) hr144) hrun144 hended144 ⟨_, _, rfl, ?_, ⟨_, rfl⟩, hW144, hsame144.mono (by decide) (by decide)⟩
        show Qph_2 Z a1 p2 p3 p4 p5 p6 p7 p8 p9 zc zo zb ev ps es os h0 n0 _ T122.heap _
        exact ⟨ps, es, os, ev, rfl, N122, Kt122, r122_0, r122_1, r122_2, r122_3, (by rw [show (own_b3 p2 p4 p5 p6 p7 p8 p9) = none from by simp [own_b3, own_if, c8_123, c21_135, c34_141]]; exact r122_4), r122_5, r122_6, r122_7, r122_8, r122_9, hps, hes, hos⟩
theorem d13_0 : decode prog_43_method_10_code 0 = .ok (.aload_n 0, 1) := by decide +kernel
theorem d13_1 : decode prog_43_method_10_code 1 = .ok (.getfield 30, 3) := by decide +kernel
theorem d13_4 : decode prog_43_method_10_code 4 = .ok (.aload_n 0, 1) := by decide +kernel
theorem d13_5 : decode prog_43_method_10_code 5 = .ok (.getfield 11, 3) := by decide +kernel
theorem d13_8 : decode prog_43_method_10_code 8 = .ok (.aload_n 0, 1) := by decide +kernel
theorem d13_9 : decode prog_43_method_10_code 9 = .ok (.getfield 23, 3) := by decide +kernel
theorem d13_12 : decode prog_43_method_10_code 12 = .ok (.dsub, 1) := by decide +kernel
theorem d13_13 : decode prog_43_method_10_code 13 = .ok (.dadd, 1) := by decide +kernel
theorem d13_14 : decode prog_43_method_10_code 14 = .ok (.aload_n 0, 1) := by decide +kernel
theorem d13_15 : decode prog_43_method_10_code 15 = .ok (.getfield 26, 3) := by decide +kernel
theorem d13_18 : decode prog_43_method_10_code 18 = .ok (.i2d, 1) := by decide +kernel
theorem d13_19 : decode prog_43_method_10_code 19 = .ok (.ddiv, 1) := by decide +kernel
theorem d13_20 : decode prog_43_method_10_code 20 = .ok (.dreturn, 1) := by decide +kernel
theorem ef_be_1 (m : MethodId) (x0 : Addr) : entryFrame m #[(.ref x0)] 1 = mkF m 0 #[.val (.ref x0)] [] := by first | (simp [entryFrame, mkF, argsToLocals, Value.category]; done) | rfl
def Qbe_1 (Z : State) (a1 : Addr) (zc : Option Int64) (zo : Int32) (zb : Option Int64) (h0 : Heap) (n0 : Nat) (v : Option Value) (h : Heap) (L : List Loc) : Prop := v = some (.double (FP.ddiv (own_cl (own_pl zc (own_er zo.toInt64 zb))) (FP.l2d (1 : Int32).toInt64))) ∧ Fr n0 L ∧ h = h0
abbrev Gbe_1 (Z : State) (a1 : Addr) (zc : Option Int64) (zo : Int32) (zb : Option Int64) (h0 : Heap) (n0 : Nat) (s : State) : Outcome → State → Prop := fun o U' => ∃ v L, o = .returned v ∧ Qbe_1 Z a1 zc zo zb h0 n0 v U'.heap L ∧ FrameEnd s o U' L ({ frames := 0, cells := 0, slots := 0, locals := 0 } : Room).cells ({ frames := 0, cells := 0, slots := 0, locals := 0 } : Room).slots
set_option maxRecDepth 65536 in
set_option maxHeartbeats 40000000 in
theorem rmbe_1 (l : Launch) (Z : State) (a0 : Array Value) (hw : ∀ d ∈ tables_1, d.before a0 Z = true) (ws : List Jvm.Cond) (a1 : Addr) (zc : Option Int64) (zo : Int32) (zb : Option Int64) (h0 : Heap) (n0 : Nat) (Z0 : n0 ≤ h0.size) (F_periods_a1 : Fld Z h0 a1 "com/example/tidewalk/tidewalk/problems/RunMeasures" "periods" "I" (.int (1 : Int32))) (F_closedBestErrorSum_a1 : Fld Z h0 a1 "com/example/tidewalk/tidewalk/problems/RunMeasures" "closedBestErrorSum" "D" (.double (own_cl zc))) (F_optimum_a1 : Fld Z h0 a1 "com/example/tidewalk/tidewalk/problems/RunMeasures" "optimum" "D" (.double (FP.l2d zo.toInt64))) (F_best_a1 : Fld Z h0 a1 "com/example/tidewalk/tidewalk/problems/RunMeasures" "best" "D" (.double (own_be zb))) (hwb : own_W 2147483648 zb) (hc : own_W 17179869184 zc) :
    MetFree l (⟨"com/example/tidewalk/tidewalk/problems/RunMeasures", "bestErrorBeforeChange", "()D"⟩ : MethodName) (head1 (Jvm.Cond.code (⟨"com/example/tidewalk/tidewalk/problems/RunMeasures", "bestErrorBeforeChange", "()D"⟩ : MethodName) prog_43_method_10_code 1 (some .double) :: ws) ({ frames := 0, cells := 0, slots := 0, locals := 0 } : Room)) (fun a U => a = #[(.ref a1)] ∧ Z.Warmed39 U.vm ∧ U.heap = h0) (fun _ _ _ _ _ => True) (fun _ U o U' => ∃ v L, o = .returned v ∧ Qbe_1 Z a1 zc zo zb h0 n0 v U'.heap L ∧ FrameEnd U o U' L ({ frames := 0, cells := 0, slots := 0, locals := 0 } : Room).cells ({ frames := 0, cells := 0, slots := 0, locals := 0 } : Room).slots) := by
  refine MetFree.of_bodySF (plainFor_of_name pn_com_example_tidewalk_tidewalk_problems_RunMeasures) hisR ?_
  intro p e s m args below meth c s₁ Bd hml0 hP hK
  obtain ⟨rfl, hZ, hh⟩ := hP
  have hx := Bd.exec
  have hby := Bd.bytes
  have hml : c.maxLocals = 1 := hml0
  have hown : s.vm.findClass "com/example/tidewalk/tidewalk/problems/RunMeasures" = some m.cls := findClass_of_methodNamed Bd.named
  have hnm := (name_of_methodNamed Bd.named Bd.method).1
  have X0 : Stand p l e ({ frames := 0, cells := 0, slots := 0, locals := 0 } : Room) s m #[(.ref a1)] below meth c s₁ [] 0 0 := Stand.of_body Bd
  have e0 : s₁.heap = h0 := by rw [← hh, Bd.state]; rfl
  have es0 : s.heap = h0 := hh
  have N0 := Fr.nil n0
  show own_Fin p e below (Gbe_1 Z a1 zc zo zb h0 n0 s) (s₁.setTop (entryFrame m #[(.ref a1)] 1))
  rw [ef_be_1 m a1]
  refine own_go (XS.aloadN X0.here hx rfl (hb hby d13_0) rfl rfl (Steps.refl _)) ?_
  show own_Fin _ _ _ _ (s₁.setTop (mkF m 1 #[rv a1] [(.ref a1)]))
  obtain ⟨T145, X145, e145, st145⟩ := getF X0 hx hZ hown (host := "") (Or.inl (hw _ (List.mem_of_getElem? (i := 70) rfl))) Via.refl e0 F_closedBestErrorSum_a1 (g := (mkF m 1 #[rv a1] [(.ref a1)])) rfl rfl (hb hby d13_1)
  refine own_by st145 ?_
  show own_Fin _ _ _ _ (T145.setTop (mkF m 4 #[rv a1] [(.double (own_cl zc))]))
  refine own_go (XS.aloadN X145.here hx rfl (hb hby d13_4) rfl rfl (Steps.refl _)) ?_
  show own_Fin _ _ _ _ (T145.setTop (mkF m 5 #[rv a1] [(.ref a1), (.double (own_cl zc))]))
  obtain ⟨T146, X146, e146, st146⟩ := getF X145 hx hZ hown (host := "") (Or.inl (hw _ (List.mem_of_getElem? (i := 21) rfl))) Via.refl e145 F_optimum_a1 (g := (mkF m 5 #[rv a1] [(.ref a1), (.double (own_cl zc))])) rfl rfl (hb hby d13_5)
  refine own_by st146 ?_
  show own_Fin _ _ _ _ (T146.setTop (mkF m 8 #[rv a1] [(.double (FP.l2d zo.toInt64)), (.double (own_cl zc))]))
  refine own_go (XS.aloadN X146.here hx rfl (hb hby d13_8) rfl rfl (Steps.refl _)) ?_
  show own_Fin _ _ _ _ (T146.setTop (mkF m 9 #[rv a1] [(.ref a1), (.double (FP.l2d zo.toInt64)), (.double (own_cl zc))]))
  obtain ⟨T147, X147, e147, st147⟩ := getF X146 hx hZ hown (host := "") (Or.inl (hw _ (List.mem_of_getElem? (i := 26) rfl))) Via.refl e146 F_best_a1 (g := (mkF m 9 #[rv a1] [(.ref a1), (.double (FP.l2d zo.toInt64)), (.double (own_cl zc))])) rfl rfl (hb hby d13_9)
  refine own_by st147 ?_
  show own_Fin _ _ _ _ (T147.setTop (mkF m 12 #[rv a1] [(.double (own_be zb)), (.double (FP.l2d zo.toInt64)), (.double (own_cl zc))]))
  refine own_go (XS.dsubS X147.here hx rfl (hb hby d13_12) rfl (by rw [own_sub zo hwb]; exact own_cn _) (own_sub zo hwb) (Steps.refl _)) ?_
  show own_Fin _ _ _ _ (T147.setTop (mkF m 13 #[rv a1] [(.double (own_cl (own_er zo.toInt64 zb))), (.double (own_cl zc))]))
  refine own_go (XS.daddS X147.here hx rfl (hb hby d13_13) rfl (by rw [own_add hc (own_Wer hwb) (by decide) (by decide)]; exact own_cn _) (own_add hc (own_Wer hwb) (by decide) (by decide)) (Steps.refl _)) ?_
  show own_Fin _ _ _ _ (T147.setTop (mkF m 14 #[rv a1] [(.double (own_cl (own_pl zc (own_er zo.toInt64 zb))))]))
  refine own_go (XS.aloadN X147.here hx rfl (hb hby d13_14) rfl rfl (Steps.refl _)) ?_
  show own_Fin _ _ _ _ (T147.setTop (mkF m 15 #[rv a1] [(.ref a1), (.double (own_cl (own_pl zc (own_er zo.toInt64 zb))))]))
  obtain ⟨T148, X148, e148, st148⟩ := getF X147 hx hZ hown (host := "") (Or.inl (hw _ (List.mem_of_getElem? (i := 36) rfl))) Via.refl e147 F_periods_a1 (g := (mkF m 15 #[rv a1] [(.ref a1), (.double (own_cl (own_pl zc (own_er zo.toInt64 zb))))])) rfl rfl (hb hby d13_15)
  refine own_by st148 ?_
  show own_Fin _ _ _ _ (T148.setTop (mkF m 18 #[rv a1] [(.int (1 : Int32)), (.double (own_cl (own_pl zc (own_er zo.toInt64 zb))))]))
  refine own_go (XS.i2dS X148.here hx rfl (hb hby d13_18) rfl (i2d_w _) (Steps.refl _)) ?_
  show own_Fin _ _ _ _ (T148.setTop (mkF m 19 #[rv a1] [(.double (FP.l2d (1 : Int32).toInt64)), (.double (own_cl (own_pl zc (own_er zo.toInt64 zb))))]))
  refine own_go (XS.ddivS X148.here hx rfl (hb hby d13_19) rfl (own_dn _ (by decide)) rfl (Steps.refl _)) ?_
  show own_Fin _ _ _ _ (T148.setTop (mkF m 20 #[rv a1] [(.double (FP.ddiv (own_cl (own_pl zc (own_er zo.toInt64 zb))) (FP.l2d (1 : Int32).toInt64)))]))
  obtain ⟨fs149, hr149, hrun149, hended149, hW149, hsame149⟩ := X148.leave (v := some (.double (FP.ddiv (own_cl (own_pl zc (own_er zo.toInt64 zb))) (FP.l2d (1 : Int32).toInt64)))) (fun h => by rw [Bd.returns] at h; cases h)
  refine own_done (retOut X148 hx Bd.returns rfl (Or.inr (Or.inr (Or.inl ⟨rfl, rfl, _, rfl⟩))) (hb hby d13_20) hr149) hrun149 hended149 ⟨_, _, rfl, ?_, ⟨_, rfl⟩, hW149, hsame149.mono (by decide) (by decide)⟩
  show Qbe_1 Z a1 zc zo zb h0 n0 _ T148.heap _
  rw [e148]
  exact ⟨rfl, N0, rfl⟩
theorem ef_be_2 (m : MethodId) (x0 : Addr) : entryFrame m #[(.ref x0)] 1 = mkF m 0 #[.val (.ref x0)] [] := by first | (simp [entryFrame, mkF, argsToLocals, Value.category]; done) | rfl
def Qbe_2 (Z : State) (a1 : Addr) (zc : Option Int64) (zo : Int32) (zb : Option Int64) (h0 : Heap) (n0 : Nat) (v : Option Value) (h : Heap) (L : List Loc) : Prop := v = some (.double (FP.ddiv (own_cl (own_pl zc (own_er zo.toInt64 zb))) (FP.l2d (2 : Int32).toInt64))) ∧ Fr n0 L ∧ h = h0
abbrev Gbe_2 (Z : State) (a1 : Addr) (zc : Option Int64) (zo : Int32) (zb : Option Int64) (h0 : Heap) (n0 : Nat) (s : State) : Outcome → State → Prop := fun o U' => ∃ v L, o = .returned v ∧ Qbe_2 Z a1 zc zo zb h0 n0 v U'.heap L ∧ FrameEnd s o U' L ({ frames := 0, cells := 0, slots := 0, locals := 0 } : Room).cells ({ frames := 0, cells := 0, slots := 0, locals := 0 } : Room).slots
set_option maxRecDepth 65536 in
set_option maxHeartbeats 40000000 in
theorem rmbe_2 (l : Launch) (Z : State) (a0 : Array Value) (hw : ∀ d ∈ tables_1, d.before a0 Z = true) (ws : List Jvm.Cond) (a1 : Addr) (zc : Option Int64) (zo : Int32) (zb : Option Int64) (h0 : Heap) (n0 : Nat) (Z0 : n0 ≤ h0.size) (F_periods_a1 : Fld Z h0 a1 "com/example/tidewalk/tidewalk/problems/RunMeasures" "periods" "I" (.int (2 : Int32))) (F_closedBestErrorSum_a1 : Fld Z h0 a1 "com/example/tidewalk/tidewalk/problems/RunMeasures" "closedBestErrorSum" "D" (.double (own_cl zc))) (F_optimum_a1 : Fld Z h0 a1 "com/example/tidewalk/tidewalk/problems/RunMeasures" "optimum" "D" (.double (FP.l2d zo.toInt64))) (F_best_a1 : Fld Z h0 a1 "com/example/tidewalk/tidewalk/problems/RunMeasures" "best" "D" (.double (own_be zb))) (hwb : own_W 2147483648 zb) (hc : own_W 17179869184 zc) :
    MetFree l (⟨"com/example/tidewalk/tidewalk/problems/RunMeasures", "bestErrorBeforeChange", "()D"⟩ : MethodName) (head1 (Jvm.Cond.code (⟨"com/example/tidewalk/tidewalk/problems/RunMeasures", "bestErrorBeforeChange", "()D"⟩ : MethodName) prog_43_method_10_code 1 (some .double) :: ws) ({ frames := 0, cells := 0, slots := 0, locals := 0 } : Room)) (fun a U => a = #[(.ref a1)] ∧ Z.Warmed39 U.vm ∧ U.heap = h0) (fun _ _ _ _ _ => True) (fun _ U o U' => ∃ v L, o = .returned v ∧ Qbe_2 Z a1 zc zo zb h0 n0 v U'.heap L ∧ FrameEnd U o U' L ({ frames := 0, cells := 0, slots := 0, locals := 0 } : Room).cells ({ frames := 0, cells := 0, slots := 0, locals := 0 } : Room).slots) := by
  refine MetFree.of_bodySF (plainFor_of_name pn_com_example_tidewalk_tidewalk_problems_RunMeasures) hisR ?_
  intro p e s m args below meth c s₁ Bd hml0 hP hK
  obtain ⟨rfl, hZ, hh⟩ := hP
  have hx := Bd.exec
  have hby := Bd.bytes
  have hml : c.maxLocals = 1 := hml0
  have hown : s.vm.findClass "com/example/tidewalk/tidewalk/problems/RunMeasures" = some m.cls := findClass_of_methodNamed Bd.named
  have hnm := (name_of_methodNamed Bd.named Bd.method).1
  have X0 : Stand p l e ({ frames := 0, cells := 0, slots := 0, locals := 0 } : Room) s m #[(.ref a1)] below meth c s₁ [] 0 0 := Stand.of_body Bd
  have e0 : s₁.heap = h0 := by rw [← hh, Bd.state]; rfl
  have es0 : s.heap = h0 := hh
  have N0 := Fr.nil n0
  show own_Fin p e below (Gbe_2 Z a1 zc zo zb h0 n0 s) (s₁.setTop (entryFrame m #[(.ref a1)] 1))
  rw [ef_be_2 m a1]
  refine own_go (XS.aloadN X0.here hx rfl (hb hby d13_0) rfl rfl (Steps.refl _)) ?_
  show own_Fin _ _ _ _ (s₁.setTop (mkF m 1 #[rv a1] [(.ref a1)]))
  obtain ⟨T150, X150, e150, st150⟩ := getF X0 hx hZ hown (host := "") (Or.inl (hw _ (List.mem_of_getElem? (i := 70) rfl))) Via.refl e0 F_closedBestErrorSum_a1 (g := (mkF m 1 #[rv a1] [(.ref a1)])) rfl rfl (hb hby d13_1)
  refine own_by st150 ?_
  show own_Fin _ _ _ _ (T150.setTop (mkF m 4 #[rv a1] [(.double (own_cl zc))]))
  refine own_go (XS.aloadN X150.here hx rfl (hb hby d13_4) rfl rfl (Steps.refl _)) ?_
  show own_Fin _ _ _ _ (T150.setTop (mkF m 5 #[rv a1] [(.ref a1), (.double (own_cl zc))]))
  obtain ⟨T151, X151, e151, st151⟩ := getF X150 hx hZ hown (host := "") (Or.inl (hw _ (List.mem_of_getElem? (i := 21) rfl))) Via.refl e150 F_optimum_a1 (g := (mkF m 5 #[rv a1] [(.ref a1), (.double (own_cl zc))])) rfl rfl (hb hby d13_5)
  refine own_by st151 ?_
  show own_Fin _ _ _ _ (T151.setTop (mkF m 8 #[rv a1] [(.double (FP.l2d zo.toInt64)), (.double (own_cl zc))]))
  refine own_go (XS.aloadN X151.here hx rfl (hb hby d13_8) rfl rfl (Steps.refl _)) ?_
  show own_Fin _ _ _ _ (T151.setTop (mkF m 9 #[rv a1] [(.ref a1), (.double (FP.l2d zo.toInt64)), (.double (own_cl zc))]))
  obtain ⟨T152, X152, e152, st152⟩ := getF X151 hx hZ hown (host := "") (Or.inl (hw _ (List.mem_of_getElem? (i := 26) rfl))) Via.refl e151 F_best_a1 (g := (mkF m 9 #[rv a1] [(.ref a1), (.double (FP.l2d zo.toInt64)), (.double (own_cl zc))])) rfl rfl (hb hby d13_9)
  refine own_by st152 ?_
  show own_Fin _ _ _ _ (T152.setTop (mkF m 12 #[rv a1] [(.double (own_be zb)), (.double (FP.l2d zo.toInt64)), (.double (own_cl zc))]))
  refine own_go (XS.dsubS X152.here hx rfl (hb hby d13_12) rfl (by rw [own_sub zo hwb]; exact own_cn _) (own_sub zo hwb) (Steps.refl _)) ?_
  show own_Fin _ _ _ _ (T152.setTop (mkF m 13 #[rv a1] [(.double (own_cl (own_er zo.toInt64 zb))), (.double (own_cl zc))]))
  refine own_go (XS.daddS X152.here hx rfl (hb hby d13_13) rfl (by rw [own_add hc (own_Wer hwb) (by decide) (by decide)]; exact own_cn _) (own_add hc (own_Wer hwb) (by decide) (by decide)) (Steps.refl _)) ?_
  show own_Fin _ _ _ _ (T152.setTop (mkF m 14 #[rv a1] [(.double (own_cl (own_pl zc (own_er zo.toInt64 zb))))]))
  refine own_go (XS.aloadN X152.here hx rfl (hb hby d13_14) rfl rfl (Steps.refl _)) ?_
  show own_Fin _ _ _ _ (T152.setTop (mkF m 15 #[rv a1] [(.ref a1), (.double (own_cl (own_pl zc (own_er zo.toInt64 zb))))]))
  obtain ⟨T153, X153, e153, st153⟩ := getF X152 hx hZ hown (host := "") (Or.inl (hw _ (List.mem_of_getElem? (i := 36) rfl))) Via.refl e152 F_periods_a1 (g := (mkF m 15 #[rv a1] [(.ref a1), (.double (own_cl (own_pl zc (own_er zo.toInt64 zb))))])) rfl rfl (hb hby d13_15)
  refine own_by st153 ?_
  show own_Fin _ _ _ _ (T153.setTop (mkF m 18 #[rv a1] [(.int (2 : Int32)), (.double (own_cl (own_pl zc (own_er zo.toInt64 zb))))]))
  refine own_go (XS.i2dS X153.here hx rfl (hb hby d13_18) rfl (i2d_w _) (Steps.refl _)) ?_
  show own_Fin _ _ _ _ (T153.setTop (mkF m 19 #[rv a1] [(.double (FP.l2d (2 : Int32).toInt64)), (.double (own_cl (own_pl zc (own_er zo.toInt64 zb))))]))
  refine own_go (XS.ddivS X153.here hx rfl (hb hby d13_19) rfl (own_dn _ (by decide)) rfl (Steps.refl _)) ?_
  show own_Fin _ _ _ _ (T153.setTop (mkF m 20 #[rv a1] [(.double (FP.ddiv (own_cl (own_pl zc (own_er zo.toInt64 zb))) (FP.l2d (2 : Int32).toInt64)))]))
  obtain ⟨fs154, hr154, hrun154, hended154, hW154, hsame154⟩ := X153.leave (v := some (.double (FP.ddiv (own_cl (own_pl zc (own_er zo.toInt64 zb))) (FP.l2d (2 : Int32).toInt64)))) (fun h => by rw [Bd.returns] at h; cases h)
  refine own_done (retOut X153 hx Bd.returns rfl (Or.inr (Or.inr (Or.inl ⟨rfl, rfl, _, rfl⟩))) (hb hby d13_20) hr154) hrun154 hended154 ⟨_, _, rfl, ?_, ⟨_, rfl⟩, hW154, hsame154.mono (by decide) (by decide)⟩
  show Qbe_2 Z a1 zc zo zb h0 n0 _ T153.heap _
  rw [e153]
  exact ⟨rfl, N0, rfl⟩
theorem ef_be_3 (m : MethodId) (x0 : Addr) : entryFrame m #[(.ref x0)] 1 = mkF m 0 #[.val (.ref x0)] [] := by first | (simp [entryFrame, mkF, argsToLocals, Value.category]; done) | rfl
def Qbe_3 (Z : State) (a1 : Addr) (zc : Option Int64) (zo : Int32) (zb : Option Int64) (h0 : Heap) (n0 : Nat) (v : Option Value) (h : Heap) (L : List Loc) : Prop := v = some (.double (FP.ddiv (own_cl (own_pl zc (own_er zo.toInt64 zb))) (FP.l2d (3 : Int32).toInt64))) ∧ Fr n0 L ∧ h = h0
abbrev Gbe_3 (Z : State) (a1 : Addr) (zc : Option Int64) (zo : Int32) (zb : Option Int64) (h0 : Heap) (n0 : Nat) (s : State) : Outcome → State → Prop := fun o U' => ∃ v L, o = .returned v ∧ Qbe_3 Z a1 zc zo zb h0 n0 v U'.heap L ∧ FrameEnd s o U' L ({ frames := 0, cells := 0, slots := 0, locals := 0 } : Room).cells ({ frames := 0, cells := 0, slots := 0, locals := 0 } : Room).slots
set_option maxRecDepth 65536 in
set_option maxHeartbeats 40000000 in
theorem rmbe_3 (l : Launch) (Z : State) (a0 : Array Value) (hw : ∀ d ∈ tables_1, d.before a0 Z = true) (ws : List Jvm.Cond) (a1 : Addr) (zc : Option Int64) (zo : Int32) (zb : Option Int64) (h0 : Heap) (n0 : Nat) (Z0 : n0 ≤ h0.size) (F_periods_a1 : Fld Z h0 a1 "com/example/tidewalk/tidewalk/problems/RunMeasures" "periods" "I" (.int (3 : Int32))) (F_closedBestErrorSum_a1 : Fld Z h0 a1 "com/example/tidewalk/tidewalk/problems/RunMeasures" "closedBestErrorSum" "D" (.double (own_cl zc))) (F_optimum_a1 : Fld Z h0 a1 "com/example/tidewalk/tidewalk/problems/RunMeasures" "optimum" "D" (.double (FP.l2d zo.toInt64))) (F_best_a1 : Fld Z h0 a1 "com/example/tidewalk/tidewalk/problems/RunMeasures" "best" "D" (.double (own_be zb))) (hwb : own_W 2147483648 zb) (hc : own_W 17179869184 zc) :
    MetFree l (⟨"com/example/tidewalk/tidewalk/problems/RunMeasures", "bestErrorBeforeChange", "()D"⟩ : MethodName) (head1 (Jvm.Cond.code (⟨"com/example/tidewalk/tidewalk/problems/RunMeasures", "bestErrorBeforeChange", "()D"⟩ : MethodName) prog_43_method_10_code 1 (some .double) :: ws) ({ frames := 0, cells := 0, slots := 0, locals := 0 } : Room)) (fun a U => a = #[(.ref a1)] ∧ Z.Warmed39 U.vm ∧ U.heap = h0) (fun _ _ _ _ _ => True) (fun _ U o U' => ∃ v L, o = .returned v ∧ Qbe_3 Z a1 zc zo zb h0 n0 v U'.heap L ∧ FrameEnd U o U' L ({ frames := 0, cells := 0, slots := 0, locals := 0 } : Room).cells ({ frames := 0, cells := 0, slots := 0, locals := 0 } : Room).slots) := by
  refine MetFree.of_bodySF (plainFor_of_name pn_com_example_tidewalk_tidewalk_problems_RunMeasures) hisR ?_
  intro p e s m args below meth c s₁ Bd hml0 hP hK
  obtain ⟨rfl, hZ, hh⟩ := hP
  have hx := Bd.exec
  have hby := Bd.bytes
  have hml : c.maxLocals = 1 := hml0
  have hown : s.vm.findClass "com/example/tidewalk/tidewalk/problems/RunMeasures" = some m.cls := findClass_of_methodNamed Bd.named
  have hnm := (name_of_methodNamed Bd.named Bd.method).1
  have X0 : Stand p l e ({ frames := 0, cells := 0, slots := 0, locals := 0 } : Room) s m #[(.ref a1)] below meth c s₁ [] 0 0 := Stand.of_body Bd
  have e0 : s₁.heap = h0 := by rw [← hh, Bd.state]; rfl
  have es0 : s.heap = h0 := hh
  have N0 := Fr.nil n0
  show own_Fin p e below (Gbe_3 Z a1 zc zo zb h0 n0 s) (s₁.setTop (entryFrame m #[(.ref a1)] 1))
  rw [ef_be_3 m a1]
  refine own_go (XS.aloadN X0.here hx rfl (hb hby d13_0) rfl rfl (Steps.refl _)) ?_
  show own_Fin _ _ _ _ (s₁.setTop (mkF m 1 #[rv a1] [(.ref a1)]))
  obtain ⟨T155, X155, e155, st155⟩ := getF X0 hx hZ hown (host := "") (Or.inl (hw _ (List.mem_of_getElem? (i := 70) rfl))) Via.refl e0 F_closedBestErrorSum_a1 (g := (mkF m 1 #[rv a1] [(.ref a1)])) rfl rfl (hb hby d13_1)
  refine own_by st155 ?_
  show own_Fin _ _ _ _ (T155.setTop (mkF m 4 #[rv a1] [(.double (own_cl zc))]))
  refine own_go (XS.aloadN X155.here hx rfl (hb hby d13_4) rfl rfl (Steps.refl _)) ?_
  show own_Fin _ _ _ _ (T155.setTop (mkF m 5 #[rv a1] [(.ref a1), (.double (own_cl zc))]))
  obtain ⟨T156, X156, e156, st156⟩ := getF X155 hx hZ hown (host := "") (Or.inl (hw _ (List.mem_of_getElem? (i := 21) rfl))) Via.refl e155 F_optimum_a1 (g := (mkF m 5 #[rv a1] [(.ref a1), (.double (own_cl zc))])) rfl rfl (hb hby d13_5)
  refine own_by st156 ?_
  show own_Fin _ _ _ _ (T156.setTop (mkF m 8 #[rv a1] [(.double (FP.l2d zo.toInt64)), (.double (own_cl zc))]))
  refine own_go (XS.aloadN X156.here hx rfl (hb hby d13_8) rfl rfl (Steps.refl _)) ?_
  show own_Fin _ _ _ _ (T156.setTop (mkF m 9 #[rv a1] [(.ref a1), (.double (FP.l2d zo.toInt64)), (.double (own_cl zc))]))
  obtain ⟨T157, X157, e157, st157⟩ := getF X156 hx hZ hown (host := "") (Or.inl (hw _ (List.mem_of_getElem? (i := 26) rfl))) Via.refl e156 F_best_a1 (g := (mkF m 9 #[rv a1] [(.ref a1), (.double (FP.l2d zo.toInt64)), (.double (own_cl zc))])) rfl rfl (hb hby d13_9)
  refine own_by st157 ?_
  show own_Fin _ _ _ _ (T157.setTop (mkF m 12 #[rv a1] [(.double (own_be zb)), (.double (FP.l2d zo.toInt64)), (.double (own_cl zc))]))
  refine own_go (XS.dsubS X157.here hx rfl (hb hby d13_12) rfl (by rw [own_sub zo hwb]; exact own_cn _) (own_sub zo hwb) (Steps.refl _)) ?_
  show own_Fin _ _ _ _ (T157.setTop (mkF m 13 #[rv a1] [(.double (own_cl (own_er zo.toInt64 zb))), (.double (own_cl zc))]))
  refine own_go (XS.daddS X157.here hx rfl (hb hby d13_13) rfl (by rw [own_add hc (own_Wer hwb) (by decide) (by decide)]; exact own_cn _) (own_add hc (own_Wer hwb) (by decide) (by decide)) (Steps.refl _)) ?_
  show own_Fin _ _ _ _ (T157.setTop (mkF m 14 #[rv a1] [(.double (own_cl (own_pl zc (own_er zo.toInt64 zb))))]))
  refine own_go (XS.aloadN X157.here hx rfl (hb hby d13_14) rfl rfl (Steps.refl _)) ?_
  show own_Fin _ _ _ _ (T157.setTop (mkF m 15 #[rv a1] [(.ref a1), (.double (own_cl (own_pl zc (own_er zo.toInt64 zb))))]))
  obtain ⟨T158, X158, e158, st158⟩ := getF X157 hx hZ hown (host := "") (Or.inl (hw _ (List.mem_of_getElem? (i := 36) rfl))) Via.refl e157 F_periods_a1 (g := (mkF m 15 #[rv a1] [(.ref a1), (.double (own_cl (own_pl zc (own_er zo.toInt64 zb))))])) rfl rfl (hb hby d13_15)
  refine own_by st158 ?_
  show own_Fin _ _ _ _ (T158.setTop (mkF m 18 #[rv a1] [(.int (3 : Int32)), (.double (own_cl (own_pl zc (own_er zo.toInt64 zb))))]))
  refine own_go (XS.i2dS X158.here hx rfl (hb hby d13_18) rfl (i2d_w _) (Steps.refl _)) ?_
  show own_Fin _ _ _ _ (T158.setTop (mkF m 19 #[rv a1] [(.double (FP.l2d (3 : Int32).toInt64)), (.double (own_cl (own_pl zc (own_er zo.toInt64 zb))))]))
  refine own_go (XS.ddivS X158.here hx rfl (hb hby d13_19) rfl (own_dn _ (by decide)) rfl (Steps.refl _)) ?_
  show own_Fin _ _ _ _ (T158.setTop (mkF m 20 #[rv a1] [(.double (FP.ddiv (own_cl (own_pl zc (own_er zo.toInt64 zb))) (FP.l2d (3 : Int32).toInt64)))]))
  obtain ⟨fs159, hr159, hrun159, hended159, hW159, hsame159⟩ := X158.leave (v := some (.double (FP.ddiv (own_cl (own_pl zc (own_er zo.toInt64 zb))) (FP.l2d (3 : Int32).toInt64)))) (fun h => by rw [Bd.returns] at h; cases h)
  refine own_done (retOut X158 hx Bd.returns rfl (Or.inr (Or.inr (Or.inl ⟨rfl, rfl, _, rfl⟩))) (hb hby d13_20) hr159) hrun159 hended159 ⟨_, _, rfl, ?_, ⟨_, rfl⟩, hW159, hsame159.mono (by decide) (by decide)⟩
  show Qbe_3 Z a1 zc zo zb h0 n0 _ T158.heap _
  rw [e158]
  exact ⟨rfl, N0, rfl⟩
theorem d15_0 : decode jdk_29_method_66_code 0 = .ok (.lload_n 0, 1) := by decide +kernel
theorem d15_1 : decode jdk_29_method_66_code 1 = .ok (.lload_n 2, 1) := by decide +kernel
theorem d15_2 : decode jdk_29_method_66_code 2 = .ok (.lcmp, 1) := by decide +kernel
theorem d15_3 : decode jdk_29_method_66_code 3 = .ok (.ifCond .lt 7, 3) := by decide +kernel
theorem d15_6 : decode jdk_29_method_66_code 6 = .ok (.lload_n 0, 1) := by decide +kernel
theorem d15_7 : decode jdk_29_method_66_code 7 = .ok (.goto 4, 3) := by decide +kernel
theorem d15_10 : decode jdk_29_method_66_code 10 = .ok (.lload_n 2, 1) := by decide +kernel
theorem d15_11 : decode jdk_29_method_66_code 11 = .ok (.lreturn, 1) := by decide +kernel
theorem ef_mj (m : MethodId) (x0 : Int64) (x1 : Int64) : entryFrame m #[(.long x0), (.long x1)] 4 = mkF m 0 #[.val (.long x0), .second, .val (.long x1), .second] [] := by first | (simp [entryFrame, mkF, argsToLocals, Value.category]; done) | rfl
def Qmj (Z : State) (q1 : Int64) (q2 : Int64) (h0 : Heap) (n0 : Nat) (v : Option Value) (h : Heap) (L : List Loc) : Prop := v = some (.long (own_mxl q1 q2)) ∧ Fr n0 L ∧ h = h0
abbrev Gmj (Z : State) (q1 : Int64) (q2 : Int64) (h0 : Heap) (n0 : Nat) (s : State) : Outcome → State → Prop := fun o U' => ∃ v L, o = .returned v ∧ Qmj Z q1 q2 h0 n0 v U'.heap L ∧ FrameEnd s o U' L ({ frames := 0, cells := 0, slots := 0, locals := 0 } : Room).cells ({ frames := 0, cells := 0, slots := 0, locals := 0 } : Room).slots
set_option maxRecDepth 65536 in
set_option maxHeartbeats 40000000 in
theorem rmmj (l : Launch) (Z : State) (a0 : Array Value) (hw : ∀ d ∈ tables_1, d.before a0 Z = true) (ws : List Jvm.Cond) (q1 : Int64) (q2 : Int64) (h0 : Heap) (n0 : Nat) (Z0 : n0 ≤ h0.size)  :
    MetFree l (⟨"java/lang/Math", "max", "(JJ)J"⟩ : MethodName) (head1 (Jvm.Cond.code (⟨"java/lang/Math", "max", "(JJ)J"⟩ : MethodName) jdk_29_method_66_code 4 (some .long) :: ws) ({ frames := 0, cells := 0, slots := 0, locals := 0 } : Room)) (fun a U => a = #[(.long q1), (.long q2)] ∧ Z.Warmed39 U.vm ∧ U.heap = h0) (fun _ _ _ _ _ => True) (fun _ U o U' => ∃ v L, o = .returned v ∧ Qmj Z q1 q2 h0 n0 v U'.heap L ∧ FrameEnd U o U' L ({ frames := 0, cells := 0, slots := 0, locals := 0 } : Room).cells ({ frames := 0, cells := 0, slots := 0, locals := 0 } : Room).slots) := by
  refine MetFree.of_bodySF (Jvm.Free.JP.mathPlain rfl (by decide +kernel)) hisR ?_
  intro p e s m args below meth c s₁ Bd hml0 hP hK
  obtain ⟨rfl, hZ, hh⟩ := hP
  have hx := Bd.exec
  have hby := Bd.bytes
  have hml : c.maxLocals = 4 := hml0
  have hown : s.vm.findClass "java/lang/Math" = some m.cls := findClass_of_methodNamed Bd.named
  have hnm := (name_of_methodNamed Bd.named Bd.method).1
  have X0 : Stand p l e ({ frames := 0, cells := 0, slots := 0, locals := 0 } : Room) s m #[(.long q1), (.long q2)] below meth c s₁ [] 0 0 := Stand.of_body Bd
  have e0 : s₁.heap = h0 := by rw [← hh, Bd.state]; rfl
  have es0 : s.heap = h0 := hh
  have N0 := Fr.nil n0
  show own_Fin p e below (Gmj Z q1 q2 h0 n0 s) (s₁.setTop (entryFrame m #[(.long q1), (.long q2)] 4))
  rw [ef_mj m q1 q2]
  refine own_go (XS.lloadN X0.here hx rfl (hb hby d15_0) rfl (Steps.refl _)) ?_
  show own_Fin _ _ _ _ (s₁.setTop (mkF m 1 #[.val (.long q1), .second, .val (.long q2), .second] [(.long q1)]))
  refine own_go (XS.lloadN X0.here hx rfl (hb hby d15_1) rfl (Steps.refl _)) ?_
  show own_Fin _ _ _ _ (s₁.setTop (mkF m 2 #[.val (.long q1), .second, .val (.long q2), .second] [(.long q2), (.long q1)]))
  refine own_go (XS.lcmp X0.here hx rfl (hb hby d15_2) rfl (Steps.refl _)) ?_
  show own_Fin _ _ _ _ (s₁.setTop (mkF m 3 #[.val (.long q1), .second, .val (.long q2), .second] [(.int (lcmpW q1 q2))]))
  by_cases cc : q1 < q2
  · refine own_go (XS.ifYes X0.here hx rfl (pc0 := 3) (pc' := 10) rfl (hb hby d15_3) rfl ((if0 _ _).trans (tlt (show (lcmpW q1 q2) < (0 : Int32) from ((lw_lt _ _).mpr cc))).1) (by decide) (by decide) (Steps.refl _)) ?_
    show own_Fin _ _ _ _ (s₁.setTop (mkF m 10 #[.val (.long q1), .second, .val (.long q2), .second] []))
    refine own_go (XS.lloadN X0.here hx rfl (hb hby d15_10) rfl (Steps.refl _)) ?_
    show own_Fin _ _ _ _ (s₁.setTop (mkF m 11 #[.val (.long q1), .second, .val (.long q2), .second] [(.long q2)]))
    obtain ⟨fs160, hr160, hrun160, hended160, hW160, hsame160⟩ := X0.leave (v := some (.long q2)) (fun h => by rw [Bd.returns] at h; cases h)
    refine own_done (retOut X0 hx Bd.returns rfl (Or.inr (Or.inl ⟨rfl, rfl, _, rfl⟩)) (hb hby d15_11) hr160) hrun160 hended160 ⟨_, _, rfl, ?_, ⟨_, rfl⟩, hW160, hsame160.mono (by decide) (by decide)⟩
    show Qmj Z q1 q2 h0 n0 _ s₁.heap _
    rw [e0]
    exact ⟨(by simp [own_mxl, cc]), N0, rfl⟩
  · refine own_go (XS.ifNo X0.here hx rfl (hb hby d15_3) rfl ((if0 _ _).trans (flt (show ¬ ((lcmpW q1 q2) < (0 : Int32)) from (fun h => cc ((lw_lt _ _).mp h)))).1) (Steps.refl _)) ?_
    show own_Fin _ _ _ _ (s₁.setTop (mkF m 6 #[.val (.long q1), .second, .val (.long q2), .second] []))
    refine own_go (XS.lloadN X0.here hx rfl (hb hby d15_6) rfl (Steps.refl _)) ?_
    show own_Fin _ _ _ _ (s₁.setTop (mkF m 7 #[.val (.long q1), .second, .val (.long q2), .second] [(.long q1)]))
    refine own_go (XS.goto X0.here hx rfl (pc0 := 7) (pc' := 11) rfl (hb hby d15_7) (by decide) (by decide) (Steps.refl _)) ?_
    show own_Fin _ _ _ _ (s₁.setTop (mkF m 11 #[.val (.long q1), .second, .val (.long q2), .second] [(.long q1)]))
    obtain ⟨fs161, hr161, hrun161, hended161, hW161, hsame161⟩ := X0.leave (v := some (.long q1)) (fun h => by rw [Bd.returns] at h; cases h)
    refine own_done (retOut X0 hx Bd.returns rfl (Or.inr (Or.inl ⟨rfl, rfl, _, rfl⟩)) (hb hby d15_11) hr161) hrun161 hended161 ⟨_, _, rfl, ?_, ⟨_, rfl⟩, hW161, hsame161.mono (by decide) (by decide)⟩
    show Qmj Z q1 q2 h0 n0 _ s₁.heap _
    rw [e0]
    exact ⟨(by simp [own_mxl, cc]), N0, rfl⟩
theorem d14_0 : decode method_5_code 0 = .ok (.ldc2_w 39, 3) := by decide +kernel
theorem d14_3 : decode method_5_code 3 = .ok (.lstore 7, 2) := by decide +kernel
theorem d14_5 : decode method_5_code 5 = .ok (.iload_n 1, 1) := by decide +kernel
theorem d14_6 : decode method_5_code 6 = .ok (.iload_n 0, 1) := by decide +kernel
theorem d14_7 : decode method_5_code 7 = .ok (.if_icmp .ne 13, 3) := by decide +kernel
theorem d14_10 : decode method_5_code 10 = .ok (.lload 7, 2) := by decide +kernel
theorem d14_12 : decode method_5_code 12 = .ok (.iload 4, 2) := by decide +kernel
theorem d14_14 : decode method_5_code 14 = .ok (.i2l, 1) := by decide +kernel
theorem d14_15 : decode method_5_code 15 = .ok (.invokestatic 52, 3) := by decide +kernel
theorem d14_18 : decode method_5_code 18 = .ok (.lstore 7, 2) := by decide +kernel
theorem d14_20 : decode method_5_code 20 = .ok (.iload_n 2, 1) := by decide +kernel
theorem d14_21 : decode method_5_code 21 = .ok (.iload_n 0, 1) := by decide +kernel
theorem d14_22 : decode method_5_code 22 = .ok (.if_icmp .ne 13, 3) := by decide +kernel
theorem d14_25 : decode method_5_code 25 = .ok (.lload 7, 2) := by decide +kernel
theorem d14_27 : decode method_5_code 27 = .ok (.iload 5, 2) := by decide +kernel
theorem d14_29 : decode method_5_code 29 = .ok (.i2l, 1) := by decide +kernel
theorem d14_30 : decode method_5_code 30 = .ok (.invokestatic 52, 3) := by decide +kernel
theorem d14_33 : decode method_5_code 33 = .ok (.lstore 7, 2) := by decide +kernel
theorem d14_35 : decode method_5_code 35 = .ok (.iload_n 3, 1) := by decide +kernel
theorem d14_36 : decode method_5_code 36 = .ok (.iload_n 0, 1) := by decide +kernel
theorem d14_37 : decode method_5_code 37 = .ok (.if_icmp .ne 13, 3) := by decide +kernel
theorem d14_40 : decode method_5_code 40 = .ok (.lload 7, 2) := by decide +kernel
theorem d14_42 : decode method_5_code 42 = .ok (.iload 6, 2) := by decide +kernel
theorem d14_44 : decode method_5_code 44 = .ok (.i2l, 1) := by decide +kernel
theorem d14_45 : decode method_5_code 45 = .ok (.invokestatic 52, 3) := by decide +kernel
theorem d14_48 : decode method_5_code 48 = .ok (.lstore 7, 2) := by decide +kernel
theorem d14_50 : decode method_5_code 50 = .ok (.lload 7, 2) := by decide +kernel
theorem d14_52 : decode method_5_code 52 = .ok (.lreturn, 1) := by decide +kernel
theorem ef_bs (m : MethodId) (x0 : Int32) (x1 : Int32) (x2 : Int32) (x3 : Int32) (x4 : Int32) (x5 : Int32) (x6 : Int32) : entryFrame m #[(.int x0), (.int x1), (.int x2), (.int x3), (.int x4), (.int x5), (.int x6)] 9 = mkF m 0 #[.val (.int x0), .val (.int x1), .val (.int x2), .val (.int x3), .val (.int x4), .val (.int x5), .val (.int x6), .unset, .unset] [] := by first | (simp [entryFrame, mkF, argsToLocals, Value.category]; done) | rfl
def Qbs (Z : State) (p1 : Int32) (p2 : Int32) (p3 : Int32) (p4 : Int32) (p5 : Int32) (p6 : Int32) (p7 : Int32) (h0 : Heap) (n0 : Nat) (v : Option Value) (h : Heap) (L : List Loc) : Prop := v = some (.long (own_lv (own_b3 p1 p2 p3 p4 p5 p6 p7))) ∧ Fr n0 L ∧ h = h0
abbrev Gbs (Z : State) (p1 : Int32) (p2 : Int32) (p3 : Int32) (p4 : Int32) (p5 : Int32) (p6 : Int32) (p7 : Int32) (h0 : Heap) (n0 : Nat) (s : State) : Outcome → State → Prop := fun o U' => ∃ v L, o = .returned v ∧ Qbs Z p1 p2 p3 p4 p5 p6 p7 h0 n0 v U'.heap L ∧ FrameEnd s o U' L ({ frames := 1, cells := 0, slots := 0, locals := 24 } : Room).cells ({ frames := 1, cells := 0, slots := 0, locals := 24 } : Room).slots
theorem pd__28_JJ_29_J : parseMethodDescriptor "(JJ)J" = some ⟨[.long, .long], some .long⟩ := by decide +kernel
set_option maxRecDepth 65536 in
set_option maxHeartbeats 40000000 in
theorem rmbs (l : Launch) (Z : State) (a0 : Array Value) (hw : ∀ d ∈ tables_1, d.before a0 Z = true) (ws : List Jvm.Cond) (p1 : Int32) (p2 : Int32) (p3 : Int32) (p4 : Int32) (p5 : Int32) (p6 : Int32) (p7 : Int32) (h0 : Heap) (n0 : Nat) (Z0 : n0 ≤ h0.size)  :
    MetFree l (⟨"com/example/tidewalk/tidewalk/problems/RunMeasuresBestErrorBeforeChangePinLaw", "best", "(IIIIIII)J"⟩ : MethodName) (head1 (Jvm.Cond.code (⟨"com/example/tidewalk/tidewalk/problems/RunMeasuresBestErrorBeforeChangePinLaw", "best", "(IIIIIII)J"⟩ : MethodName) method_5_code 9 (some .long) :: ws) ({ frames := 1, cells := 0, slots := 0, locals := 24 } : Room)) (fun a U => a = #[(.int p1), (.int p2), (.int p3), (.int p4), (.int p5), (.int p6), (.int p7)] ∧ Z.Warmed39 U.vm ∧ U.heap = h0) (fun _ _ _ _ _ => True) (fun _ U o U' => ∃ v L, o = .returned v ∧ Qbs Z p1 p2 p3 p4 p5 p6 p7 h0 n0 v U'.heap L ∧ FrameEnd U o U' L ({ frames := 1, cells := 0, slots := 0, locals := 24 } : Room).cells ({ frames := 1, cells := 0, slots := 0, locals := 24 } : Room).slots) := by
  refine MetFree.of_bodySF (plainFor_of_name pn_com_example_tidewalk_tidewalk_problems_RunMeasuresBestErrorBeforeChangePinLaw) hisR ?_
  intro p e s m args below meth c s₁ Bd hml0 hP hK
  obtain ⟨rfl, hZ, hh⟩ := hP
  have hx := Bd.exec
  have hby := Bd.bytes
  have hml : c.maxLocals = 9 := hml0
  have hown : s.vm.findClass "com/example/tidewalk/tidewalk/problems/RunMeasuresBestErrorBeforeChangePinLaw" = some m.cls := findClass_of_methodNamed Bd.named
  have hnm := (name_of_methodNamed Bd.named Bd.method).1
  have X0 : Stand p l e ({ frames := 1, cells := 0, slots := 0, locals := 24 } : Room) s m #[(.int p1), (.int p2), (.int p3), (.int p4), (.int p5), (.int p6), (.int p7)] below meth c s₁ [] 0 0 := Stand.of_body Bd
  have e0 : s₁.heap = h0 := by rw [← hh, Bd.state]; rfl
  have es0 : s.heap = h0 := hh
  have N0 := Fr.nil n0
  show own_Fin p e below (Gbs Z p1 p2 p3 p4 p5 p6 p7 h0 n0 s) (s₁.setTop (entryFrame m #[(.int p1), (.int p2), (.int p3), (.int p4), (.int p5), (.int p6), (.int p7)] 9))
  rw [ef_bs m p1 p2 p3 p4 p5 p6 p7]
  refine own_by (X0.ldc2Long hx hown (mvT hZ (hw _ (List.mem_of_getElem? (i := 75) rfl))) (g := (mkF m 0 #[iv p1, iv p2, iv p3, iv p4, iv p5, iv p6, iv p7, .unset, .unset] [])) rfl (hb hby d14_0)) ?_
  show own_Fin _ _ _ _ (s₁.setTop (mkF m 3 #[iv p1, iv p2, iv p3, iv p4, iv p5, iv p6, iv p7, .unset, .unset] [(.long (-9223372036854775808 : Int64))]))
  refine own_go (XS.lstore X0.here hx rfl (hb hby d14_3) rfl rfl (Steps.refl _)) ?_
  show own_Fin _ _ _ _ (s₁.setTop (mkF m 5 #[iv p1, iv p2, iv p3, iv p4, iv p5, iv p6, iv p7, .val (.long (-9223372036854775808 : Int64)), .second] []))
  refine own_go (XS.iloadN X0.here hx rfl (hb hby d14_5) rfl (Steps.refl _)) ?_
  show own_Fin _ _ _ _ (s₁.setTop (mkF m 6 #[iv p1, iv p2, iv p3, iv p4, iv p5, iv p6, iv p7, .val (.long (-9223372036854775808 : Int64)), .second] [(.int p2)]))
  refine own_go (XS.iloadN X0.here hx rfl (hb hby d14_6) rfl (Steps.refl _)) ?_
  show own_Fin _ _ _ _ (s₁.setTop (mkF m 7 #[iv p1, iv p2, iv p3, iv p4, iv p5, iv p6, iv p7, .val (.long (-9223372036854775808 : Int64)), .second] [(.int p1), (.int p2)]))
  by_cases c7_162 : p2 = p1
  · refine own_go (XS.icmpNo X0.here hx rfl (hb hby d14_7) rfl (teq c7_162).2 (Steps.refl _)) ?_
    show own_Fin _ _ _ _ (s₁.setTop (mkF m 10 #[iv p1, iv p2, iv p3, iv p4, iv p5, iv p6, iv p7, .val (.long (-9223372036854775808 : Int64)), .second] []))
    refine own_go (XS.lload X0.here hx rfl (hb hby d14_10) rfl (Steps.refl _)) ?_
    show own_Fin _ _ _ _ (s₁.setTop (mkF m 12 #[iv p1, iv p2, iv p3, iv p4, iv p5, iv p6, iv p7, .val (.long (-9223372036854775808 : Int64)), .second] [(.long (-9223372036854775808 : Int64))]))
    refine own_go (XS.iload X0.here hx rfl (hb hby d14_12) rfl (Steps.refl _)) ?_
    show own_Fin _ _ _ _ (s₁.setTop (mkF m 14 #[iv p1, iv p2, iv p3, iv p4, iv p5, iv p6, iv p7, .val (.long (-9223372036854775808 : Int64)), .second] [(.int p5), (.long (-9223372036854775808 : Int64))]))
    refine own_go (XS.i2l X0.here hx rfl (hb hby d14_14) rfl (Steps.refl _)) ?_
    show own_Fin _ _ _ _ (s₁.setTop (mkF m 15 #[iv p1, iv p2, iv p3, iv p4, iv p5, iv p6, iv p7, .val (.long (-9223372036854775808 : Int64)), .second] [(.long (p5.toInt64)), (.long (-9223372036854775808 : Int64))]))
    obtain ⟨_, _, ⟨T163, L163, k163, n163⟩, -, X163, ⟨Lc163, hQ163, l163, y163, z163⟩, st163⟩ := Jvm.LawKit.callS X0 hx (y := (⟨"java/lang/Math", "max", "(JJ)J"⟩ : MethodName)) hown (mvT hZ (hw _ (List.mem_of_getElem? (i := 76) rfl))) (mvT hZ (hw _ (List.mem_of_getElem? (i := 77) rfl))) (mvT hZ (hw _ (List.mem_of_getElem? (i := 2) rfl))) (mvT hZ (hw _ (List.mem_of_getElem? (i := 78) rfl))) (by decide) (backOf (W := 0) (rmmj l Z a0 hw [] (-9223372036854775808 : Int64) (p5.toInt64) h0 n0 Z0) hZ (hw _ (List.mem_of_getElem? (i := 78) rfl)) (hw _ (List.mem_of_getElem? (i := 2) rfl)) (by decide) (by decide)) (g := (mkF m 15 #[iv p1, iv p2, iv p3, iv p4, iv p5, iv p6, iv p7, .val (.long (-9223372036854775808 : Int64)), .second] [(.long (p5.toInt64)), (.long (-9223372036854775808 : Int64))])) rfl (by rw [hml]; rfl) (argsL := [(.long (-9223372036854775808 : Int64)), (.long (p5.toInt64))]) (rest := []) (lenOf pd__28_JJ_29_J rfl) rfl (by show 2 * 0 + _ ≤ _; exact Nat.le_of_eq rfl) (hb hby d14_15) (fun _ hv => ⟨rfl, e0, (by decide : 0 + 0 ≤ _), (by decide : 0 + 0 ≤ _)⟩)
    dsimp only [Pt.U, Pt.locs, Pt.cells, Pt.slots] at X163 l163 y163 z163 st163 hQ163
    subst l163 y163 z163
    obtain ⟨rfl, Nq163, e163⟩ := hQ163
    refine own_by st163 ?_
    have N163 := Fr.app N0 Nq163
    show own_Fin _ _ _ _ (T163.setTop (mkF m 18 #[iv p1, iv p2, iv p3, iv p4, iv p5, iv p6, iv p7, .val (.long (-9223372036854775808 : Int64)), .second] [(.long (own_mxl (-9223372036854775808 : Int64) (p5.toInt64)))]))
    refine own_go (XS.lstore X163.here hx rfl (hb hby d14_18) rfl rfl (Steps.refl _)) ?_
    show own_Fin _ _ _ _ (T163.setTop (mkF m 20 #[iv p1, iv p2, iv p3, iv p4, iv p5, iv p6, iv p7, .val (.long (own_mxl (-9223372036854775808 : Int64) (p5.toInt64))), .second] []))
    refine own_go (XS.iloadN X163.here hx rfl (hb hby d14_20) rfl (Steps.refl _)) ?_
    show own_Fin _ _ _ _ (T163.setTop (mkF m 21 #[iv p1, iv p2, iv p3, iv p4, iv p5, iv p6, iv p7, .val (.long (own_mxl (-9223372036854775808 : Int64) (p5.toInt64))), .second] [(.int p3)]))
    refine own_go (XS.iloadN X163.here hx rfl (hb hby d14_21) rfl (Steps.refl _)) ?_
    show own_Fin _ _ _ _ (T163.setTop (mkF m 22 #[iv p1, iv p2, iv p3, iv p4, iv p5, iv p6, iv p7, .val (.long (own_mxl (-9223372036854775808 : Int64) (p5.toInt64))), .second] [(.int p1), (.int p3)]))
    by_cases c22_164 : p3 = p1
    · refine own_go (XS.icmpNo X163.here hx rfl (hb hby d14_22) rfl (teq c22_164).2 (Steps.refl _)) ?_
      show own_Fin _ _ _ _ (T163.setTop (mkF m 25 #[iv p1, iv p2, iv p3, iv p4, iv p5, iv p6, iv p7, .val (.long (own_mxl (-9223372036854775808 : Int64) (p5.toInt64))), .second] []))
      refine own_go (XS.lload X163.here hx rfl (hb hby d14_25) rfl (Steps.refl _)) ?_
      show own_Fin _ _ _ _ (T163.setTop (mkF m 27 #[iv p1, iv p2, iv p3, iv p4, iv p5, iv p6, iv p7, .val (.long (own_mxl (-9223372036854775808 : Int64) (p5.toInt64))), .second] [(.long (own_mxl (-9223372036854775808 : Int64) (p5.toInt64)))]))
      refine own_go (XS.iload X163.here hx rfl (hb hby d14_27) rfl (Steps.refl _)) ?_
      show own_Fin _ _ _ _ (T163.setTop (mkF m 29 #[iv p1, iv p2, iv p3, iv p4, iv p5, iv p6, iv p7, .val (.long (own_mxl (-9223372036854775808 : Int64) (p5.toInt64))), .second] [(.int p6), (.long (own_mxl (-9223372036854775808 : Int64) (p5.toInt64)))]))
      refine own_go (XS.i2l X163.here hx rfl (hb hby d14_29) rfl (Steps.refl _)) ?_
      show own_Fin _ _ _ _ (T163.setTop (mkF m 30 #[iv p1, iv p2, iv p3, iv p4, iv p5, iv p6, iv p7, .val (.long (own_mxl (-9223372036854775808 : Int64) (p5.toInt64))), .second] [(.long (p6.toInt64)), (.long (own_mxl (-9223372036854775808 : Int64) (p5.toInt64)))]))
      obtain ⟨_, _, ⟨T165, L165, k165, n165⟩, -, X165, ⟨Lc165, hQ165, l165, y165, z165⟩, st165⟩ := Jvm.LawKit.callS X163 hx (y := (⟨"java/lang/Math", "max", "(JJ)J"⟩ : MethodName)) hown (mvT hZ (hw _ (List.mem_of_getElem? (i := 76) rfl))) (mvT hZ (hw _ (List.mem_of_getElem? (i := 77) rfl))) (mvT hZ (hw _ (List.mem_of_getElem? (i := 2) rfl))) (mvT hZ (hw _ (List.mem_of_getElem? (i := 78) rfl))) (by decide) (backOf (W := 0) (rmmj l Z a0 hw [] (own_mxl (-9223372036854775808 : Int64) (p5.toInt64)) (p6.toInt64) h0 n0 Z0) hZ (hw _ (List.mem_of_getElem? (i := 78) rfl)) (hw _ (List.mem_of_getElem? (i := 2) rfl)) (by decide) (by decide)) (g := (mkF m 30 #[iv p1, iv p2, iv p3, iv p4, iv p5, iv p6, iv p7, .val (.long (own_mxl (-9223372036854775808 : Int64) (p5.toInt64))), .second] [(.long (p6.toInt64)), (.long (own_mxl (-9223372036854775808 : Int64) (p5.toInt64)))])) rfl (by rw [hml]; rfl) (argsL := [(.long (own_mxl (-9223372036854775808 : Int64) (p5.toInt64))), (.long (p6.toInt64))]) (rest := []) (lenOf pd__28_JJ_29_J rfl) rfl (by show 2 * 0 + _ ≤ _; exact Nat.le_of_eq rfl) (hb hby d14_30) (fun _ hv => ⟨rfl, e163, (by decide : 0 + 0 ≤ _), (by decide : 0 + 0 ≤ _)⟩)
      dsimp only [Pt.U, Pt.locs, Pt.cells, Pt.slots] at X165 l165 y165 z165 st165 hQ165
      subst l165 y165 z165
      obtain ⟨rfl, Nq165, e165⟩ := hQ165
      refine own_by st165 ?_
      have N165 := Fr.app N163 Nq165
      show own_Fin _ _ _ _ (T165.setTop (mkF m 33 #[iv p1, iv p2, iv p3, iv p4, iv p5, iv p6, iv p7, .val (.long (own_mxl (-9223372036854775808 : Int64) (p5.toInt64))), .second] [(.long (own_mxl (own_mxl (-9223372036854775808 : Int64) (p5.toInt64)) (p6.toInt64)))]))
      refine own_go (XS.lstore X165.here hx rfl (hb hby d14_33) rfl rfl (Steps.refl _)) ?_
      show own_Fin _ _ _ _ (T165.setTop (mkF m 35 #[iv p1, iv p2, iv p3, iv p4, iv p5, iv p6, iv p7, .val (.long (own_mxl (own_mxl (-9223372036854775808 : Int64) (p5.toInt64)) (p6.toInt64))), .second] []))
      refine own_go (XS.iloadN X165.here hx rfl (hb hby d14_35) rfl (Steps.refl _)) ?_
      show own_Fin _ _ _ _ (T165.setTop (mkF m 36 #[iv p1, iv p2, iv p3, iv p4, iv p5, iv p6, iv p7, .val (.long (own_mxl (own_mxl (-9223372036854775808 : Int64) (p5.toInt64)) (p6.toInt64))), .second] [(.int p4)]))
      refine own_go (XS.iloadN X165.here hx rfl (hb hby d14_36) rfl (Steps.refl _)) ?_
      show own_Fin _ _ _ _ (T165.setTop (mkF m 37 #[iv p1, iv p2, iv p3, iv p4, iv p5, iv p6, iv p7, .val (.long (own_mxl (own_mxl (-9223372036854775808 : Int64) (p5.toInt64)) (p6.toInt64))), .second] [(.int p1), (.int p4)]))
      by_cases c37_166 : p4 = p1
      · refine own_go (XS.icmpNo X165.here hx rfl (hb hby d14_37) rfl (teq c37_166).2 (Steps.refl _)) ?_
        show own_Fin _ _ _ _ (T165.setTop (mkF m 40 #[iv p1, iv p2, iv p3, iv p4, iv p5, iv p6, iv p7, .val (.long (own_mxl (own_mxl (-9223372036854775808 : Int64) (p5.toInt64)) (p6.toInt64))), .second] []))
        refine own_go (XS.lload X165.here hx rfl (hb hby d14_40) rfl (Steps.refl _)) ?_
        show own_Fin _ _ _ _ (T165.setTop (mkF m 42 #[iv p1, iv p2, iv p3, iv p4, iv p5, iv p6, iv p7, .val (.long (own_mxl (own_mxl (-9223372036854775808 : Int64) (p5.toInt64)) (p6.toInt64))), .second] [(.long (own_mxl (own_mxl (-9223372036854775808 : Int64) (p5.toInt64)) (p6.toInt64)))]))
        refine own_go (XS.iload X165.here hx rfl (hb hby d14_42) rfl (Steps.refl _)) ?_
        show own_Fin _ _ _ _ (T165.setTop (mkF m 44 #[iv p1, iv p2, iv p3, iv p4, iv p5, iv p6, iv p7, .val (.long (own_mxl (own_mxl (-9223372036854775808 : Int64) (p5.toInt64)) (p6.toInt64))), .second] [(.int p7), (.long (own_mxl (own_mxl (-9223372036854775808 : Int64) (p5.toInt64)) (p6.toInt64)))]))
        refine own_go (XS.i2l X165.here hx rfl (hb hby d14_44) rfl (Steps.refl _)) ?_
        show own_Fin _ _ _ _ (T165.setTop (mkF m 45 #[iv p1, iv p2, iv p3, iv p4, iv p5, iv p6, iv p7, .val (.long (own_mxl (own_mxl (-9223372036854775808 : Int64) (p5.toInt64)) (p6.toInt64))), .second] [(.long (p7.toInt64)), (.long (own_mxl (own_mxl (-9223372036854775808 : Int64) (p5.toInt64)) (p6.toInt64)))]))
        obtain ⟨_, _, ⟨T167, L167, k167, n167⟩, -, X167, ⟨Lc167, hQ167, l167, y167, z167⟩, st167⟩ := Jvm.LawKit.callS X165 hx (y := (⟨"java/lang/Math", "max", "(JJ)J"⟩ : MethodName)) hown (mvT hZ (hw _ (List.mem_of_getElem? (i := 76) rfl))) (mvT hZ (hw _ (List.mem_of_getElem? (i := 77) rfl))) (mvT hZ (hw _ (List.mem_of_getElem? (i := 2) rfl))) (mvT hZ (hw _ (List.mem_of_getElem? (i := 78) rfl))) (by decide) (backOf (W := 0) (rmmj l Z a0 hw [] (own_mxl (own_mxl (-9223372036854775808 : Int64) (p5.toInt64)) (p6.toInt64)) (p7.toInt64) h0 n0 Z0) hZ (hw _ (List.mem_of_getElem? (i := 78) rfl)) (hw _ (List.mem_of_getElem? (i := 2) rfl)) (by decide) (by decide)) (g := (mkF m 45 #[iv p1, iv p2, iv p3, iv p4, iv p5, iv p6, iv p7, .val (.long (own_mxl (own_mxl (-9223372036854775808 : Int64) (p5.toInt64)) (p6.toInt64))), .second] [(.long (p7.toInt64)), (.long (own_mxl (own_mxl (-9223372036854775808 : Int64) (p5.toInt64)) (p6.toInt64)))])) rfl (by rw [hml]; rfl) (argsL := [(.long (own_mxl (own_mxl (-9223372036854775808 : Int64) (p5.toInt64)) (p6.toInt64))), (.long (p7.toInt64))]) (rest := []) (lenOf pd__28_JJ_29_J rfl) rfl (by show 2 * 0 + _ ≤ _; exact Nat.le_of_eq rfl) (hb hby d14_45) (fun _ hv => ⟨rfl, e165, (by decide : 0 + 0 ≤ _), (by decide : 0 + 0 ≤ _)⟩)
        dsimp only [Pt.U, Pt.locs, Pt.cells, Pt.slots] at X167 l167 y167 z167 st167 hQ167
        subst l167 y167 z167
        obtain ⟨rfl, Nq167, e167⟩ := hQ167
        refine own_by st167 ?_
        have N167 := Fr.app N165 Nq167
        show own_Fin _ _ _ _ (T167.setTop (mkF m 48 #[iv p1, iv p2, iv p3, iv p4, iv p5, iv p6, iv p7, .val (.long (own_mxl (own_mxl (-9223372036854775808 : Int64) (p5.toInt64)) (p6.toInt64))), .second] [(.long (own_mxl (own_mxl (own_mxl (-9223372036854775808 : Int64) (p5.toInt64)) (p6.toInt64)) (p7.toInt64)))]))
        refine own_go (XS.lstore X167.here hx rfl (hb hby d14_48) rfl rfl (Steps.refl _)) ?_
        show own_Fin _ _ _ _ (T167.setTop (mkF m 50 #[iv p1, iv p2, iv p3, iv p4, iv p5, iv p6, iv p7, .val (.long (own_mxl (own_mxl (own_mxl (-9223372036854775808 : Int64) (p5.toInt64)) (p6.toInt64)) (p7.toInt64))), .second] []))
        refine own_go (XS.lload X167.here hx rfl (hb hby d14_50) rfl (Steps.refl _)) ?_
        show own_Fin _ _ _ _ (T167.setTop (mkF m 52 #[iv p1, iv p2, iv p3, iv p4, iv p5, iv p6, iv p7, .val (.long (own_mxl (own_mxl (own_mxl (-9223372036854775808 : Int64) (p5.toInt64)) (p6.toInt64)) (p7.toInt64))), .second] [(.long (own_mxl (own_mxl (own_mxl (-9223372036854775808 : Int64) (p5.toInt64)) (p6.toInt64)) (p7.toInt64)))]))
        obtain ⟨fs168, hr168, hrun168, hended168, hW168, hsame168⟩ := X167.leave (v := some (.long (own_mxl (own_mxl (own_mxl (-9223372036854775808 : Int64) (p5.toInt64)) (p6.toInt64)) (p7.toInt64)))) (fun h => by rw [Bd.returns] at h; cases h)
        refine own_done (retOut X167 hx Bd.returns rfl (Or.inr (Or.inl ⟨rfl, rfl, _, rfl⟩)) (hb hby d14_52) hr168) hrun168 hended168 ⟨_, _, rfl, ?_, ⟨_, rfl⟩, hW168, hsame168.mono (by decide) (by decide)⟩
        show Qbs Z p1 p2 p3 p4 p5 p6 p7 h0 n0 _ T167.heap _
        rw [e167]
        exact ⟨(by rw [show own_b3 p1 p2 p3 p4 p5 p6 p7 = (own_mx (own_mx (own_mx none p5.toInt64) p6.toInt64) p7.toInt64) from by simp [own_b3, own_if, c7_162, c22_164, c37_166], ← own_lvmx (own_Wmx (own_Wmx (own_Wn _) p5) p6) p7, ← own_lvmx (own_Wmx (own_Wn _) p5) p6, ← own_lvmx (own_Wn _) p5]; rfl), N167, rfl⟩
      · refine own_go (XS.icmpYes X165.here hx rfl (pc0 := 37) (pc' := 50) rfl (hb hby d14_37) rfl (feq c37_166).2 (by decide) (by decide) (Steps.refl _)) ?_
        show own_Fin _ _ _ _ (T165.setTop (mkF m 50 #[iv p1, iv p2, iv p3, iv p4, iv p5, iv p6, iv p7, .val (.long (own_mxl (own_mxl (-9223372036854775808 : Int64) (p5.toInt64)) (p6.toInt64))), .second] []))
        refine own_go (XS.lload X165.here hx rfl (hb hby d14_50) rfl (Steps.refl _)) ?_
        show own_Fin _ _ _ _ (T165.setTop (mkF m 52 #[iv p1, iv p2, iv p3, iv p4, iv p5, iv p6, iv p7, .val (.long (own_mxl (own_mxl (-9223372036854775808 : Int64) (p5.toInt64)) (p6.toInt64))), .second] [(.long (own_mxl (own_mxl (-9223372036854775808 : Int64) (p5.toInt64)) (p6.toInt64)))]))
        obtain ⟨fs169, hr169, hrun169, hended169, hW169, hsame169⟩ := X165.leave (v := some (.long (own_mxl (own_mxl (-9223372036854775808 : Int64) (p5.toInt64)) (p6.toInt64)))) (fun h => by rw [Bd.returns] at h; cases h)
        refine own_done (retOut X165 hx Bd.returns rfl (Or.inr (Or.inl ⟨rfl, rfl, _, rfl⟩)) (hb hby d14_52) hr169) hrun169 hended169 ⟨_, _, rfl, ?_, ⟨_, rfl⟩, hW169, hsame169.mono (by decide) (by decide)⟩
        show Qbs Z p1 p2 p3 p4 p5 p6 p7 h0 n0 _ T165.heap _
        rw [e165]
        exact ⟨(by rw [show own_b3 p1 p2 p3 p4 p5 p6 p7 = (own_mx (own_mx none p5.toInt64) p6.toInt64) from by simp [own_b3, own_if, c7_162, c22_164, c37_166], ← own_lvmx (own_Wmx (own_Wn _) p5) p6, ← own_lvmx (own_Wn _) p5]; rfl), N165, rfl⟩
    · refine own_go (XS.icmpYes X163.here hx rfl (pc0 := 22) (pc' := 35) rfl (hb hby d14_22) rfl (feq c22_164).2 (by decide) (by decide) (Steps.refl _)) ?_
      show own_Fin _ _ _ _ (T163.setTop (mkF m 35 #[iv p1, iv p2, iv p3, iv p4, iv p5, iv p6, iv p7, .val (.long (own_mxl (-9223372036854775808 : Int64) (p5.toInt64))), .second] []))
      refine own_go (XS.iloadN X163.here hx rfl (hb hby d14_35) rfl (Steps.refl _)) ?_
      show own_Fin _ _ _ _ (T163.setTop (mkF m 36 #[iv p1, iv p2, iv p3, iv p4, iv p5, iv p6, iv p7, .val (.long (own_mxl (-9223372036854775808 : Int64) (p5.toInt64))), .second] [(.int p4)]))
      refine own_go (XS.iloadN X163.here hx rfl (hb hby d14_36) rfl (Steps.refl _)) ?_
      show own_Fin _ _ _ _ (T163.setTop (mkF m 37 #[iv p1, iv p2, iv p3, iv p4, iv p5, iv p6, iv p7, .val (.long (own_mxl (-9223372036854775808 : Int64) (p5.toInt64))), .second] [(.int p1), (.int p4)]))
      by_cases c37_170 : p4 = p1
      · refine own_go (XS.icmpNo X163.here hx rfl (hb hby d14_37) rfl (teq c37_170).2 (Steps.refl _)) ?_
        show own_Fin _ _ _ _ (T163.setTop (mkF m 40 #[iv p1, iv p2, iv p3, iv p4, iv p5, iv p6, iv p7, .val (.long (own_mxl (-9223372036854775808 : Int64) (p5.toInt64))), .second] []))
        refine own_go (XS.lload X163.here hx rfl (hb hby d14_40) rfl (Steps.refl _)) ?_
        show own_Fin _ _ _ _ (T163.setTop (mkF m 42 #[iv p1, iv p2, iv p3, iv p4, iv p5, iv p6, iv p7, .val (.long (own_mxl (-9223372036854775808 : Int64) (p5.toInt64))), .second] [(.long (own_mxl (-9223372036854775808 : Int64) (p5.toInt64)))]))
        refine own_go (XS.iload X163.here hx rfl (hb hby d14_42) rfl (Steps.refl _)) ?_
        show own_Fin _ _ _ _ (T163.setTop (mkF m 44 #[iv p1, iv p2, iv p3, iv p4, iv p5, iv p6, iv p7, .val (.long (own_mxl (-9223372036854775808 : Int64) (p5.toInt64))), .second] [(.int p7), (.long (own_mxl (-9223372036854775808 : Int64) (p5.toInt64)))]))
        refine own_go (XS.i2l X163.here hx rfl (hb hby d14_44) rfl (Steps.refl _)) ?_
        show own_Fin _ _ _ _ (T163.setTop (mkF m 45 #[iv p1, iv p2, iv p3, iv p4, iv p5, iv p6, iv p7, .val (.long (own_mxl (-9223372036854775808 : Int64) (p5.toInt64))), .second] [(.long (p7.toInt64)), (.long (own_mxl (-9223372036854775808 : Int64) (p5.toInt64)))]))
        obtain ⟨_, _, ⟨T171, L171, k171, n171⟩, -, X171, ⟨Lc171, hQ171, l171, y171, z171⟩, st171⟩ := Jvm.LawKit.callS X163 hx (y := (⟨"java/lang/Math", "max", "(JJ)J"⟩ : MethodName)) hown (mvT hZ (hw _ (List.mem_of_getElem? (i := 76) rfl))) (mvT hZ (hw _ (List.mem_of_getElem? (i := 77) rfl))) (mvT hZ (hw _ (List.mem_of_getElem? (i := 2) rfl))) (mvT hZ (hw _ (List.mem_of_getElem? (i := 78) rfl))) (by decide) (backOf (W := 0) (rmmj l Z a0 hw [] (own_mxl (-9223372036854775808 : Int64) (p5.toInt64)) (p7.toInt64) h0 n0 Z0) hZ (hw _ (List.mem_of_getElem? (i := 78) rfl)) (hw _ (List.mem_of_getElem? (i := 2) rfl)) (by decide) (by decide)) (g := (mkF m 45 #[iv p1, iv p2, iv p3, iv p4, iv p5, iv p6, iv p7, .val (.long (own_mxl (-9223372036854775808 : Int64) (p5.toInt64))), .second] [(.long (p7.toInt64)), (.long (own_mxl (-9223372036854775808 : Int64) (p5.toInt64)))])) rfl (by rw [hml]; rfl) (argsL := [(.long (own_mxl (-9223372036854775808 : Int64) (p5.toInt64))), (.long (p7.toInt64))]) (rest := []) (lenOf pd__28_JJ_29_J rfl) rfl (by show 2 * 0 + _ ≤ _; exact Nat.le_of_eq rfl) (hb hby d14_45) (fun _ hv => ⟨rfl, e163, (by decide : 0 + 0 ≤ _), (by decide : 0 + 0 ≤ _)⟩)
        dsimp only [Pt.U, Pt.locs, Pt.cells, Pt.slots] at X171 l171 y171 z171 st171 hQ171
        subst l171 y171 z171
        obtain ⟨rfl, Nq171, e171⟩ := hQ171
        refine own_by st171 ?_
        have N171 := Fr.app N163 Nq171
        show own_Fin _ _ _ _ (T171.setTop (mkF m 48 #[iv p1, iv p2, iv p3, iv p4, iv p5, iv p6, iv p7, .val (.long (own_mxl (-9223372036854775808 : Int64) (p5.toInt64))), .second] [(.long (own_mxl (own_mxl (-9223372036854775808 : Int64) (p5.toInt64)) (p7.toInt64)))]))
        refine own_go (XS.lstore X171.here hx rfl (hb hby d14_48) rfl rfl (Steps.refl _)) ?_
        show own_Fin _ _ _ _ (T171.setTop (mkF m 50 #[iv p1, iv p2, iv p3, iv p4, iv p5, iv p6, iv p7, .val (.long (own_mxl (own_mxl (-9223372036854775808 : Int64) (p5.toInt64)) (p7.toInt64))), .second] []))
        refine own_go (XS.lload X171.here hx rfl (hb hby d14_50) rfl (Steps.refl _)) ?_
        show own_Fin _ _ _ _ (T171.setTop (mkF m 52 #[iv p1, iv p2, iv p3, iv p4, iv p5, iv p6, iv p7, .val (.long (own_mxl (own_mxl (-9223372036854775808 : Int64) (p5.toInt64)) (p7.toInt64))), .second] [(.long (own_mxl (own_mxl (-9223372036854775808 : Int64) (p5.toInt64)) (p7.toInt64)))]))
        obtain ⟨fs172, hr172, hrun172, hended172, hW172, hsame172⟩ := X171.leave (v := some (.long (own_mxl (own_mxl (-9223372036854775808 : Int64) (p5.toInt64)) (p7.toInt64)))) (fun h => by rw [Bd.returns] at h; cases h)
        refine own_done (retOut X171 hx Bd.returns rfl (Or.inr (Or.inl ⟨rfl, rfl, _, rfl⟩)) (hb hby d14_52) hr172) hrun172 hended172 ⟨_, _, rfl, ?_, ⟨_, rfl⟩, hW172, hsame172.mono (by decide) (by decide)⟩
        show Qbs Z p1 p2 p3 p4 p5 p6 p7 h0 n0 _ T171.heap _
        rw [e171]
        exact ⟨(by rw [show own_b3 p1 p2 p3 p4 p5 p6 p7 = (own_mx (own_mx none p5.toInt64) p7.toInt64) from by simp [own_b3, own_if, c7_162, c22_164, c37_170], ← own_lvmx (own_Wmx (own_Wn _) p5) p7, ← own_lvmx (own_Wn _) p5]; rfl), N171, rfl⟩
      · refine own_go (XS.icmpYes X163.here hx rfl (pc0 := 37) (pc' := 50) rfl (hb hby d14_37) rfl (feq c37_170).2 (by decide) (by decide) (Steps.refl _)) ?_
        show own_Fin _ _ _ _ (T163.setTop (mkF m 50 #[iv p1, iv p2, iv p3, iv p4, iv p5, iv p6, iv p7, .val (.long (own_mxl (-9223372036854775808 : Int64) (p5.toInt64))), .second] []))
        refine own_go (XS.lload X163.here hx rfl (hb hby d14_50) rfl (Steps.refl _)) ?_
        show own_Fin _ _ _ _ (T163.setTop (mkF m 52 #[iv p1, iv p2, iv p3, iv p4, iv p5, iv p6, iv p7, .val (.long (own_mxl (-9223372036854775808 : Int64) (p5.toInt64))), .second] [(.long (own_mxl (-9223372036854775808 : Int64) (p5.toInt64)))]))
        obtain ⟨fs173, hr173, hrun173, hended173, hW173, hsame173⟩ := X163.leave (v := some (.long (own_mxl (-9223372036854775808 : Int64) (p5.toInt64)))) (fun h => by rw [Bd.returns] at h; cases h)
        refine own_done (retOut X163 hx Bd.returns rfl (Or.inr (Or.inl ⟨rfl, rfl, _, rfl⟩)) (hb hby d14_52) hr173) hrun173 hended173 ⟨_, _, rfl, ?_, ⟨_, rfl⟩, hW173, hsame173.mono (by decide) (by decide)⟩
        show Qbs Z p1 p2 p3 p4 p5 p6 p7 h0 n0 _ T163.heap _
        rw [e163]
        exact ⟨(by rw [show own_b3 p1 p2 p3 p4 p5 p6 p7 = (own_mx none p5.toInt64) from by simp [own_b3, own_if, c7_162, c22_164, c37_170], ← own_lvmx (own_Wn _) p5]; rfl), N163, rfl⟩
  · refine own_go (XS.icmpYes X0.here hx rfl (pc0 := 7) (pc' := 20) rfl (hb hby d14_7) rfl (feq c7_162).2 (by decide) (by decide) (Steps.refl _)) ?_
    show own_Fin _ _ _ _ (s₁.setTop (mkF m 20 #[iv p1, iv p2, iv p3, iv p4, iv p5, iv p6, iv p7, .val (.long (-9223372036854775808 : Int64)), .second] []))
    refine own_go (XS.iloadN X0.here hx rfl (hb hby d14_20) rfl (Steps.refl _)) ?_
    show own_Fin _ _ _ _ (s₁.setTop (mkF m 21 #[iv p1, iv p2, iv p3, iv p4, iv p5, iv p6, iv p7, .val (.long (-9223372036854775808 : Int64)), .second] [(.int p3)]))
    refine own_go (XS.iloadN X0.here hx rfl (hb hby d14_21) rfl (Steps.refl _)) ?_
    show own_Fin _ _ _ _ (s₁.setTop (mkF m 22 #[iv p1, iv p2, iv p3, iv p4, iv p5, iv p6, iv p7, .val (.long (-9223372036854775808 : Int64)), .second] [(.int p1), (.int p3)]))
    by_cases c22_174 : p3 = p1
    · refine own_go (XS.icmpNo X0.here hx rfl (hb hby d14_22) rfl (teq c22_174).2 (Steps.refl _)) ?_
      show own_Fin _ _ _ _ (s₁.setTop (mkF m 25 #[iv p1, iv p2, iv p3, iv p4, iv p5, iv p6, iv p7, .val (.long (-9223372036854775808 : Int64)), .second] []))
      refine own_go (XS.lload X0.here hx rfl (hb hby d14_25) rfl (Steps.refl _)) ?_
      show own_Fin _ _ _ _ (s₁.setTop (mkF m 27 #[iv p1, iv p2, iv p3, iv p4, iv p5, iv p6, iv p7, .val (.long (-9223372036854775808 : Int64)), .second] [(.long (-9223372036854775808 : Int64))]))
      refine own_go (XS.iload X0.here hx rfl (hb hby d14_27) rfl (Steps.refl _)) ?_
      show own_Fin _ _ _ _ (s₁.setTop (mkF m 29 #[iv p1, iv p2, iv p3, iv p4, iv p5, iv p6, iv p7, .val (.long (-9223372036854775808 : Int64)), .second] [(.int p6), (.long (-9223372036854775808 : Int64))]))
      refine own_go (XS.i2l X0.here hx rfl (hb hby d14_29) rfl (Steps.refl _)) ?_
      show own_Fin _ _ _ _ (s₁.setTop (mkF m 30 #[iv p1, iv p2, iv p3, iv p4, iv p5, iv p6, iv p7, .val (.long (-9223372036854775808 : Int64)), .second] [(.long (p6.toInt64)), (.long (-9223372036854775808 : Int64))]))
      obtain ⟨_, _, ⟨T175, L175, k175, n175⟩, -, X175, ⟨Lc175, hQ175, l175, y175, z175⟩, st175⟩ := Jvm.LawKit.callS X0 hx (y := (⟨"java/lang/Math", "max", "(JJ)J"⟩ : MethodName)) hown (mvT hZ (hw _ (List.mem_of_getElem? (i := 76) rfl))) (mvT hZ (hw _ (List.mem_of_getElem? (i := 77) rfl))) (mvT hZ (hw _ (List.mem_of_getElem? (i := 2) rfl))) (mvT hZ (hw _ (List.mem_of_getElem? (i := 78) rfl))) (by decide) (backOf (W := 0) (rmmj l Z a0 hw [] (-9223372036854775808 : Int64) (p6.toInt64) h0 n0 Z0) hZ (hw _ (List.mem_of_getElem? (i := 78) rfl)) (hw _ (List.mem_of_getElem? (i := 2) rfl)) (by decide) (by decide)) (g := (mkF m 30 #[iv p1, iv p2, iv p3, iv p4, iv p5, iv p6, iv p7, .val (.long (-9223372036854775808 : Int64)), .second] [(.long (p6.toInt64)), (.long (-9223372036854775808 : Int64))])) rfl (by rw [hml]; rfl) (argsL := [(.long (-9223372036854775808 : Int64)), (.long (p6.toInt64))]) (rest := []) (lenOf pd__28_JJ_29_J rfl) rfl (by show 2 * 0 + _ ≤ _; exact Nat.le_of_eq rfl) (hb hby d14_30) (fun _ hv => ⟨rfl, e0, (by decide : 0 + 0 ≤ _), (by decide : 0 + 0 ≤ _)⟩)
      dsimp only [Pt.U, Pt.locs, Pt.cells, Pt.slots] at X175 l175 y175 z175 st175 hQ175
      subst l175 y175 z175
      obtain ⟨rfl, Nq175, e175⟩ := hQ175
      refine own_by st175 ?_
      have N175 := Fr.app N0 Nq175
      show own_Fin _ _ _ _ (T175.setTop (mkF m 33 #[iv p1, iv p2, iv p3, iv p4, iv p5, iv p6, iv p7, .val (.long (-9223372036854775808 : Int64)), .second] [(.long (own_mxl (-9223372036854775808 : Int64) (p6.toInt64)))]))
      refine own_go (XS.lstore X175.here hx rfl (hb hby d14_33) rfl rfl (Steps.refl _)) ?_
      show own_Fin _ _ _ _ (T175.setTop (mkF m 35 #[iv p1, iv p2, iv p3, iv p4, iv p5, iv p6, iv p7, .val (.long (own_mxl (-9223372036854775808 : Int64) (p6.toInt64))), .second] []))
      refine own_go (XS.iloadN X175.here hx rfl (hb hby d14_35) rfl (Steps.refl _)) ?_
      show own_Fin _ _ _ _ (T175.setTop (mkF m 36 #[iv p1, iv p2, iv p3, iv p4, iv p5, iv p6, iv p7, .val (.long (own_mxl (-9223372036854775808 : Int64) (p6.toInt64))), .second] [(.int p4)]))
      refine own_go (XS.iloadN X175.here hx rfl (hb hby d14_36) rfl (Steps.refl _)) ?_
      show own_Fin _ _ _ _ (T175.setTop (mkF m 37 #[iv p1, iv p2, iv p3, iv p4, iv p5, iv p6, iv p7, .val (.long (own_mxl (-9223372036854775808 : Int64) (p6.toInt64))), .second] [(.int p1), (.int p4)]))
      by_cases c37_176 : p4 = p1
      · refine own_go (XS.icmpNo X175.here hx rfl (hb hby d14_37) rfl (teq c37_176).2 (Steps.refl _)) ?_
        show own_Fin _ _ _ _ (T175.setTop (mkF m 40 #[iv p1, iv p2, iv p3, iv p4, iv p5, iv p6, iv p7, .val (.long (own_mxl (-9223372036854775808 : Int64) (p6.toInt64))), .second] []))
        refine own_go (XS.lload X175.here hx rfl (hb hby d14_40) rfl (Steps.refl _)) ?_
        show own_Fin _ _ _ _ (T175.setTop (mkF m 42 #[iv p1, iv p2, iv p3, iv p4, iv p5, iv p6, iv p7, .val (.long (own_mxl (-9223372036854775808 : Int64) (p6.toInt64))), .second] [(.long (own_mxl (-9223372036854775808 : Int64) (p6.toInt64)))]))
        refine own_go (XS.iload X175.here hx rfl (hb hby d14_42) rfl (Steps.refl _)) ?_
        show own_Fin _ _ _ _ (T175.setTop (mkF m 44 #[iv p1, iv p2, iv p3, iv p4, iv p5, iv p6, iv p7, .val (.long (own_mxl (-9223372036854775808 : Int64) (p6.toInt64))), .second] [(.int p7), (.long (own_mxl (-9223372036854775808 : Int64) (p6.toInt64)))]))
        refine own_go (XS.i2l X175.here hx rfl (hb hby d14_44) rfl (Steps.refl _)) ?_
        show own_Fin _ _ _ _ (T175.setTop (mkF m 45 #[iv p1, iv p2, iv p3, iv p4, iv p5, iv p6, iv p7, .val (.long (own_mxl (-9223372036854775808 : Int64) (p6.toInt64))), .second] [(.long (p7.toInt64)), (.long (own_mxl (-9223372036854775808 : Int64) (p6.toInt64)))]))
        obtain ⟨_, _, ⟨T177, L177, k177, n177⟩, -, X177, ⟨Lc177, hQ177, l177, y177, z177⟩, st177⟩ := Jvm.LawKit.callS X175 hx (y := (⟨"java/lang/Math", "max", "(JJ)J"⟩ : MethodName)) hown (mvT hZ (hw _ (List.mem_of_getElem? (i := 76) rfl))) (mvT hZ (hw _ (List.mem_of_getElem? (i := 77) rfl))) (mvT hZ (hw _ (List.mem_of_getElem? (i := 2) rfl))) (mvT hZ (hw _ (List.mem_of_getElem? (i := 78) rfl))) (by decide) (backOf (W := 0) (rmmj l Z a0 hw [] (own_mxl (-9223372036854775808 : Int64) (p6.toInt64)) (p7.toInt64) h0 n0 Z0) hZ (hw _ (List.mem_of_getElem? (i := 78) rfl)) (hw _ (List.mem_of_getElem? (i := 2) rfl)) (by decide) (by decide)) (g := (mkF m 45 #[iv p1, iv p2, iv p3, iv p4, iv p5, iv p6, iv p7, .val (.long (own_mxl (-9223372036854775808 : Int64) (p6.toInt64))), .second] [(.long (p7.toInt64)), (.long (own_mxl (-9223372036854775808 : Int64) (p6.toInt64)))])) rfl (by rw [hml]; rfl) (argsL := [(.long (own_mxl (-9223372036854775808 : Int64) (p6.toInt64))), (.long (p7.toInt64))]) (rest := []) (lenOf pd__28_JJ_29_J rfl) rfl (by show 2 * 0 + _ ≤ _; exact Nat.le_of_eq rfl) (hb hby d14_45) (fun _ hv => ⟨rfl, e175, (by decide : 0 + 0 ≤ _), (by decide : 0 + 0 ≤ _)⟩)
        dsimp only [Pt.U, Pt.locs, Pt.cells, Pt.slots] at X177 l177 y177 z177 st177 hQ177
        subst l177 y177 z177
        obtain ⟨rfl, Nq177, e177⟩ := hQ177
        refine own_by st177 ?_
        have N177 := Fr.app N175 Nq177
        show own_Fin _ _ _ _ (T177.setTop (mkF m 48 #[iv p1, iv p2, iv p3, iv p4, iv p5, iv p6, iv p7, .val (.long (own_mxl (-9223372036854775808 : Int64) (p6.toInt64))), .second] [(.long (own_mxl (own_mxl (-9223372036854775808 : Int64) (p6.toInt64)) (p7.toInt64)))]))
        refine own_go (XS.lstore X177.here hx rfl (hb hby d14_48) rfl rfl (Steps.refl _)) ?_
        show own_Fin _ _ _ _ (T177.setTop (mkF m 50 #[iv p1, iv p2, iv p3, iv p4, iv p5, iv p6, iv p7, .val (.long (own_mxl (own_mxl (-9223372036854775808 : Int64) (p6.toInt64)) (p7.toInt64))), .second] []))
        refine own_go (XS.lload X177.here hx rfl (hb hby d14_50) rfl (Steps.refl _)) ?_
        show own_Fin _ _ _ _ (T177.setTop (mkF m 52 #[iv p1, iv p2, iv p3, iv p4, iv p5, iv p6, iv p7, .val (.long (own_mxl (own_mxl (-9223372036854775808 : Int64) (p6.toInt64)) (p7.toInt64))), .second] [(.long (own_mxl (own_mxl (-9223372036854775808 : Int64) (p6.toInt64)) (p7.toInt64)))]))
        obtain ⟨fs178, hr178, hrun178, hended178, hW178, hsame178⟩ := X177.leave (v := some (.long (own_mxl (own_mxl (-9223372036854775808 : Int64) (p6.toInt64)) (p7.toInt64)))) (fun h => by rw [Bd.returns] at h; cases h)
        refine own_done (retOut X177 hx Bd.returns rfl (Or.inr (Or.inl ⟨rfl, rfl, _, rfl⟩)) (hb hby d14_52) hr178) hrun178 hended178 ⟨_, _, rfl, ?_, ⟨_, rfl⟩, hW178, hsame178.mono (by decide) (by decide)⟩
        show Qbs Z p1 p2 p3 p4 p5 p6 p7 h0 n0 _ T177.heap _
        rw [e177]
        exact ⟨(by rw [show own_b3 p1 p2 p3 p4 p5 p6 p7 = (own_mx (own_mx none p6.toInt64) p7.toInt64) from by simp [own_b3, own_if, c7_162, c22_174, c37_176], ← own_lvmx (own_Wmx (own_Wn _) p6) p7, ← own_lvmx (own_Wn _) p6]; rfl), N177, rfl⟩
      · refine own_go (XS.icmpYes X175.here hx rfl (pc0 := 37) (pc' := 50) rfl (hb hby d14_37) rfl (feq c37_176).2 (by decide) (by decide) (Steps.refl _)) ?_
        show own_Fin _ _ _ _ (T175.setTop (mkF m 50 #[iv p1, iv p2, iv p3, iv p4, iv p5, iv p6, iv p7, .val (.long (own_mxl (-9223372036854775808 : Int64) (p6.toInt64))), .second] []))
        refine own_go (XS.lload X175.here hx rfl (hb hby d14_50) rfl (Steps.refl _)) ?_
        show own_Fin _ _ _ _ (T175.setTop (mkF m 52 #[iv p1, iv p2, iv p3, iv p4, iv p5, iv p6, iv p7, .val (.long (own_mxl (-9223372036854775808 : Int64) (p6.toInt64))), .second] [(.long (own_mxl (-9223372036854775808 : Int64) (p6.toInt64)))]))
        obtain ⟨fs179, hr179, hrun179, hended179, hW179, hsame179⟩ := X175.leave (v := some (.long (own_mxl (-9223372036854775808 : Int64) (p6.toInt64)))) (fun h => by rw [Bd.returns] at h; cases h)
        refine own_done (retOut X175 hx Bd.returns rfl (Or.inr (Or.inl ⟨rfl, rfl, _, rfl⟩)) (hb hby d14_52) hr179) hrun179 hended179 ⟨_, _, rfl, ?_, ⟨_, rfl⟩, hW179, hsame179.mono (by decide) (by decide)⟩
        show Qbs Z p1 p2 p3 p4 p5 p6 p7 h0 n0 _ T175.heap _
        rw [e175]
        exact ⟨(by rw [show own_b3 p1 p2 p3 p4 p5 p6 p7 = (own_mx none p6.toInt64) from by simp [own_b3, own_if, c7_162, c22_174, c37_176], ← own_lvmx (own_Wn _) p6]; rfl), N175, rfl⟩
    · refine own_go (XS.icmpYes X0.here hx rfl (pc0 := 22) (pc' := 35) rfl (hb hby d14_22) rfl (feq c22_174).2 (by decide) (by decide) (Steps.refl _)) ?_
      show own_Fin _ _ _ _ (s₁.setTop (mkF m 35 #[iv p1, iv p2, iv p3, iv p4, iv p5, iv p6, iv p7, .val (.long (-9223372036854775808 : Int64)), .second] []))
      refine own_go (XS.iloadN X0.here hx rfl (hb hby d14_35) rfl (Steps.refl _)) ?_
      show own_Fin _ _ _ _ (s₁.setTop (mkF m 36 #[iv p1, iv p2, iv p3, iv p4, iv p5, iv p6, iv p7, .val (.long (-9223372036854775808 : Int64)), .second] [(.int p4)]))
      refine own_go (XS.iloadN X0.here hx rfl (hb hby d14_36) rfl (Steps.refl _)) ?_
      show own_Fin _ _ _ _ (s₁.setTop (mkF m 37 #[iv p1, iv p2, iv p3, iv p4, iv p5, iv p6, iv p7, .val (.long (-9223372036854775808 : Int64)), .second] [(.int p1), (.int p4)]))
      by_cases c37_180 : p4 = p1
      · refine own_go (XS.icmpNo X0.here hx rfl (hb hby d14_37) rfl (teq c37_180).2 (Steps.refl _)) ?_
        show own_Fin _ _ _ _ (s₁.setTop (mkF m 40 #[iv p1, iv p2, iv p3, iv p4, iv p5, iv p6, iv p7, .val (.long (-9223372036854775808 : Int64)), .second] []))
        refine own_go (XS.lload X0.here hx rfl (hb hby d14_40) rfl (Steps.refl _)) ?_
        show own_Fin _ _ _ _ (s₁.setTop (mkF m 42 #[iv p1, iv p2, iv p3, iv p4, iv p5, iv p6, iv p7, .val (.long (-9223372036854775808 : Int64)), .second] [(.long (-9223372036854775808 : Int64))]))
        refine own_go (XS.iload X0.here hx rfl (hb hby d14_42) rfl (Steps.refl _)) ?_
        show own_Fin _ _ _ _ (s₁.setTop (mkF m 44 #[iv p1, iv p2, iv p3, iv p4, iv p5, iv p6, iv p7, .val (.long (-9223372036854775808 : Int64)), .second] [(.int p7), (.long (-9223372036854775808 : Int64))]))
        refine own_go (XS.i2l X0.here hx rfl (hb hby d14_44) rfl (Steps.refl _)) ?_
        show own_Fin _ _ _ _ (s₁.setTop (mkF m 45 #[iv p1, iv p2, iv p3, iv p4, iv p5, iv p6, iv p7, .val (.long (-9223372036854775808 : Int64)), .second] [(.long (p7.toInt64)), (.long (-9223372036854775808 : Int64))]))
        obtain ⟨_, _, ⟨T181, L181, k181, n181⟩, -, X181, ⟨Lc181, hQ181, l181, y181, z181⟩, st181⟩ := Jvm.LawKit.callS X0 hx (y := (⟨"java/lang/Math", "max", "(JJ)J"⟩ : MethodName)) hown (mvT hZ (hw _ (List.mem_of_getElem? (i := 76) rfl))) (mvT hZ (hw _ (List.mem_of_getElem? (i := 77) rfl))) (mvT hZ (hw _ (List.mem_of_getElem? (i := 2) rfl))) (mvT hZ (hw _ (List.mem_of_getElem? (i := 78) rfl))) (by decide) (backOf (W := 0) (rmmj l Z a0 hw [] (-9223372036854775808 : Int64) (p7.toInt64) h0 n0 Z0) hZ (hw _ (List.mem_of_getElem? (i := 78) rfl)) (hw _ (List.mem_of_getElem? (i := 2) rfl)) (by decide) (by decide)) (g := (mkF m 45 #[iv p1, iv p2, iv p3, iv p4, iv p5, iv p6, iv p7, .val (.long (-9223372036854775808 : Int64)), .second] [(.long (p7.toInt64)), (.long (-9223372036854775808 : Int64))])) rfl (by rw [hml]; rfl) (argsL := [(.long (-9223372036854775808 : Int64)), (.long (p7.toInt64))]) (rest := []) (lenOf pd__28_JJ_29_J rfl) rfl (by show 2 * 0 + _ ≤ _; exact Nat.le_of_eq rfl) (hb hby d14_45) (fun _ hv => ⟨rfl, e0, (by decide : 0 + 0 ≤ _), (by decide : 0 + 0 ≤ _)⟩)
        dsimp only [Pt.U, Pt.locs, Pt.cells, Pt.slots] at X181 l181 y181 z181 st181 hQ181
        subst l181 y181 z181
        obtain ⟨rfl, Nq181, e181⟩ := hQ181
        refine own_by st181 ?_
        have N181 := Fr.app N0 Nq181
        show own_Fin _ _ _ _ (T181.setTop (mkF m 48 #[iv p1, iv p2, iv p3, iv p4, iv p5, iv p6, iv p7, .val (.long (-9223372036854775808 : Int64)), .second] [(.long (own_mxl (-9223372036854775808 : Int64) (p7.toInt64)))]))
        refine own_go (XS.lstore X181.here hx rfl (hb hby d14_48) rfl rfl (Steps.refl _)) ?_
        show own_Fin _ _ _ _ (T181.setTop (mkF m 50 #[iv p1, iv p2, iv p3, iv p4, iv p5, iv p6, iv p7, .val (.long (own_mxl (-9223372036854775808 : Int64) (p7.toInt64))), .second] []))
        refine own_go (XS.lload X181.here hx rfl (hb hby d14_50) rfl (Steps.refl _)) ?_
        show own_Fin _ _ _ _ (T181.setTop (mkF m 52 #[iv p1, iv p2, iv p3, iv p4, iv p5, iv p6, iv p7, .val (.long (own_mxl (-9223372036854775808 : Int64) (p7.toInt64))), .second] [(.long (own_mxl (-9223372036854775808 : Int64) (p7.toInt64)))]))
        obtain ⟨fs182, hr182, hrun182, hended182, hW182, hsame182⟩ := X181.leave (v := some (.long (own_mxl (-9223372036854775808 : Int64) (p7.toInt64)))) (fun h => by rw [Bd.returns] at h; cases h)
        refine own_done (retOut X181 hx Bd.returns rfl (Or.inr (Or.inl ⟨rfl, rfl, _, rfl⟩)) (hb hby d14_52) hr182) hrun182 hended182 ⟨_, _, rfl, ?_, ⟨_, rfl⟩, hW182, hsame182.mono (by decide) (by decide)⟩
        show Qbs Z p1 p2 p3 p4 p5 p6 p7 h0 n0 _ T181.heap _
        rw [e181]
        exact ⟨(by rw [show own_b3 p1 p2 p3 p4 p5 p6 p7 = (own_mx none p7.toInt64) from by simp [own_b3, own_if, c7_162, c22_174, c37_180], ← own_lvmx (own_Wn _) p7]; rfl), N181, rfl⟩
      · refine own_go (XS.icmpYes X0.here hx rfl (pc0 := 37) (pc' := 50) rfl (hb hby d14_37) rfl (feq c37_180).2 (by decide) (by decide) (Steps.refl _)) ?_
        show own_Fin _ _ _ _ (s₁.setTop (mkF m 50 #[iv p1, iv p2, iv p3, iv p4, iv p5, iv p6, iv p7, .val (.long (-9223372036854775808 : Int64)), .second] []))
        refine own_go (XS.lload X0.here hx rfl (hb hby d14_50) rfl (Steps.refl _)) ?_
        show own_Fin _ _ _ _ (s₁.setTop (mkF m 52 #[iv p1, iv p2, iv p3, iv p4, iv p5, iv p6, iv p7, .val (.long (-9223372036854775808 : Int64)), .second] [(.long (-9223372036854775808 : Int64))]))
        obtain ⟨fs183, hr183, hrun183, hended183, hW183, hsame183⟩ := X0.leave (v := some (.long (-9223372036854775808 : Int64))) (fun h => by rw [Bd.returns] at h; cases h)
        refine own_done (retOut X0 hx Bd.returns rfl (Or.inr (Or.inl ⟨rfl, rfl, _, rfl⟩)) (hb hby d14_52) hr183) hrun183 hended183 ⟨_, _, rfl, ?_, ⟨_, rfl⟩, hW183, hsame183.mono (by decide) (by decide)⟩
        show Qbs Z p1 p2 p3 p4 p5 p6 p7 h0 n0 _ s₁.heap _
        rw [e0]
        exact ⟨(by rw [show own_b3 p1 p2 p3 p4 p5 p6 p7 = none from by simp [own_b3, own_if, c7_162, c22_174, c37_180]]; rfl), N0, rfl⟩
theorem ef_0 (m : MethodId) (x0 : Int32) (x1 : Int64) (x2 : Int32) (x3 : Int32) (x4 : Int32) (x5 : Int32) : entryFrame m #[(.int x0), (.long x1), (.int x2), (.int x3), (.int x4), (.int x5)] maxLocals = mkF m 0 #[.val (.int x0), .val (.long x1), .second, .val (.int x2), .val (.int x3), .val (.int x4), .val (.int x5), .unset, .unset, .unset, .unset, .unset, .unset, .unset, .unset, .unset, .unset, .unset, .unset, .unset, .unset, .unset, .unset, .unset, .unset, .unset, .unset] [] := by first | (simp [entryFrame, mkF, argsToLocals, Value.category, maxLocals]; done) | rfl
def Q0 (Z : State) (p1 : Int32) (q2 : Int64) (p3 : Int32) (p4 : Int32) (p5 : Int32) (p6 : Int32) (h0 : Heap) (n0 : Nat) (v : Option Value) (h : Heap) (L : List Loc) : Prop := v = some (.int 1) ∧ Fr n0 L
abbrev G0 (Z : State) (p1 : Int32) (q2 : Int64) (p3 : Int32) (p4 : Int32) (p5 : Int32) (p6 : Int32) (h0 : Heap) (n0 : Nat) (s : State) : Outcome → State → Prop := fun o U' => ∃ v L, o = .returned v ∧ Q0 Z p1 q2 p3 p4 p5 p6 h0 n0 v U'.heap L ∧ FrameEnd s o U' L 16 128
theorem pd__28_IIII_29_I : parseMethodDescriptor "(IIII)I" = some ⟨[.int, .int, .int, .int], some .int⟩ := by decide +kernel
theorem pd__28__29_V : parseMethodDescriptor "()V" = some ⟨[], none⟩ := by decide +kernel
theorem pd__28_Lcom_2f_example_2f_tidewalk_2f_tidewalk_2f_problems_2f_RunMeasures_3b_IIIIIIII_29_V : parseMethodDescriptor "(Lcom/example/tidewalk/tidewalk/problems/RunMeasures;IIIIIIII)V" = some ⟨[(.object "com/example/tidewalk/tidewalk/problems/RunMeasures"), .int, .int, .int, .int, .int, .int, .int, .int], none⟩ := by decide +kernel
theorem pd__28__29_D : parseMethodDescriptor "()D" = some ⟨[], some .double⟩ := by decide +kernel
theorem pd__28_IIIIIII_29_J : parseMethodDescriptor "(IIIIIII)J" = some ⟨[.int, .int, .int, .int, .int, .int, .int], some .long⟩ := by decide +kernel
set_option maxRecDepth 65536 in
set_option maxHeartbeats 40000000 in
theorem rm0 (l : Launch) (Z : State) (a0 : Array Value) (hw : ∀ d ∈ tables_1, d.before a0 Z = true) (ws : List Jvm.Cond) (p1 : Int32) (q2 : Int64) (p3 : Int32) (p4 : Int32) (p5 : Int32) (p6 : Int32) (h0 : Heap) (n0 : Nat) (Z0 : n0 ≤ h0.size)  :
    MetFree l x (head1 (Jvm.Cond.code x code maxLocals ret :: ws) room_1) (fun a U => a = #[(.int p1), (.long q2), (.int p3), (.int p4), (.int p5), (.int p6)] ∧ Z.Warmed39 U.vm ∧ U.heap = h0) (fun _ _ _ _ _ => True) (fun _ U o U' => ∃ v L, o = .returned v ∧ Q0 Z p1 q2 p3 p4 p5 p6 h0 n0 v U'.heap L ∧ FrameEnd U o U' L 16 128) := by
  refine MetFree.of_bodySF (plainFor_of_name pn_com_example_tidewalk_tidewalk_problems_RunMeasuresBestErrorBeforeChangePinLaw) hisR ?_
  intro p e s m args below meth c s₁ Bd hml0 hP hK
  obtain ⟨rfl, hZ, hh⟩ := hP
  have hx := Bd.exec
  have hby := Bd.bytes
  have hml : c.maxLocals = 27 := hml0
  have hown : s.vm.findClass "com/example/tidewalk/tidewalk/problems/RunMeasuresBestErrorBeforeChangePinLaw" = some m.cls := findClass_of_methodNamed Bd.named
  have hnm := (name_of_methodNamed Bd.named Bd.method).1
  have X0 : Stand p l e room_1 s m #[(.int p1), (.long q2), (.int p3), (.int p4), (.int p5), (.int p6)] below meth c s₁ [] 0 0 := Stand.of_body Bd
  have e0 : s₁.heap = h0 := by rw [← hh, Bd.state]; rfl
  have es0 : s.heap = h0 := hh
  have N0 := Fr.nil n0
  show own_Fin p e below (G0 Z p1 q2 p3 p4 p5 p6 h0 n0 s) (s₁.setTop (entryFrame m #[(.int p1), (.long q2), (.int p3), (.int p4), (.int p5), (.int p6)] maxLocals))
  rw [ef_0 m p1 q2 p3 p4 p5 p6]
  refine own_go (XS.iloadN X0.here hx rfl (hb hby at_0) rfl (Steps.refl _)) ?_
  show own_Fin _ _ _ _ (s₁.setTop (mkF m 1 #[iv p1, .val (.long q2), .second, iv p3, iv p4, iv p5, iv p6, .unset, .unset, .unset, .unset, .unset, .unset, .unset, .unset, .unset, .unset, .unset, .unset, .unset, .unset, .unset, .unset, .unset, .unset, .unset, .unset] [(.int p1)]))
  refine own_go (XS.iconst X0.here hx rfl (hb hby at_1) (Steps.refl _)) ?_
  show own_Fin _ _ _ _ (s₁.setTop (mkF m 2 #[iv p1, .val (.long q2), .second, iv p3, iv p4, iv p5, iv p6, .unset, .unset, .unset, .unset, .unset, .unset, .unset, .unset, .unset, .unset, .unset, .unset, .unset, .unset, .unset, .unset, .unset, .unset, .unset, .unset] [(.int (3 : Int32)), (.int p1)]))
  refine own_go (XS.iand X0.here hx rfl (hb hby at_2) rfl (Steps.refl _)) ?_
  show own_Fin _ _ _ _ (s₁.setTop (mkF m 3 #[iv p1, .val (.long q2), .second, iv p3, iv p4, iv p5, iv p6, .unset, .unset, .unset, .unset, .unset, .unset, .unset, .unset, .unset, .unset, .unset, .unset, .unset, .unset, .unset, .unset, .unset, .unset, .unset, .unset] [(.int (p1 &&& (3 : Int32)))]))
  refine own_go (XS.iconst X0.here hx rfl (hb hby at_3) (Steps.refl _)) ?_
  show own_Fin _ _ _ _ (s₁.setTop (mkF m 4 #[iv p1, .val (.long q2), .second, iv p3, iv p4, iv p5, iv p6, .unset, .unset, .unset, .unset, .unset, .unset, .unset, .unset, .unset, .unset, .unset, .unset, .unset, .unset, .unset, .unset, .unset, .unset, .unset, .unset] [(.int (3 : Int32)), (.int (p1 &&& (3 : Int32)))]))
  refine own_go (iremM X0 hx rfl (hb hby at_4) rfl (by decide) (Steps.refl _)) ?_
  show own_Fin _ _ _ _ (s₁.setTop (mkF m 5 #[iv p1, .val (.long q2), .second, iv p3, iv p4, iv p5, iv p6, .unset, .unset, .unset, .unset, .unset, .unset, .unset, .unset, .unset, .unset, .unset, .unset, .unset, .unset, .unset, .unset, .unset, .unset, .unset, .unset] [(.int ((p1 &&& (3 : Int32)) % (3 : Int32)))]))
  refine own_go (XS.iconst X0.here hx rfl (hb hby at_5) (Steps.refl _)) ?_
  show own_Fin _ _ _ _ (s₁.setTop (mkF m 6 #[iv p1, .val (.long q2), .second, iv p3, iv p4, iv p5, iv p6, .unset, .unset, .unset, .unset, .unset, .unset, .unset, .unset, .unset, .unset, .unset, .unset, .unset, .unset, .unset, .unset, .unset, .unset, .unset, .unset] [(.int (1 : Int32)), (.int ((p1 &&& (3 : Int32)) % (3 : Int32)))]))
  refine own_go (XS.iadd X0.here hx rfl (hb hby at_6) rfl (Steps.refl _)) ?_
  show own_Fin _ _ _ _ (s₁.setTop (mkF m 7 #[iv p1, .val (.long q2), .second, iv p3, iv p4, iv p5, iv p6, .unset, .unset, .unset, .unset, .unset, .unset, .unset, .unset, .unset, .unset, .unset, .unset, .unset, .unset, .unset, .unset, .unset, .unset, .unset, .unset] [(.int (((p1 &&& (3 : Int32)) % (3 : Int32)) + (1 : Int32)))]))
  refine own_go (XS.istore X0.here hx rfl (hb hby at_7) rfl rfl (Steps.refl _)) ?_
  show own_Fin _ _ _ _ (s₁.setTop (mkF m 9 #[iv p1, .val (.long q2), .second, iv p3, iv p4, iv p5, iv p6, iv (((p1 &&& (3 : Int32)) % (3 : Int32)) + (1 : Int32)), .unset, .unset, .unset, .unset, .unset, .unset, .unset, .unset, .unset, .unset, .unset, .unset, .unset, .unset, .unset, .unset, .unset, .unset, .unset] []))
  generalize hz_v7_184 : (((p1 &&& (3 : Int32)) % (3 : Int32)) + (1 : Int32)) = v7_184
  have hcs185 : v7_184 = (1 : Int32) ∨ v7_184 = (2 : Int32) ∨ v7_184 = (3 : Int32) := hz_v7_184 ▸ own_k3 p1
  rcases hcs185 with rfl | rfl | rfl
  · show own_Fin _ _ _ _ (s₁.setTop (mkF m 9 #[iv p1, .val (.long q2), .second, iv p3, iv p4, iv p5, iv p6, iv (1 : Int32), .unset, .unset, .unset, .unset, .unset, .unset, .unset, .unset, .unset, .unset, .unset, .unset, .unset, .unset, .unset, .unset, .unset, .unset, .unset] []))
    refine own_go (XS.iloadN X0.here hx rfl (hb hby at_9) rfl (Steps.refl _)) ?_
    show own_Fin _ _ _ _ (s₁.setTop (mkF m 10 #[iv p1, .val (.long q2), .second, iv p3, iv p4, iv p5, iv p6, iv (1 : Int32), .unset, .unset, .unset, .unset, .unset, .unset, .unset, .unset, .unset, .unset, .unset, .unset, .unset, .unset, .unset, .unset, .unset, .unset, .unset] [(.int p1)]))
    refine own_go (XS.iconst X0.here hx rfl (hb hby at_10) (Steps.refl _)) ?_
    show own_Fin _ _ _ _ (s₁.setTop (mkF m 11 #[iv p1, .val (.long q2), .second, iv p3, iv p4, iv p5, iv p6, iv (1 : Int32), .unset, .unset, .unset, .unset, .unset, .unset, .unset, .unset, .unset, .unset, .unset, .unset, .unset, .unset, .unset, .unset, .unset, .unset, .unset] [(.int (2 : Int32)), (.int p1)]))
    refine own_go (XS.iushr X0.here hx rfl (hb hby at_11) rfl (Steps.refl _)) ?_
    show own_Fin _ _ _ _ (s₁.setTop (mkF m 12 #[iv p1, .val (.long q2), .second, iv p3, iv p4, iv p5, iv p6, iv (1 : Int32), .unset, .unset, .unset, .unset, .unset, .unset, .unset, .unset, .unset, .unset, .unset, .unset, .unset, .unset, .unset, .unset, .unset, .unset, .unset] [(.int ((p1.toUInt32 >>> ((2 : Int32) &&& 31).toUInt32).toInt32))]))
    refine own_go (XS.iconst X0.here hx rfl (hb hby at_12) (Steps.refl _)) ?_
    show own_Fin _ _ _ _ (s₁.setTop (mkF m 13 #[iv p1, .val (.long q2), .second, iv p3, iv p4, iv p5, iv p6, iv (1 : Int32), .unset, .unset, .unset, .unset, .unset, .unset, .unset, .unset, .unset, .unset, .unset, .unset, .unset, .unset, .unset, .unset, .unset, .unset, .unset] [(.int (3 : Int32)), (.int ((p1.toUInt32 >>> ((2 : Int32) &&& 31).toUInt32).toInt32))]))
    refine own_go (XS.iand X0.here hx rfl (hb hby at_13) rfl (Steps.refl _)) ?_
    show own_Fin _ _ _ _ (s₁.setTop (mkF m 14 #[iv p1, .val (.long q2), .second, iv p3, iv p4, iv p5, iv p6, iv (1 : Int32), .unset, .unset, .unset, .unset, .unset, .unset, .unset, .unset, .unset, .unset, .unset, .unset, .unset, .unset, .unset, .unset, .unset, .unset, .unset] [(.int (((p1.toUInt32 >>> ((2 : Int32) &&& 31).toUInt32).toInt32) &&& (3 : Int32)))]))
    refine own_go (XS.istore X0.here hx rfl (hb hby at_14) rfl rfl (Steps.refl _)) ?_
    show own_Fin _ _ _ _ (s₁.setTop (mkF m 16 #[iv p1, .val (.long q2), .second, iv p3, iv p4, iv p5, iv p6, iv (1 : Int32), iv (((p1.toUInt32 >>> ((2 : Int32) &&& 31).toUInt32).toInt32) &&& (3 : Int32)), .unset, .unset, .unset, .unset, .unset, .unset, .unset, .unset, .unset, .unset, .unset, .unset, .unset, .unset, .unset, .unset, .unset, .unset] []))
    generalize hz_v8_186 : (((p1.toUInt32 >>> ((2 : Int32) &&& 31).toUInt32).toInt32) &&& (3 : Int32)) = v8_186
    refine own_go (XS.iloadN X0.here hx rfl (hb hby at_16) rfl (Steps.refl _)) ?_
    show own_Fin _ _ _ _ (s₁.setTop (mkF m 17 #[iv p1, .val (.long q2), .second, iv p3, iv p4, iv p5, iv p6, iv (1 : Int32), iv v8_186, .unset, .unset, .unset, .unset, .unset, .unset, .unset, .unset, .unset, .unset, .unset, .unset, .unset, .unset, .unset, .unset, .unset, .unset] [(.int p1)]))
    refine own_go (XS.iconst X0.here hx rfl (hb hby at_17) (Steps.refl _)) ?_
    show own_Fin _ _ _ _ (s₁.setTop (mkF m 18 #[iv p1, .val (.long q2), .second, iv p3, iv p4, iv p5, iv p6, iv (1 : Int32), iv v8_186, .unset, .unset, .unset, .unset, .unset, .unset, .unset, .unset, .unset, .unset, .unset, .unset, .unset, .unset, .unset, .unset, .unset, .unset] [(.int (4 : Int32)), (.int p1)]))
    refine own_go (XS.iushr X0.here hx rfl (hb hby at_18) rfl (Steps.refl _)) ?_
    show own_Fin _ _ _ _ (s₁.setTop (mkF m 19 #[iv p1, .val (.long q2), .second, iv p3, iv p4, iv p5, iv p6, iv (1 : Int32), iv v8_186, .unset, .unset, .unset, .unset, .unset, .unset, .unset, .unset, .unset, .unset, .unset, .unset, .unset, .unset, .unset, .unset, .unset, .unset] [(.int ((p1.toUInt32 >>> ((4 : Int32) &&& 31).toUInt32).toInt32))]))
    refine own_go (XS.iconst X0.here hx rfl (hb hby at_19) (Steps.refl _)) ?_
    show own_Fin _ _ _ _ (s₁.setTop (mkF m 20 #[iv p1, .val (.long q2), .second, iv p3, iv p4, iv p5, iv p6, iv (1 : Int32), iv v8_186, .unset, .unset, .unset, .unset, .unset, .unset, .unset, .unset, .unset, .unset, .unset, .unset, .unset, .unset, .unset, .unset, .unset, .unset] [(.int (3 : Int32)), (.int ((p1.toUInt32 >>> ((4 : Int32) &&& 31).toUInt32).toInt32))]))
    refine own_go (XS.iand X0.here hx rfl (hb hby at_20) rfl (Steps.refl _)) ?_
    show own_Fin _ _ _ _ (s₁.setTop (mkF m 21 #[iv p1, .val (.long q2), .second, iv p3, iv p4, iv p5, iv p6, iv (1 : Int32), iv v8_186, .unset, .unset, .unset, .unset, .unset, .unset, .unset, .unset, .unset, .unset, .unset, .unset, .unset, .unset, .unset, .unset, .unset, .unset] [(.int (((p1.toUInt32 >>> ((4 : Int32) &&& 31).toUInt32).toInt32) &&& (3 : Int32)))]))
    refine own_go (XS.istore X0.here hx rfl (hb hby at_21) rfl rfl (Steps.refl _)) ?_
    show own_Fin _ _ _ _ (s₁.setTop (mkF m 23 #[iv p1, .val (.long q2), .second, iv p3, iv p4, iv p5, iv p6, iv (1 : Int32), iv v8_186, iv (((p1.toUInt32 >>> ((4 : Int32) &&& 31).toUInt32).toInt32) &&& (3 : Int32)), .unset, .unset, .unset, .unset, .unset, .unset, .unset, .unset, .unset, .unset, .unset, .unset, .unset, .unset, .unset, .unset, .unset] []))
    generalize hz_v9_187 : (((p1.toUInt32 >>> ((4 : Int32) &&& 31).toUInt32).toInt32) &&& (3 : Int32)) = v9_187
    refine own_go (XS.iload X0.here hx rfl (hb hby at_23) rfl (Steps.refl _)) ?_
    show own_Fin _ _ _ _ (s₁.setTop (mkF m 25 #[iv p1, .val (.long q2), .second, iv p3, iv p4, iv p5, iv p6, iv (1 : Int32), iv v8_186, iv v9_187, .unset, .unset, .unset, .unset, .unset, .unset, .unset, .unset, .unset, .unset, .unset, .unset, .unset, .unset, .unset, .unset, .unset] [(.int v8_186)]))
    refine own_go (XS.iload X0.here hx rfl (hb hby at_25) rfl (Steps.refl _)) ?_
    show own_Fin _ _ _ _ (s₁.setTop (mkF m 27 #[iv p1, .val (.long q2), .second, iv p3, iv p4, iv p5, iv p6, iv (1 : Int32), iv v8_186, iv v9_187, .unset, .unset, .unset, .unset, .unset, .unset, .unset, .unset, .unset, .unset, .unset, .unset, .unset, .unset, .unset, .unset, .unset] [(.int v9_187), (.int v8_186)]))
    obtain ⟨_, _, ⟨T188, L188, k188, n188⟩, -, X188, ⟨Lc188, hQ188, l188, y188, z188⟩, st188⟩ := Jvm.LawKit.callS X0 hx (y := (⟨"java/lang/Math", "min", "(II)I"⟩ : MethodName)) hown (mvT hZ (hw _ (List.mem_of_getElem? (i := 0) rfl))) (mvT hZ (hw _ (List.mem_of_getElem? (i := 1) rfl))) (mvT hZ (hw _ (List.mem_of_getElem? (i := 2) rfl))) (mvT hZ (hw _ (List.mem_of_getElem? (i := 3) rfl))) (by decide) (backOf (W := 0) (rmmi l Z a0 hw [] v8_186 v9_187 h0 n0 Z0) hZ (hw _ (List.mem_of_getElem? (i := 3) rfl)) (hw _ (List.mem_of_getElem? (i := 2) rfl)) (by decide) (by decide)) (g := (mkF m 27 #[iv p1, .val (.long q2), .second, iv p3, iv p4, iv p5, iv p6, iv (1 : Int32), iv v8_186, iv v9_187, .unset, .unset, .unset, .unset, .unset, .unset, .unset, .unset, .unset, .unset, .unset, .unset, .unset, .unset, .unset, .unset, .unset] [(.int v9_187), (.int v8_186)])) rfl (by rw [hml]; rfl) (argsL := [(.int v8_186), (.int v9_187)]) (rest := []) (lenOf pd__28_II_29_I rfl) rfl (by show 2 * 0 + _ ≤ _; exact Nat.le_of_eq rfl) (hb hby at_27) (fun _ hv => ⟨rfl, e0, (by decide : 0 + 0 ≤ _), (by decide : 0 + 0 ≤ _)⟩)
    dsimp only [Pt.U, Pt.locs, Pt.cells, Pt.slots] at X188 l188 y188 z188 st188 hQ188
    subst l188 y188 z188
    obtain ⟨rfl, Nq188, e188⟩ := hQ188
    refine own_by st188 ?_
    have N188 := Fr.app N0 Nq188
    show own_Fin _ _ _ _ (T188.setTop (mkF m 30 #[iv p1, .val (.long q2), .second, iv p3, iv p4, iv p5, iv p6, iv (1 : Int32), iv v8_186, iv v9_187, .unset, .unset, .unset, .unset, .unset, .unset, .unset, .unset, .unset, .unset, .unset, .unset, .unset, .unset, .unset, .unset, .unset] [(.int (own_mn v8_186 v9_187))]))
    refine own_go (XS.istore X188.here hx rfl (hb hby at_30) rfl rfl (Steps.refl _)) ?_
    show own_Fin _ _ _ _ (T188.setTop (mkF m 32 #[iv p1, .val (.long q2), .second, iv p3, iv p4, iv p5, iv p6, iv (1 : Int32), iv v8_186, iv v9_187, iv (own_mn v8_186 v9_187), .unset, .unset, .unset, .unset, .unset, .unset, .unset, .unset, .unset, .unset, .unset, .unset, .unset, .unset, .unset, .unset] []))
    generalize hz_v10_189 : (own_mn v8_186 v9_187) = v10_189
    refine own_go (XS.iload X188.here hx rfl (hb hby at_32) rfl (Steps.refl _)) ?_
    show own_Fin _ _ _ _ (T188.setTop (mkF m 34 #[iv p1, .val (.long q2), .second, iv p3, iv p4, iv p5, iv p6, iv (1 : Int32), iv v8_186, iv v9_187, iv v10_189, .unset, .unset, .unset, .unset, .unset, .unset, .unset, .unset, .unset, .unset, .unset, .unset, .unset, .unset, .unset, .unset] [(.int v8_186)]))
    refine own_go (XS.iload X188.here hx rfl (hb hby at_34) rfl (Steps.refl _)) ?_
    show own_Fin _ _ _ _ (T188.setTop (mkF m 36 #[iv p1, .val (.long q2), .second, iv p3, iv p4, iv p5, iv p6, iv (1 : Int32), iv v8_186, iv v9_187, iv v10_189, .unset, .unset, .unset, .unset, .unset, .unset, .unset, .unset, .unset, .unset, .unset, .unset, .unset, .unset, .unset, .unset] [(.int v9_187), (.int v8_186)]))
    obtain ⟨_, _, ⟨T190, L190, k190, n190⟩, -, X190, ⟨Lc190, hQ190, l190, y190, z190⟩, st190⟩ := Jvm.LawKit.callS X188 hx (y := (⟨"java/lang/Math", "max", "(II)I"⟩ : MethodName)) hown (mvT hZ (hw _ (List.mem_of_getElem? (i := 4) rfl))) (mvT hZ (hw _ (List.mem_of_getElem? (i := 5) rfl))) (mvT hZ (hw _ (List.mem_of_getElem? (i := 2) rfl))) (mvT hZ (hw _ (List.mem_of_getElem? (i := 6) rfl))) (by decide) (backOf (W := 0) (rmma l Z a0 hw [] v8_186 v9_187 h0 n0 Z0) hZ (hw _ (List.mem_of_getElem? (i := 6) rfl)) (hw _ (List.mem_of_getElem? (i := 2) rfl)) (by decide) (by decide)) (g := (mkF m 36 #[iv p1, .val (.long q2), .second, iv p3, iv p4, iv p5, iv p6, iv (1 : Int32), iv v8_186, iv v9_187, iv v10_189, .unset, .unset, .unset, .unset, .unset, .unset, .unset, .unset, .unset, .unset, .unset, .unset, .unset, .unset, .unset, .unset] [(.int v9_187), (.int v8_186)])) rfl (by rw [hml]; rfl) (argsL := [(.int v8_186), (.int v9_187)]) (rest := []) (lenOf pd__28_II_29_I rfl) rfl (by show 2 * 0 + _ ≤ _; exact Nat.le_of_eq rfl) (hb hby at_36) (fun _ hv => ⟨rfl, e188, (by decide : 0 + 0 ≤ _), (by decide : 0 + 0 ≤ _)⟩)
    dsimp only [Pt.U, Pt.locs, Pt.cells, Pt.slots] at X190 l190 y190 z190 st190 hQ190
    subst l190 y190 z190
    obtain ⟨rfl, Nq190, e190⟩ := hQ190
    refine own_by st190 ?_
    have N190 := Fr.app N188 Nq190
    show own_Fin _ _ _ _ (T190.setTop (mkF m 39 #[iv p1, .val (.long q2), .second, iv p3, iv p4, iv p5, iv p6, iv (1 : Int32), iv v8_186, iv v9_187, iv v10_189, .unset, .unset, .unset, .unset, .unset, .unset, .unset, .unset, .unset, .unset, .unset, .unset, .unset, .unset, .unset, .unset] [(.int (own_mi v8_186 v9_187))]))
    refine own_go (XS.istore X190.here hx rfl (hb hby at_39) rfl rfl (Steps.refl _)) ?_
    show own_Fin _ _ _ _ (T190.setTop (mkF m 41 #[iv p1, .val (.long q2), .second, iv p3, iv p4, iv p5, iv p6, iv (1 : Int32), iv v8_186, iv v9_187, iv v10_189, iv (own_mi v8_186 v9_187), .unset, .unset, .unset, .unset, .unset, .unset, .unset, .unset, .unset, .unset, .unset, .unset, .unset, .unset, .unset] []))
    generalize hz_v11_191 : (own_mi v8_186 v9_187) = v11_191
    refine own_go (XS.iconst X190.here hx rfl (hb hby at_41) (Steps.refl _)) ?_
    show own_Fin _ _ _ _ (T190.setTop (mkF m 42 #[iv p1, .val (.long q2), .second, iv p3, iv p4, iv p5, iv p6, iv (1 : Int32), iv v8_186, iv v9_187, iv v10_189, iv v11_191, .unset, .unset, .unset, .unset, .unset, .unset, .unset, .unset, .unset, .unset, .unset, .unset, .unset, .unset, .unset] [(.int (0 : Int32))]))
    refine own_go (XS.iload X190.here hx rfl (hb hby at_42) rfl (Steps.refl _)) ?_
    show own_Fin _ _ _ _ (T190.setTop (mkF m 44 #[iv p1, .val (.long q2), .second, iv p3, iv p4, iv p5, iv p6, iv (1 : Int32), iv v8_186, iv v9_187, iv v10_189, iv v11_191, .unset, .unset, .unset, .unset, .unset, .unset, .unset, .unset, .unset, .unset, .unset, .unset, .unset, .unset, .unset] [(.int v10_189), (.int (0 : Int32))]))
    refine own_go (XS.iload X190.here hx rfl (hb hby at_44) rfl (Steps.refl _)) ?_
    show own_Fin _ _ _ _ (T190.setTop (mkF m 46 #[iv p1, .val (.long q2), .second, iv p3, iv p4, iv p5, iv p6, iv (1 : Int32), iv v8_186, iv v9_187, iv v10_189, iv v11_191, .unset, .unset, .unset, .unset, .unset, .unset, .unset, .unset, .unset, .unset, .unset, .unset, .unset, .unset, .unset] [(.int v11_191), (.int v10_189), (.int (0 : Int32))]))
    refine own_go (XS.iload X190.here hx rfl (hb hby at_46) rfl (Steps.refl _)) ?_
    show own_Fin _ _ _ _ (T190.setTop (mkF m 48 #[iv p1, .val (.long q2), .second, iv p3, iv p4, iv p5, iv p6, iv (1 : Int32), iv v8_186, iv v9_187, iv v10_189, iv v11_191, .unset, .unset, .unset, .unset, .unset, .unset, .unset, .unset, .unset, .unset, .unset, .unset, .unset, .unset, .unset] [(.int (1 : Int32)), (.int v11_191), (.int v10_189), (.int (0 : Int32))]))
    obtain ⟨_, _, ⟨T192, L192, k192, n192⟩, -, X192, ⟨Lc192, hQ192, l192, y192, z192⟩, st192⟩ := Jvm.LawKit.callS X190 hx (y := (⟨"com/example/tidewalk/tidewalk/problems/RunMeasuresBestErrorBeforeChangePinLaw", "slot", "(IIII)I"⟩ : MethodName)) hown (mvT hZ (hw _ (List.mem_of_getElem? (i := 7) rfl))) (mvT hZ (hw _ (List.mem_of_getElem? (i := 8) rfl))) (mvT hZ (hw _ (List.mem_of_getElem? (i := 9) rfl))) (mvT hZ (hw _ (List.mem_of_getElem? (i := 10) rfl))) (by decide) (backOf (W := 0) (rmsl l Z a0 hw [] (0 : Int32) v10_189 v11_191 (1 : Int32) h0 n0 Z0) hZ (hw _ (List.mem_of_getElem? (i := 10) rfl)) (hw _ (List.mem_of_getElem? (i := 9) rfl)) (by decide) (by decide)) (g := (mkF m 48 #[iv p1, .val (.long q2), .second, iv p3, iv p4, iv p5, iv p6, iv (1 : Int32), iv v8_186, iv v9_187, iv v10_189, iv v11_191, .unset, .unset, .unset, .unset, .unset, .unset, .unset, .unset, .unset, .unset, .unset, .unset, .unset, .unset, .unset] [(.int (1 : Int32)), (.int v11_191), (.int v10_189), (.int (0 : Int32))])) rfl (by rw [hml]; rfl) (argsL := [(.int (0 : Int32)), (.int v10_189), (.int v11_191), (.int (1 : Int32))]) (rest := []) (lenOf pd__28_IIII_29_I rfl) rfl (by show 2 * 0 + _ ≤ _; exact Nat.le_of_eq rfl) (hb hby at_48) (fun _ hv => ⟨rfl, e190, (by decide : 0 + 0 ≤ _), (by decide : 0 + 0 ≤ _)⟩)
    dsimp only [Pt.U, Pt.locs, Pt.cells, Pt.slots] at X192 l192 y192 z192 st192 hQ192
    subst l192 y192 z192
    obtain ⟨rfl, Nq192, e192⟩ := hQ192
    refine own_by st192 ?_
    have N192 := Fr.app N190 Nq192
    show own_Fin _ _ _ _ (T192.setTop (mkF m 51 #[iv p1, .val (.long q2), .second, iv p3, iv p4, iv p5, iv p6, iv (1 : Int32), iv v8_186, iv v9_187, iv v10_189, iv v11_191, .unset, .unset, .unset, .unset, .unset, .unset, .unset, .unset, .unset, .unset, .unset, .unset, .unset, .unset, .unset] [(.int (own_sl (0 : Int32) v10_189 v11_191 (1 : Int32)))]))
    refine own_go (XS.istore X192.here hx rfl (hb hby at_51) rfl rfl (Steps.refl _)) ?_
    show own_Fin _ _ _ _ (T192.setTop (mkF m 53 #[iv p1, .val (.long q2), .second, iv p3, iv p4, iv p5, iv p6, iv (1 : Int32), iv v8_186, iv v9_187, iv v10_189, iv v11_191, iv (own_sl (0 : Int32) v10_189 v11_191 (1 : Int32)), .unset, .unset, .unset, .unset, .unset, .unset, .unset, .unset, .unset, .unset, .unset, .unset, .unset, .unset] []))
    generalize hz_v12_193 : (own_sl (0 : Int32) v10_189 v11_191 (1 : Int32)) = v12_193
    refine own_go (XS.iconst X192.here hx rfl (hb hby at_53) (Steps.refl _)) ?_
    show own_Fin _ _ _ _ (T192.setTop (mkF m 54 #[iv p1, .val (.long q2), .second, iv p3, iv p4, iv p5, iv p6, iv (1 : Int32), iv v8_186, iv v9_187, iv v10_189, iv v11_191, iv v12_193, .unset, .unset, .unset, .unset, .unset, .unset, .unset, .unset, .unset, .unset, .unset, .unset, .unset, .unset] [(.int (1 : Int32))]))
    refine own_go (XS.iload X192.here hx rfl (hb hby at_54) rfl (Steps.refl _)) ?_
    show own_Fin _ _ _ _ (T192.setTop (mkF m 56 #[iv p1, .val (.long q2), .second, iv p3, iv p4, iv p5, iv p6, iv (1 : Int32), iv v8_186, iv v9_187, iv v10_189, iv v11_191, iv v12_193, .unset, .unset, .unset, .unset, .unset, .unset, .unset, .unset, .unset, .unset, .unset, .unset, .unset, .unset] [(.int v10_189), (.int (1 : Int32))]))
    refine own_go (XS.iload X192.here hx rfl (hb hby at_56) rfl (Steps.refl _)) ?_
    show own_Fin _ _ _ _ (T192.setTop (mkF m 58 #[iv p1, .val (.long q2), .second, iv p3, iv p4, iv p5, iv p6, iv (1 : Int32), iv v8_186, iv v9_187, iv v10_189, iv v11_191, iv v12_193, .unset, .unset, .unset, .unset, .unset, .unset, .unset, .unset, .unset, .unset, .unset, .unset, .unset, .unset] [(.int v11_191), (.int v10_189), (.int (1 : Int32))]))
    refine own_go (XS.iload X192.here hx rfl (hb hby at_58) rfl (Steps.refl _)) ?_
    show own_Fin _ _ _ _ (T192.setTop (mkF m 60 #[iv p1, .val (.long q2), .second, iv p3, iv p4, iv p5, iv p6, iv (1 : Int32), iv v8_186, iv v9_187, iv v10_189, iv v11_191, iv v12_193, .unset, .unset, .unset, .unset, .unset, .unset, .unset, .unset, .unset, .unset, .unset, .unset, .unset, .unset] [(.int (1 : Int32)), (.int v11_191), (.int v10_189), (.int (1 : Int32))]))
    obtain ⟨_, _, ⟨T194, L194, k194, n194⟩, -, X194, ⟨Lc194, hQ194, l194, y194, z194⟩, st194⟩ := Jvm.LawKit.callS X192 hx (y := (⟨"com/example/tidewalk/tidewalk/problems/RunMeasuresBestErrorBeforeChangePinLaw", "slot", "(IIII)I"⟩ : MethodName)) hown (mvT hZ (hw _ (List.mem_of_getElem? (i := 7) rfl))) (mvT hZ (hw _ (List.mem_of_getElem? (i := 8) rfl))) (mvT hZ (hw _ (List.mem_of_getElem? (i := 9) rfl))) (mvT hZ (hw _ (List.mem_of_getElem? (i := 10) rfl))) (by decide) (backOf (W := 0) (rmsl l Z a0 hw [] (1 : Int32) v10_189 v11_191 (1 : Int32) h0 n0 Z0) hZ (hw _ (List.mem_of_getElem? (i := 10) rfl)) (hw _ (List.mem_of_getElem? (i := 9) rfl)) (by decide) (by decide)) (g := (mkF m 60 #[iv p1, .val (.long q2), .second, iv p3, iv p4, iv p5, iv p6, iv (1 : Int32), iv v8_186, iv v9_187, iv v10_189, iv v11_191, iv v12_193, .unset, .unset, .unset, .unset, .unset, .unset, .unset, .unset, .unset, .unset, .unset, .unset, .unset, .unset] [(.int (1 : Int32)), (.int v11_191), (.int v10_189), (.int (1 : Int32))])) rfl (by rw [hml]; rfl) (argsL := [(.int (1 : Int32)), (.int v10_189), (.int v11_191), (.int (1 : Int32))]) (rest := []) (lenOf pd__28_IIII_29_I rfl) rfl (by show 2 * 0 + _ ≤ _; exact Nat.le_of_eq rfl) (hb hby at_60) (fun _ hv => ⟨rfl, e192, (by decide : 0 + 0 ≤ _), (by decide : 0 + 0 ≤ _)⟩)
    dsimp only [Pt.U, Pt.locs, Pt.cells, Pt.slots] at X194 l194 y194 z194 st194 hQ194
    subst l194 y194 z194
    obtain ⟨rfl, Nq194, e194⟩ := hQ194
    refine own_by st194 ?_
    have N194 := Fr.app N192 Nq194
    show own_Fin _ _ _ _ (T194.setTop (mkF m 63 #[iv p1, .val (.long q2), .second, iv p3, iv p4, iv p5, iv p6, iv (1 : Int32), iv v8_186, iv v9_187, iv v10_189, iv v11_191, iv v12_193, .unset, .unset, .unset, .unset, .unset, .unset, .unset, .unset, .unset, .unset, .unset, .unset, .unset, .unset] [(.int (own_sl (1 : Int32) v10_189 v11_191 (1 : Int32)))]))
    refine own_go (XS.istore X194.here hx rfl (hb hby at_63) rfl rfl (Steps.refl _)) ?_
    show own_Fin _ _ _ _ (T194.setTop (mkF m 65 #[iv p1, .val (.long q2), .second, iv p3, iv p4, iv p5, iv p6, iv (1 : Int32), iv v8_186, iv v9_187, iv v10_189, iv v11_191, iv v12_193, iv (own_sl (1 : Int32) v10_189 v11_191 (1 : Int32)), .unset, .unset, .unset, .unset, .unset, .unset, .unset, .unset, .unset, .unset, .unset, .unset, .unset] []))
    generalize hz_v13_195 : (own_sl (1 : Int32) v10_189 v11_191 (1 : Int32)) = v13_195
    refine own_go (XS.iconst X194.here hx rfl (hb hby at_65) (Steps.refl _)) ?_
    show own_Fin _ _ _ _ (T194.setTop (mkF m 66 #[iv p1, .val (.long q2), .second, iv p3, iv p4, iv p5, iv p6, iv (1 : Int32), iv v8_186, iv v9_187, iv v10_189, iv v11_191, iv v12_193, iv v13_195, .unset, .unset, .unset, .unset, .unset, .unset, .unset, .unset, .unset, .unset, .unset, .unset, .unset] [(.int (2 : Int32))]))
    refine own_go (XS.iload X194.here hx rfl (hb hby at_66) rfl (Steps.refl _)) ?_
    show own_Fin _ _ _ _ (T194.setTop (mkF m 68 #[iv p1, .val (.long q2), .second, iv p3, iv p4, iv p5, iv p6, iv (1 : Int32), iv v8_186, iv v9_187, iv v10_189, iv v11_191, iv v12_193, iv v13_195, .unset, .unset, .unset, .unset, .unset, .unset, .unset, .unset, .unset, .unset, .unset, .unset, .unset] [(.int v10_189), (.int (2 : Int32))]))
    refine own_go (XS.iload X194.here hx rfl (hb hby at_68) rfl (Steps.refl _)) ?_
    show own_Fin _ _ _ _ (T194.setTop (mkF m 70 #[iv p1, .val (.long q2), .second, iv p3, iv p4, iv p5, iv p6, iv (1 : Int32), iv v8_186, iv v9_187, iv v10_189, iv v11_191, iv v12_193, iv v13_195, .unset, .unset, .unset, .unset, .unset, .unset, .unset, .unset, .unset, .unset, .unset, .unset, .unset] [(.int v11_191), (.int v10_189), (.int (2 : Int32))]))
    refine own_go (XS.iload X194.here hx rfl (hb hby at_70) rfl (Steps.refl _)) ?_
    show own_Fin _ _ _ _ (T194.setTop (mkF m 72 #[iv p1, .val (.long q2), .second, iv p3, iv p4, iv p5, iv p6, iv (1 : Int32), iv v8_186, iv v9_187, iv v10_189, iv v11_191, iv v12_193, iv v13_195, .unset, .unset, .unset, .unset, .unset, .unset, .unset, .unset, .unset, .unset, .unset, .unset, .unset] [(.int (1 : Int32)), (.int v11_191), (.int v10_189), (.int (2 : Int32))]))
    obtain ⟨_, _, ⟨T196, L196, k196, n196⟩, -, X196, ⟨Lc196, hQ196, l196, y196, z196⟩, st196⟩ := Jvm.LawKit.callS X194 hx (y := (⟨"com/example/tidewalk/tidewalk/problems/RunMeasuresBestErrorBeforeChangePinLaw", "slot", "(IIII)I"⟩ : MethodName)) hown (mvT hZ (hw _ (List.mem_of_getElem? (i := 7) rfl))) (mvT hZ (hw _ (List.mem_of_getElem? (i := 8) rfl))) (mvT hZ (hw _ (List.mem_of_getElem? (i := 9) rfl))) (mvT hZ (hw _ (List.mem_of_getElem? (i := 10) rfl))) (by decide) (backOf (W := 0) (rmsl l Z a0 hw [] (2 : Int32) v10_189 v11_191 (1 : Int32) h0 n0 Z0) hZ (hw _ (List.mem_of_getElem? (i := 10) rfl)) (hw _ (List.mem_of_getElem? (i := 9) rfl)) (by decide) (by decide)) (g := (mkF m 72 #[iv p1, .val (.long q2), .second, iv p3, iv p4, iv p5, iv p6, iv (1 : Int32), iv v8_186, iv v9_187, iv v10_189, iv v11_191, iv v12_193, iv v13_195, .unset, .unset, .unset, .unset, .unset, .unset, .unset, .unset, .unset, .unset, .unset, .unset, .unset] [(.int (1 : Int32)), (.int v11_191), (.int v10_189), (.int (2 : Int32))])) rfl (by rw [hml]; rfl) (argsL := [(.int (2 : Int32)), (.int v10_189), (.int v11_191), (.int (1 : Int32))]) (rest := []) (lenOf pd__28_IIII_29_I rfl) rfl (by show 2 * 0 + _ ≤ _; exact Nat.le_of_eq rfl) (hb hby at_72) (fun _ hv => ⟨rfl, e194, (by decide : 0 + 0 ≤ _), (by decide : 0 + 0 ≤ _)⟩)
    dsimp only [Pt.U, Pt.locs, Pt.cells, Pt.slots] at X196 l196 y196 z196 st196 hQ196
    subst l196 y196 z196
    obtain ⟨rfl, Nq196, e196⟩ := hQ196
    refine own_by st196 ?_
    have N196 := Fr.app N194 Nq196
    show own_Fin _ _ _ _ (T196.setTop (mkF m 75 #[iv p1, .val (.long q2), .second, iv p3, iv p4, iv p5, iv p6, iv (1 : Int32), iv v8_186, iv v9_187, iv v10_189, iv v11_191, iv v12_193, iv v13_195, .unset, .unset, .unset, .unset, .unset, .unset, .unset, .unset, .unset, .unset, .unset, .unset, .unset] [(.int (own_sl (2 : Int32) v10_189 v11_191 (1 : Int32)))]))
    refine own_go (XS.istore X196.here hx rfl (hb hby at_75) rfl rfl (Steps.refl _)) ?_
    show own_Fin _ _ _ _ (T196.setTop (mkF m 77 #[iv p1, .val (.long q2), .second, iv p3, iv p4, iv p5, iv p6, iv (1 : Int32), iv v8_186, iv v9_187, iv v10_189, iv v11_191, iv v12_193, iv v13_195, iv (own_sl (2 : Int32) v10_189 v11_191 (1 : Int32)), .unset, .unset, .unset, .unset, .unset, .unset, .unset, .unset, .unset, .unset, .unset, .unset] []))
    generalize hz_v14_197 : (own_sl (2 : Int32) v10_189 v11_191 (1 : Int32)) = v14_197
    refine own_go (XS.lloadN X196.here hx rfl (hb hby at_77) rfl (Steps.refl _)) ?_
    show own_Fin _ _ _ _ (T196.setTop (mkF m 78 #[iv p1, .val (.long q2), .second, iv p3, iv p4, iv p5, iv p6, iv (1 : Int32), iv v8_186, iv v9_187, iv v10_189, iv v11_191, iv v12_193, iv v13_195, iv v14_197, .unset, .unset, .unset, .unset, .unset, .unset, .unset, .unset, .unset, .unset, .unset, .unset] [(.long q2)]))
    refine own_go (XS.l2i X196.here hx rfl (hb hby at_78) rfl (Steps.refl _)) ?_
    show own_Fin _ _ _ _ (T196.setTop (mkF m 79 #[iv p1, .val (.long q2), .second, iv p3, iv p4, iv p5, iv p6, iv (1 : Int32), iv v8_186, iv v9_187, iv v10_189, iv v11_191, iv v12_193, iv v13_195, iv v14_197, .unset, .unset, .unset, .unset, .unset, .unset, .unset, .unset, .unset, .unset, .unset, .unset] [(.int (q2.toInt32))]))
    refine own_go (XS.istore X196.here hx rfl (hb hby at_79) rfl rfl (Steps.refl _)) ?_
    show own_Fin _ _ _ _ (T196.setTop (mkF m 81 #[iv p1, .val (.long q2), .second, iv p3, iv p4, iv p5, iv p6, iv (1 : Int32), iv v8_186, iv v9_187, iv v10_189, iv v11_191, iv v12_193, iv v13_195, iv v14_197, iv (q2.toInt32), .unset, .unset, .unset, .unset, .unset, .unset, .unset, .unset, .unset, .unset, .unset] []))
    generalize hz_v15_198 : (q2.toInt32) = v15_198
    refine own_go (XS.lloadN X196.here hx rfl (hb hby at_81) rfl (Steps.refl _)) ?_
    show own_Fin _ _ _ _ (T196.setTop (mkF m 82 #[iv p1, .val (.long q2), .second, iv p3, iv p4, iv p5, iv p6, iv (1 : Int32), iv v8_186, iv v9_187, iv v10_189, iv v11_191, iv v12_193, iv v13_195, iv v14_197, iv v15_198, .unset, .unset, .unset, .unset, .unset, .unset, .unset, .unset, .unset, .unset, .unset] [(.long q2)]))
    refine own_go (XS.bipush X196.here hx rfl (hb hby at_82) (Steps.refl _)) ?_
    show own_Fin _ _ _ _ (T196.setTop (mkF m 84 #[iv p1, .val (.long q2), .second, iv p3, iv p4, iv p5, iv p6, iv (1 : Int32), iv v8_186, iv v9_187, iv v10_189, iv v11_191, iv v12_193, iv v13_195, iv v14_197, iv v15_198, .unset, .unset, .unset, .unset, .unset, .unset, .unset, .unset, .unset, .unset, .unset] [(.int (32 : Int32)), (.long q2)]))
    refine own_go (XS.lushr X196.here hx rfl (hb hby at_84) rfl (Steps.refl _)) ?_
    show own_Fin _ _ _ _ (T196.setTop (mkF m 85 #[iv p1, .val (.long q2), .second, iv p3, iv p4, iv p5, iv p6, iv (1 : Int32), iv v8_186, iv v9_187, iv v10_189, iv v11_191, iv v12_193, iv v13_195, iv v14_197, iv v15_198, .unset, .unset, .unset, .unset, .unset, .unset, .unset, .unset, .unset, .unset, .unset] [(.long ((q2.toUInt64 >>> ((32 : Int32) &&& 0x3f).toInt64.toUInt64).toInt64))]))
    refine own_go (XS.l2i X196.here hx rfl (hb hby at_85) rfl (Steps.refl _)) ?_
    show own_Fin _ _ _ _ (T196.setTop (mkF m 86 #[iv p1, .val (.long q2), .second, iv p3, iv p4, iv p5, iv p6, iv (1 : Int32), iv v8_186, iv v9_187, iv v10_189, iv v11_191, iv v12_193, iv v13_195, iv v14_197, iv v15_198, .unset, .unset, .unset, .unset, .unset, .unset, .unset, .unset, .unset, .unset, .unset] [(.int (((q2.toUInt64 >>> ((32 : Int32) &&& 0x3f).toInt64.toUInt64).toInt64).toInt32))]))
    refine own_go (XS.istore X196.here hx rfl (hb hby at_86) rfl rfl (Steps.refl _)) ?_
    show own_Fin _ _ _ _ (T196.setTop (mkF m 88 #[iv p1, .val (.long q2), .second, iv p3, iv p4, iv p5, iv p6, iv (1 : Int32), iv v8_186, iv v9_187, iv v10_189, iv v11_191, iv v12_193, iv v13_195, iv v14_197, iv v15_198, iv (((q2.toUInt64 >>> ((32 : Int32) &&& 0x3f).toInt64.toUInt64).toInt64).toInt32), .unset, .unset, .unset, .unset, .unset, .unset, .unset, .unset, .unset, .unset] []))
    generalize hz_v16_199 : (((q2.toUInt64 >>> ((32 : Int32) &&& 0x3f).toInt64.toUInt64).toInt64).toInt32) = v16_199
    obtain ⟨T200, h200, X200, e200, E200, A200, D200, U200, st200⟩ := newO X196 hx hZ hown (hw _ (List.mem_of_getElem? (i := 11) rfl)) (hw _ (List.mem_of_getElem? (i := 12) rfl)) (hw _ (List.mem_of_getElem? (i := 13) rfl)) e196 (g := (mkF m 88 #[iv p1, .val (.long q2), .second, iv p3, iv p4, iv p5, iv p6, iv (1 : Int32), iv v8_186, iv v9_187, iv v10_189, iv v11_191, iv v12_193, iv v13_195, iv v14_197, iv v15_198, iv v16_199, .unset, .unset, .unset, .unset, .unset, .unset, .unset, .unset, .unset, .unset] [])) rfl (hb hby at_88) (by decide) (by decide)
    obtain ⟨b200, g200⟩ : ∃ z, z = h0.size := ⟨_, rfl⟩
    rw [← g200] at A200 D200 U200 st200
    refine own_by st200 ?_
    have g_b200 : n0 ≤ b200 := Nat.le_trans Z0 (Nat.le_of_eq g200.symm)
    have Z200 : n0 ≤ h200.size := Nat.le_trans Z0 E200.1
    have E_b200 := A200
    have F_optimum_b200 : Fld Z h200 b200 "com/example/tidewalk/tidewalk/problems/RunMeasures" "optimum" "D" (.double (0 : UInt64)) := D200 (Or.inl (hw _ (List.mem_of_getElem? (i := 22) rfl))) (ty := .double) (by decide)
    have F_optimumKnown_b200 : Fld Z h200 b200 "com/example/tidewalk/tidewalk/problems/RunMeasures" "optimumKnown" "Z" (.int (0 : Int32)) := D200 (Or.inl (hw _ (List.mem_of_getElem? (i := 24) rfl))) (ty := .boolean) (by decide)
    have F_best_b200 : Fld Z h200 b200 "com/example/tidewalk/tidewalk/problems/RunMeasures" "best" "D" (.double (0 : UInt64)) := D200 (Or.inl (hw _ (List.mem_of_getElem? (i := 27) rfl))) (ty := .double) (by decide)
    have F_periods_b200 : Fld Z h200 b200 "com/example/tidewalk/tidewalk/problems/RunMeasures" "periods" "I" (.int (0 : Int32)) := D200 (Or.inl (hw _ (List.mem_of_getElem? (i := 37) rfl))) (ty := .int) (by decide)
    have F_evaluations_b200 : Fld Z h200 b200 "com/example/tidewalk/tidewalk/problems/RunMeasures" "evaluations" "J" (.long (0 : Int64)) := D200 (Or.inl (hw _ (List.mem_of_getElem? (i := 55) rfl))) (ty := .long) (by decide)
    have F_performanceSum_b200 : Fld Z h200 b200 "com/example/tidewalk/tidewalk/problems/RunMeasures" "performanceSum" "D" (.double (0 : UInt64)) := D200 (Or.inl (hw _ (List.mem_of_getElem? (i := 60) rfl))) (ty := .double) (by decide)
    have F_errorSum_b200 : Fld Z h200 b200 "com/example/tidewalk/tidewalk/problems/RunMeasures" "errorSum" "D" (.double (0 : UInt64)) := D200 (Or.inl (hw _ (List.mem_of_getElem? (i := 62) rfl))) (ty := .double) (by decide)
    have F_optimumSum_b200 : Fld Z h200 b200 "com/example/tidewalk/tidewalk/problems/RunMeasures" "optimumSum" "D" (.double (0 : UInt64)) := D200 (Or.inl (hw _ (List.mem_of_getElem? (i := 64) rfl))) (ty := .double) (by decide)
    have F_closedBestErrorSum_b200 : Fld Z h200 b200 "com/example/tidewalk/tidewalk/problems/RunMeasures" "closedBestErrorSum" "D" (.double (0 : UInt64)) := D200 (Or.inl (hw _ (List.mem_of_getElem? (i := 71) rfl))) (ty := .double) (by decide)
    show own_Fin _ _ _ _ (T200.setTop (mkF m 91 #[iv p1, .val (.long q2), .second, iv p3, iv p4, iv p5, iv p6, iv (1 : Int32), iv v8_186, iv v9_187, iv v10_189, iv v11_191, iv v12_193, iv v13_195, iv v14_197, iv v15_198, iv v16_199, .unset, .unset, .unset, .unset, .unset, .unset, .unset, .unset, .unset, .unset] [(.ref b200)]))
    refine own_go (XS.dup X200.here hx rfl (hb hby at_91) rfl rfl (Steps.refl _)) ?_
    show own_Fin _ _ _ _ (T200.setTop (mkF m 92 #[iv p1, .val (.long q2), .second, iv p3, iv p4, iv p5, iv p6, iv (1 : Int32), iv v8_186, iv v9_187, iv v10_189, iv v11_191, iv v12_193, iv v13_195, iv v14_197, iv v15_198, iv v16_199, .unset, .unset, .unset, .unset, .unset, .unset, .unset, .unset, .unset, .unset] [(.ref b200), (.ref b200)]))
    obtain ⟨_, _, ⟨T201, L201, k201, n201⟩, -, X201, ⟨Lc201, hQ201, l201, y201, z201⟩, st201⟩ := X200.specialBack hx (y := (⟨"com/example/tidewalk/tidewalk/problems/RunMeasures", "<init>", "()V"⟩ : MethodName)) rfl hown (mvT hZ (hw _ (List.mem_of_getElem? (i := 14) rfl))) (mvT hZ (hw _ (List.mem_of_getElem? (i := 15) rfl))) (mvT hZ (hw _ (List.mem_of_getElem? (i := 16) rfl))) (by decide) (backOf (W := 1) (rmini l Z a0 hw [] b200 h200 n0 Z200 E_b200 F_periods_b200 F_closedBestErrorSum_b200 F_optimum_b200 F_best_b200 F_optimumKnown_b200 F_evaluations_b200 F_performanceSum_b200 F_errorSum_b200 F_optimumSum_b200 g_b200) hZ (hw _ (List.mem_of_getElem? (i := 16) rfl)) (hw _ (List.mem_of_getElem? (i := 13) rfl)) (by decide) (by decide)) (g := (mkF m 92 #[iv p1, .val (.long q2), .second, iv p3, iv p4, iv p5, iv p6, iv (1 : Int32), iv v8_186, iv v9_187, iv v10_189, iv v11_191, iv v12_193, iv v13_195, iv v14_197, iv v15_198, iv v16_199, .unset, .unset, .unset, .unset, .unset, .unset, .unset, .unset, .unset, .unset] [(.ref b200), (.ref b200)])) rfl (by rw [hml]; rfl) (Steps.refl _) (a := b200) (argsL := []) (rest := [(.ref b200)]) (lenOf pd__28__29_V rfl) rfl (by show 2 * 0 + _ ≤ _; exact Nat.le_of_eq rfl) (hb hby at_92) (fun _ hv => ⟨rfl, e200, (by decide : 1 + 0 ≤ _), (by decide : 9 + 0 ≤ _)⟩)
    dsimp only [Pt.U, Pt.locs, Pt.cells, Pt.slots] at X201 l201 y201 z201 st201 hQ201
    subst l201 y201 z201
    refine own_go st201 ?_
    obtain ⟨rfl, Nq201, K201, r201_0, r201_1, r201_2, r201_3, r201_4, r201_5, r201_6, r201_7, r201_8, r201_9⟩ := hQ201
    have E_b200_201 := E_b200.keep K201
    have Z201 : n0 ≤ T201.heap.size := Nat.le_trans Z200 K201.1
    have N201 := Fr.app N196 Nq201
    show own_Fin _ _ _ _ (T201.setTop (mkF m 95 #[iv p1, .val (.long q2), .second, iv p3, iv p4, iv p5, iv p6, iv (1 : Int32), iv v8_186, iv v9_187, iv v10_189, iv v11_191, iv v12_193, iv v13_195, iv v14_197, iv v15_198, iv v16_199, .unset, .unset, .unset, .unset, .unset, .unset, .unset, .unset, .unset, .unset] [(.ref b200)]))
    refine own_go (XS.astore X201.here hx rfl (hb hby at_95) rfl rfl rfl (Steps.refl _)) ?_
    show own_Fin _ _ _ _ (T201.setTop (mkF m 97 #[iv p1, .val (.long q2), .second, iv p3, iv p4, iv p5, iv p6, iv (1 : Int32), iv v8_186, iv v9_187, iv v10_189, iv v11_191, iv v12_193, iv v13_195, iv v14_197, iv v15_198, iv v16_199, rv b200, .unset, .unset, .unset, .unset, .unset, .unset, .unset, .unset, .unset] []))
    refine own_go (XS.aload X201.here hx rfl (hb hby at_97) rfl rfl (Steps.refl _)) ?_
    show own_Fin _ _ _ _ (T201.setTop (mkF m 99 #[iv p1, .val (.long q2), .second, iv p3, iv p4, iv p5, iv p6, iv (1 : Int32), iv v8_186, iv v9_187, iv v10_189, iv v11_191, iv v12_193, iv v13_195, iv v14_197, iv v15_198, iv v16_199, rv b200, .unset, .unset, .unset, .unset, .unset, .unset, .unset, .unset, .unset] [(.ref b200)]))
    refine own_go (XS.iconst X201.here hx rfl (hb hby at_99) (Steps.refl _)) ?_
    show own_Fin _ _ _ _ (T201.setTop (mkF m 100 #[iv p1, .val (.long q2), .second, iv p3, iv p4, iv p5, iv p6, iv (1 : Int32), iv v8_186, iv v9_187, iv v10_189, iv v11_191, iv v12_193, iv v13_195, iv v14_197, iv v15_198, iv v16_199, rv b200, .unset, .unset, .unset, .unset, .unset, .unset, .unset, .unset, .unset] [(.int (1 : Int32)), (.ref b200)]))
    refine own_go (XS.iload X201.here hx rfl (hb hby at_100) rfl (Steps.refl _)) ?_
    show own_Fin _ _ _ _ (T201.setTop (mkF m 102 #[iv p1, .val (.long q2), .second, iv p3, iv p4, iv p5, iv p6, iv (1 : Int32), iv v8_186, iv v9_187, iv v10_189, iv v11_191, iv v12_193, iv v13_195, iv v14_197, iv v15_198, iv v16_199, rv b200, .unset, .unset, .unset, .unset, .unset, .unset, .unset, .unset, .unset] [(.int v15_198), (.int (1 : Int32)), (.ref b200)]))
    refine own_go (XS.iload X201.here hx rfl (hb hby at_102) rfl (Steps.refl _)) ?_
    show own_Fin _ _ _ _ (T201.setTop (mkF m 104 #[iv p1, .val (.long q2), .second, iv p3, iv p4, iv p5, iv p6, iv (1 : Int32), iv v8_186, iv v9_187, iv v10_189, iv v11_191, iv v12_193, iv v13_195, iv v14_197, iv v15_198, iv v16_199, rv b200, .unset, .unset, .unset, .unset, .unset, .unset, .unset, .unset, .unset] [(.int v12_193), (.int v15_198), (.int (1 : Int32)), (.ref b200)]))
    refine own_go (XS.iload X201.here hx rfl (hb hby at_104) rfl (Steps.refl _)) ?_
    show own_Fin _ _ _ _ (T201.setTop (mkF m 106 #[iv p1, .val (.long q2), .second, iv p3, iv p4, iv p5, iv p6, iv (1 : Int32), iv v8_186, iv v9_187, iv v10_189, iv v11_191, iv v12_193, iv v13_195, iv v14_197, iv v15_198, iv v16_199, rv b200, .unset, .unset, .unset, .unset, .unset, .unset, .unset, .unset, .unset] [(.int v13_195), (.int v12_193), (.int v15_198), (.int (1 : Int32)), (.ref b200)]))
    refine own_go (XS.iload X201.here hx rfl (hb hby at_106) rfl (Steps.refl _)) ?_
    show own_Fin _ _ _ _ (T201.setTop (mkF m 108 #[iv p1, .val (.long q2), .second, iv p3, iv p4, iv p5, iv p6, iv (1 : Int32), iv v8_186, iv v9_187, iv v10_189, iv v11_191, iv v12_193, iv v13_195, iv v14_197, iv v15_198, iv v16_199, rv b200, .unset, .unset, .unset, .unset, .unset, .unset, .unset, .unset, .unset] [(.int v14_197), (.int v13_195), (.int v12_193), (.int v15_198), (.int (1 : Int32)), (.ref b200)]))
    refine own_go (XS.iload X201.here hx rfl (hb hby at_108) rfl (Steps.refl _)) ?_
    show own_Fin _ _ _ _ (T201.setTop (mkF m 110 #[iv p1, .val (.long q2), .second, iv p3, iv p4, iv p5, iv p6, iv (1 : Int32), iv v8_186, iv v9_187, iv v10_189, iv v11_191, iv v12_193, iv v13_195, iv v14_197, iv v15_198, iv v16_199, rv b200, .unset, .unset, .unset, .unset, .unset, .unset, .unset, .unset, .unset] [(.int p4), (.int v14_197), (.int v13_195), (.int v12_193), (.int v15_198), (.int (1 : Int32)), (.ref b200)]))
    refine own_go (XS.iload X201.here hx rfl (hb hby at_110) rfl (Steps.refl _)) ?_
    show own_Fin _ _ _ _ (T201.setTop (mkF m 112 #[iv p1, .val (.long q2), .second, iv p3, iv p4, iv p5, iv p6, iv (1 : Int32), iv v8_186, iv v9_187, iv v10_189, iv v11_191, iv v12_193, iv v13_195, iv v14_197, iv v15_198, iv v16_199, rv b200, .unset, .unset, .unset, .unset, .unset, .unset, .unset, .unset, .unset] [(.int p5), (.int p4), (.int v14_197), (.int v13_195), (.int v12_193), (.int v15_198), (.int (1 : Int32)), (.ref b200)]))
    refine own_go (XS.iload X201.here hx rfl (hb hby at_112) rfl (Steps.refl _)) ?_
    show own_Fin _ _ _ _ (T201.setTop (mkF m 114 #[iv p1, .val (.long q2), .second, iv p3, iv p4, iv p5, iv p6, iv (1 : Int32), iv v8_186, iv v9_187, iv v10_189, iv v11_191, iv v12_193, iv v13_195, iv v14_197, iv v15_198, iv v16_199, rv b200, .unset, .unset, .unset, .unset, .unset, .unset, .unset, .unset, .unset] [(.int p6), (.int p5), (.int p4), (.int v14_197), (.int v13_195), (.int v12_193), (.int v15_198), (.int (1 : Int32)), (.ref b200)]))
    obtain ⟨_, _, ⟨T202, L202, k202, n202⟩, -, X202, ⟨Lc202, hQ202, l202, y202, z202⟩, st202⟩ := Jvm.LawKit.callS X201 hx (y := (⟨"com/example/tidewalk/tidewalk/problems/RunMeasuresBestErrorBeforeChangePinLaw", "phase", "(Lcom/example/tidewalk/tidewalk/problems/RunMeasures;IIIIIIII)V"⟩ : MethodName)) hown (mvT hZ (hw _ (List.mem_of_getElem? (i := 28) rfl))) (mvT hZ (hw _ (List.mem_of_getElem? (i := 29) rfl))) (mvT hZ (hw _ (List.mem_of_getElem? (i := 9) rfl))) (mvT hZ (hw _ (List.mem_of_getElem? (i := 30) rfl))) (by decide) (backOf (W := 0) (rmph_0 l Z a0 hw [] b200 (1 : Int32) v15_198 v12_193 v13_195 v14_197 p4 p5 p6 (9221120237041090560 : UInt64) (0 : Int64) (0 : UInt64) (0 : UInt64) (0 : UInt64) T201.heap n0 Z201 r201_0 r201_1 r201_2 r201_3 r201_4 r201_5 r201_6 r201_7 r201_8 r201_9 g_b200 (by decide +kernel) (by decide +kernel) (by decide +kernel)) hZ (hw _ (List.mem_of_getElem? (i := 30) rfl)) (hw _ (List.mem_of_getElem? (i := 9) rfl)) (by decide) (by decide)) (g := (mkF m 114 #[iv p1, .val (.long q2), .second, iv p3, iv p4, iv p5, iv p6, iv (1 : Int32), iv v8_186, iv v9_187, iv v10_189, iv v11_191, iv v12_193, iv v13_195, iv v14_197, iv v15_198, iv v16_199, rv b200, .unset, .unset, .unset, .unset, .unset, .unset, .unset, .unset, .unset] [(.int p6), (.int p5), (.int p4), (.int v14_197), (.int v13_195), (.int v12_193), (.int v15_198), (.int (1 : Int32)), (.ref b200)])) rfl (by rw [hml]; rfl) (argsL := [(.ref b200), (.int (1 : Int32)), (.int v15_198), (.int v12_193), (.int v13_195), (.int v14_197), (.int p4), (.int p5), (.int p6)]) (rest := []) (lenOf pd__28_Lcom_2f_example_2f_tidewalk_2f_tidewalk_2f_problems_2f_RunMeasures_3b_IIIIIIII_29_V rfl) rfl (by show 2 * 0 + _ ≤ _; exact Nat.le_of_eq rfl) (hb hby at_114) (fun _ hv => ⟨rfl, rfl, (by decide : 1 + 0 ≤ _), (by decide : 9 + 0 ≤ _)⟩)
    dsimp only [Pt.U, Pt.locs, Pt.cells, Pt.slots] at X202 l202 y202 z202 st202 hQ202
    subst l202 y202 z202
    refine own_by st202 ?_
    obtain ⟨ps2_202, es2_202, os2_202, ev2_202, rfl, Nq202, K202, r202_0, r202_1, r202_2, r202_3, r202_4, r202_5, r202_6, r202_7, r202_8, r202_9, r202_10, r202_11, r202_12⟩ := hQ202
    have r201_0_202 := r201_0.keep K202
    have Z202 : n0 ≤ T202.heap.size := Nat.le_trans Z201 K202.1
    have N202 := Fr.app N201 Nq202
    show own_Fin _ _ _ _ (T202.setTop (mkF m 117 #[iv p1, .val (.long q2), .second, iv p3, iv p4, iv p5, iv p6, iv (1 : Int32), iv v8_186, iv v9_187, iv v10_189, iv v11_191, iv v12_193, iv v13_195, iv v14_197, iv v15_198, iv v16_199, rv b200, .unset, .unset, .unset, .unset, .unset, .unset, .unset, .unset, .unset] []))
    refine own_go (XS.iload X202.here hx rfl (hb hby at_117) rfl (Steps.refl _)) ?_
    show own_Fin _ _ _ _ (T202.setTop (mkF m 119 #[iv p1, .val (.long q2), .second, iv p3, iv p4, iv p5, iv p6, iv (1 : Int32), iv v8_186, iv v9_187, iv v10_189, iv v11_191, iv v12_193, iv v13_195, iv v14_197, iv v15_198, iv v16_199, rv b200, .unset, .unset, .unset, .unset, .unset, .unset, .unset, .unset, .unset] [(.int (1 : Int32))]))
    refine own_go (XS.iconst X202.here hx rfl (hb hby at_119) (Steps.refl _)) ?_
    show own_Fin _ _ _ _ (T202.setTop (mkF m 120 #[iv p1, .val (.long q2), .second, iv p3, iv p4, iv p5, iv p6, iv (1 : Int32), iv v8_186, iv v9_187, iv v10_189, iv v11_191, iv v12_193, iv v13_195, iv v14_197, iv v15_198, iv v16_199, rv b200, .unset, .unset, .unset, .unset, .unset, .unset, .unset, .unset, .unset] [(.int (2 : Int32)), (.int (1 : Int32))]))
    refine own_go (XS.icmpYes X202.here hx rfl (pc0 := 120) (pc' := 143) rfl (hb hby at_120) rfl (tlt (by decide : (1 : Int32) < (2 : Int32))).1 (by decide) (by decide) (Steps.refl _)) ?_
    show own_Fin _ _ _ _ (T202.setTop (mkF m 143 #[iv p1, .val (.long q2), .second, iv p3, iv p4, iv p5, iv p6, iv (1 : Int32), iv v8_186, iv v9_187, iv v10_189, iv v11_191, iv v12_193, iv v13_195, iv v14_197, iv v15_198, iv v16_199, rv b200, .unset, .unset, .unset, .unset, .unset, .unset, .unset, .unset, .unset] []))
    refine own_go (XS.iload X202.here hx rfl (hb hby at_143) rfl (Steps.refl _)) ?_
    show own_Fin _ _ _ _ (T202.setTop (mkF m 145 #[iv p1, .val (.long q2), .second, iv p3, iv p4, iv p5, iv p6, iv (1 : Int32), iv v8_186, iv v9_187, iv v10_189, iv v11_191, iv v12_193, iv v13_195, iv v14_197, iv v15_198, iv v16_199, rv b200, .unset, .unset, .unset, .unset, .unset, .unset, .unset, .unset, .unset] [(.int (1 : Int32))]))
    refine own_go (XS.iconst X202.here hx rfl (hb hby at_145) (Steps.refl _)) ?_
    show own_Fin _ _ _ _ (T202.setTop (mkF m 146 #[iv p1, .val (.long q2), .second, iv p3, iv p4, iv p5, iv p6, iv (1 : Int32), iv v8_186, iv v9_187, iv v10_189, iv v11_191, iv v12_193, iv v13_195, iv v14_197, iv v15_198, iv v16_199, rv b200, .unset, .unset, .unset, .unset, .unset, .unset, .unset, .unset, .unset] [(.int (3 : Int32)), (.int (1 : Int32))]))
    refine own_go (XS.icmpYes X202.here hx rfl (pc0 := 146) (pc' := 168) rfl (hb hby at_146) rfl (tlt (by decide : (1 : Int32) < (3 : Int32))).1 (by decide) (by decide) (Steps.refl _)) ?_
    show own_Fin _ _ _ _ (T202.setTop (mkF m 168 #[iv p1, .val (.long q2), .second, iv p3, iv p4, iv p5, iv p6, iv (1 : Int32), iv v8_186, iv v9_187, iv v10_189, iv v11_191, iv v12_193, iv v13_195, iv v14_197, iv v15_198, iv v16_199, rv b200, .unset, .unset, .unset, .unset, .unset, .unset, .unset, .unset, .unset] []))
    refine own_go (XS.aload X202.here hx rfl (hb hby at_168) rfl rfl (Steps.refl _)) ?_
    show own_Fin _ _ _ _ (T202.setTop (mkF m 170 #[iv p1, .val (.long q2), .second, iv p3, iv p4, iv p5, iv p6, iv (1 : Int32), iv v8_186, iv v9_187, iv v10_189, iv v11_191, iv v12_193, iv v13_195, iv v14_197, iv v15_198, iv v16_199, rv b200, .unset, .unset, .unset, .unset, .unset, .unset, .unset, .unset, .unset] [(.ref b200)]))
    obtain ⟨cq203, kq203, q203a, q203b, q203c⟩ := isOf hZ rfl r202_0
    obtain ⟨_, _, ⟨T203, L203, k203, n203⟩, -, X203, ⟨Lc203, hQ203, l203, y203, z203⟩, st203⟩ := X202.virtualBack hx (y := (⟨"com/example/tidewalk/tidewalk/problems/RunMeasures", "bestErrorBeforeChange", "()D"⟩ : MethodName)) (z := (⟨"com/example/tidewalk/tidewalk/problems/RunMeasures", "bestErrorBeforeChange", "()D"⟩ : MethodName)) hown (mvT hZ (hw _ (List.mem_of_getElem? (i := 65) rfl))) (mvT hZ (hw _ (List.mem_of_getElem? (i := 66) rfl))) (notFace_of_selects (args := #[]) (mvT hZ (hw _ (List.mem_of_getElem? (i := 68) rfl)))) (mvT hZ (hw _ (List.mem_of_getElem? (i := 68) rfl))) (mvT hZ (hw _ (List.mem_of_getElem? (i := 67) rfl))) (by decide) (backOf (W := 0) (rmbe_1 l Z a0 hw [] b200 (some 0) v15_198 (own_b3 (1 : Int32) v12_193 v13_195 v14_197 p4 p5 p6) T202.heap n0 Z202 r202_1 r202_2 r202_3 r202_4 (own_W3 _ _ _ _ _ _ _) (own_Wm own_W0 (by decide))) hZ (hw _ (List.mem_of_getElem? (i := 69) rfl)) (hw _ (List.mem_of_getElem? (i := 13) rfl)) (by decide) (by decide)) q203a q203c (g := (mkF m 170 #[iv p1, .val (.long q2), .second, iv p3, iv p4, iv p5, iv p6, iv (1 : Int32), iv v8_186, iv v9_187, iv v10_189, iv v11_191, iv v12_193, iv v13_195, iv v14_197, iv v15_198, iv v16_199, rv b200, .unset, .unset, .unset, .unset, .unset, .unset, .unset, .unset, .unset] [(.ref b200)])) rfl (by rw [hml]; rfl) (Steps.refl _) (argsL := []) (rest := []) (lenOf pd__28__29_D rfl) rfl (by show 2 * 0 + _ ≤ _; exact Nat.le_of_eq rfl) (hb hby at_170) (fun _ hv => ⟨rfl, rfl, (by decide : 1 + 0 ≤ _), (by decide : 9 + 0 ≤ _)⟩)
    dsimp only [Pt.U, Pt.locs, Pt.cells, Pt.slots] at X203 l203 y203 z203 st203 hQ203
    subst l203 y203 z203
    obtain ⟨rfl, Nq203, e203⟩ := hQ203
    refine own_go st203 ?_
    have N203 := Fr.app N202 Nq203
    show own_Fin _ _ _ _ (T203.setTop (mkF m 173 #[iv p1, .val (.long q2), .second, iv p3, iv p4, iv p5, iv p6, iv (1 : Int32), iv v8_186, iv v9_187, iv v10_189, iv v11_191, iv v12_193, iv v13_195, iv v14_197, iv v15_198, iv v16_199, rv b200, .unset, .unset, .unset, .unset, .unset, .unset, .unset, .unset, .unset] [(.double (FP.ddiv (own_cl (own_pl (some 0) (own_er v15_198.toInt64 (own_b3 (1 : Int32) v12_193 v13_195 v14_197 p4 p5 p6)))) (FP.l2d (1 : Int32).toInt64)))]))
    refine own_go (XS.dstore X203.here hx rfl (hb hby at_173) rfl rfl (Steps.refl _)) ?_
    show own_Fin _ _ _ _ (T203.setTop (mkF m 175 #[iv p1, .val (.long q2), .second, iv p3, iv p4, iv p5, iv p6, iv (1 : Int32), iv v8_186, iv v9_187, iv v10_189, iv v11_191, iv v12_193, iv v13_195, iv v14_197, iv v15_198, iv v16_199, rv b200, .val (.double (FP.ddiv (own_cl (own_pl (some 0) (own_er v15_198.toInt64 (own_b3 (1 : Int32) v12_193 v13_195 v14_197 p4 p5 p6)))) (FP.l2d (1 : Int32).toInt64))), .second, .unset, .unset, .unset, .unset, .unset, .unset, .unset] []))
    generalize hz_r18_204 : (FP.ddiv (own_cl (own_pl (some 0) (own_er v15_198.toInt64 (own_b3 (1 : Int32) v12_193 v13_195 v14_197 p4 p5 p6)))) (FP.l2d (1 : Int32).toInt64)) = r18_204
    refine own_go (XS.iconst X203.here hx rfl (hb hby at_175) (Steps.refl _)) ?_
    show own_Fin _ _ _ _ (T203.setTop (mkF m 176 #[iv p1, .val (.long q2), .second, iv p3, iv p4, iv p5, iv p6, iv (1 : Int32), iv v8_186, iv v9_187, iv v10_189, iv v11_191, iv v12_193, iv v13_195, iv v14_197, iv v15_198, iv v16_199, rv b200, .val (.double r18_204), .second, .unset, .unset, .unset, .unset, .unset, .unset, .unset] [(.int (0 : Int32))]))
    refine own_go (XS.istore X203.here hx rfl (hb hby at_176) rfl rfl (Steps.refl _)) ?_
    show own_Fin _ _ _ _ (T203.setTop (mkF m 178 #[iv p1, .val (.long q2), .second, iv p3, iv p4, iv p5, iv p6, iv (1 : Int32), iv v8_186, iv v9_187, iv v10_189, iv v11_191, iv v12_193, iv v13_195, iv v14_197, iv v15_198, iv v16_199, rv b200, .val (.double r18_204), .second, iv (0 : Int32), .unset, .unset, .unset, .unset, .unset, .unset] []))
    refine own_go (XS.lconst X203.here hx rfl (hb hby at_178) (Steps.refl _)) ?_
    show own_Fin _ _ _ _ (T203.setTop (mkF m 179 #[iv p1, .val (.long q2), .second, iv p3, iv p4, iv p5, iv p6, iv (1 : Int32), iv v8_186, iv v9_187, iv v10_189, iv v11_191, iv v12_193, iv v13_195, iv v14_197, iv v15_198, iv v16_199, rv b200, .val (.double r18_204), .second, iv (0 : Int32), .unset, .unset, .unset, .unset, .unset, .unset] [(.long (0 : Int64))]))
    refine own_go (XS.lstore X203.here hx rfl (hb hby at_179) rfl rfl (Steps.refl _)) ?_
    show own_Fin _ _ _ _ (T203.setTop (mkF m 181 #[iv p1, .val (.long q2), .second, iv p3, iv p4, iv p5, iv p6, iv (1 : Int32), iv v8_186, iv v9_187, iv v10_189, iv v11_191, iv v12_193, iv v13_195, iv v14_197, iv v15_198, iv v16_199, rv b200, .val (.double r18_204), .second, iv (0 : Int32), .val (.long (0 : Int64)), .second, .unset, .unset, .unset, .unset] []))
    refine own_go (XS.iconst X203.here hx rfl (hb hby at_181) (Steps.refl _)) ?_
    show own_Fin _ _ _ _ (T203.setTop (mkF m 182 #[iv p1, .val (.long q2), .second, iv p3, iv p4, iv p5, iv p6, iv (1 : Int32), iv v8_186, iv v9_187, iv v10_189, iv v11_191, iv v12_193, iv v13_195, iv v14_197, iv v15_198, iv v16_199, rv b200, .val (.double r18_204), .second, iv (0 : Int32), .val (.long (0 : Int64)), .second, .unset, .unset, .unset, .unset] [(.int (1 : Int32))]))
    refine own_go (XS.iload X203.here hx rfl (hb hby at_182) rfl (Steps.refl _)) ?_
    show own_Fin _ _ _ _ (T203.setTop (mkF m 184 #[iv p1, .val (.long q2), .second, iv p3, iv p4, iv p5, iv p6, iv (1 : Int32), iv v8_186, iv v9_187, iv v10_189, iv v11_191, iv v12_193, iv v13_195, iv v14_197, iv v15_198, iv v16_199, rv b200, .val (.double r18_204), .second, iv (0 : Int32), .val (.long (0 : Int64)), .second, .unset, .unset, .unset, .unset] [(.int v12_193), (.int (1 : Int32))]))
    refine own_go (XS.iload X203.here hx rfl (hb hby at_184) rfl (Steps.refl _)) ?_
    show own_Fin _ _ _ _ (T203.setTop (mkF m 186 #[iv p1, .val (.long q2), .second, iv p3, iv p4, iv p5, iv p6, iv (1 : Int32), iv v8_186, iv v9_187, iv v10_189, iv v11_191, iv v12_193, iv v13_195, iv v14_197, iv v15_198, iv v16_199, rv b200, .val (.double r18_204), .second, iv (0 : Int32), .val (.long (0 : Int64)), .second, .unset, .unset, .unset, .unset] [(.int v13_195), (.int v12_193), (.int (1 : Int32))]))
    refine own_go (XS.iload X203.here hx rfl (hb hby at_186) rfl (Steps.refl _)) ?_
    show own_Fin _ _ _ _ (T203.setTop (mkF m 188 #[iv p1, .val (.long q2), .second, iv p3, iv p4, iv p5, iv p6, iv (1 : Int32), iv v8_186, iv v9_187, iv v10_189, iv v11_191, iv v12_193, iv v13_195, iv v14_197, iv v15_198, iv v16_199, rv b200, .val (.double r18_204), .second, iv (0 : Int32), .val (.long (0 : Int64)), .second, .unset, .unset, .unset, .unset] [(.int v14_197), (.int v13_195), (.int v12_193), (.int (1 : Int32))]))
    refine own_go (XS.iload X203.here hx rfl (hb hby at_188) rfl (Steps.refl _)) ?_
    show own_Fin _ _ _ _ (T203.setTop (mkF m 190 #[iv p1, .val (.long q2), .second, iv p3, iv p4, iv p5, iv p6, iv (1 : Int32), iv v8_186, iv v9_187, iv v10_189, iv v11_191, iv v12_193, iv v13_195, iv v14_197, iv v15_198, iv v16_199, rv b200, .val (.double r18_204), .second, iv (0 : Int32), .val (.long (0 : Int64)), .second, .unset, .unset, .unset, .unset] [(.int p4), (.int v14_197), (.int v13_195), (.int v12_193), (.int (1 : Int32))]))
    refine own_go (XS.iload X203.here hx rfl (hb hby at_190) rfl (Steps.refl _)) ?_
    show own_Fin _ _ _ _ (T203.setTop (mkF m 192 #[iv p1, .val (.long q2), .second, iv p3, iv p4, iv p5, iv p6, iv (1 : Int32), iv v8_186, iv v9_187, iv v10_189, iv v11_191, iv v12_193, iv v13_195, iv v14_197, iv v15_198, iv v16_199, rv b200, .val (.double r18_204), .second, iv (0 : Int32), .val (.long (0 : Int64)), .second, .unset, .unset, .unset, .unset] [(.int p5), (.int p4), (.int v14_197), (.int v13_195), (.int v12_193), (.int (1 : Int32))]))
    refine own_go (XS.iload X203.here hx rfl (hb hby at_192) rfl (Steps.refl _)) ?_
    show own_Fin _ _ _ _ (T203.setTop (mkF m 194 #[iv p1, .val (.long q2), .second, iv p3, iv p4, iv p5, iv p6, iv (1 : Int32), iv v8_186, iv v9_187, iv v10_189, iv v11_191, iv v12_193, iv v13_195, iv v14_197, iv v15_198, iv v16_199, rv b200, .val (.double r18_204), .second, iv (0 : Int32), .val (.long (0 : Int64)), .second, .unset, .unset, .unset, .unset] [(.int p6), (.int p5), (.int p4), (.int v14_197), (.int v13_195), (.int v12_193), (.int (1 : Int32))]))
    obtain ⟨_, _, ⟨T205, L205, k205, n205⟩, -, X205, ⟨Lc205, hQ205, l205, y205, z205⟩, st205⟩ := Jvm.LawKit.callS X203 hx (y := (⟨"com/example/tidewalk/tidewalk/problems/RunMeasuresBestErrorBeforeChangePinLaw", "best", "(IIIIIII)J"⟩ : MethodName)) hown (mvT hZ (hw _ (List.mem_of_getElem? (i := 72) rfl))) (mvT hZ (hw _ (List.mem_of_getElem? (i := 73) rfl))) (mvT hZ (hw _ (List.mem_of_getElem? (i := 9) rfl))) (mvT hZ (hw _ (List.mem_of_getElem? (i := 74) rfl))) (by decide) (backOf (W := 0) (rmbs l Z a0 hw [] (1 : Int32) v12_193 v13_195 v14_197 p4 p5 p6 T202.heap n0 Z202) hZ (hw _ (List.mem_of_getElem? (i := 74) rfl)) (hw _ (List.mem_of_getElem? (i := 9) rfl)) (by decide) (by decide)) (g := (mkF m 194 #[iv p1, .val (.long q2), .second, iv p3, iv p4, iv p5, iv p6, iv (1 : Int32), iv v8_186, iv v9_187, iv v10_189, iv v11_191, iv v12_193, iv v13_195, iv v14_197, iv v15_198, iv v16_199, rv b200, .val (.double r18_204), .second, iv (0 : Int32), .val (.long (0 : Int64)), .second, .unset, .unset, .unset, .unset] [(.int p6), (.int p5), (.int p4), (.int v14_197), (.int v13_195), (.int v12_193), (.int (1 : Int32))])) rfl (by rw [hml]; rfl) (argsL := [(.int (1 : Int32)), (.int v12_193), (.int v13_195), (.int v14_197), (.int p4), (.int p5), (.int p6)]) (rest := []) (lenOf pd__28_IIIIIII_29_J rfl) rfl (by show 2 * 0 + _ ≤ _; exact Nat.le_of_eq rfl) (hb hby at_194) (fun _ hv => ⟨rfl, e203, (by decide : 1 + 0 ≤ _), (by decide : 9 + 0 ≤ _)⟩)
    dsimp only [Pt.U, Pt.locs, Pt.cells, Pt.slots] at X205 l205 y205 z205 st205 hQ205
    subst l205 y205 z205
    obtain ⟨rfl, Nq205, e205⟩ := hQ205
    refine own_by st205 ?_
    have N205 := Fr.app N203 Nq205
    show own_Fin _ _ _ _ (T205.setTop (mkF m 197 #[iv p1, .val (.long q2), .second, iv p3, iv p4, iv p5, iv p6, iv (1 : Int32), iv v8_186, iv v9_187, iv v10_189, iv v11_191, iv v12_193, iv v13_195, iv v14_197, iv v15_198, iv v16_199, rv b200, .val (.double r18_204), .second, iv (0 : Int32), .val (.long (0 : Int64)), .second, .unset, .unset, .unset, .unset] [(.long (own_lv (own_b3 (1 : Int32) v12_193 v13_195 v14_197 p4 p5 p6)))]))
    refine own_go (XS.lstore X205.here hx rfl (hb hby at_197) rfl rfl (Steps.refl _)) ?_
    show own_Fin _ _ _ _ (T205.setTop (mkF m 199 #[iv p1, .val (.long q2), .second, iv p3, iv p4, iv p5, iv p6, iv (1 : Int32), iv v8_186, iv v9_187, iv v10_189, iv v11_191, iv v12_193, iv v13_195, iv v14_197, iv v15_198, iv v16_199, rv b200, .val (.double r18_204), .second, iv (0 : Int32), .val (.long (0 : Int64)), .second, .val (.long (own_lv (own_b3 (1 : Int32) v12_193 v13_195 v14_197 p4 p5 p6))), .second, .unset, .unset] []))
    generalize hz_v23_206 : (own_lv (own_b3 (1 : Int32) v12_193 v13_195 v14_197 p4 p5 p6)) = v23_206
    refine own_go (XS.lload X205.here hx rfl (hb hby at_199) rfl (Steps.refl _)) ?_
    show own_Fin _ _ _ _ (T205.setTop (mkF m 201 #[iv p1, .val (.long q2), .second, iv p3, iv p4, iv p5, iv p6, iv (1 : Int32), iv v8_186, iv v9_187, iv v10_189, iv v11_191, iv v12_193, iv v13_195, iv v14_197, iv v15_198, iv v16_199, rv b200, .val (.double r18_204), .second, iv (0 : Int32), .val (.long (0 : Int64)), .second, .val (.long v23_206), .second, .unset, .unset] [(.long v23_206)]))
    refine own_by (X205.ldc2Long hx hown (mvT hZ (hw _ (List.mem_of_getElem? (i := 75) rfl))) (g := (mkF m 201 #[iv p1, .val (.long q2), .second, iv p3, iv p4, iv p5, iv p6, iv (1 : Int32), iv v8_186, iv v9_187, iv v10_189, iv v11_191, iv v12_193, iv v13_195, iv v14_197, iv v15_198, iv v16_199, rv b200, .val (.double r18_204), .second, iv (0 : Int32), .val (.long (0 : Int64)), .second, .val (.long v23_206), .second, .unset, .unset] [(.long v23_206)])) rfl (hb hby at_201)) ?_
    show own_Fin _ _ _ _ (T205.setTop (mkF m 204 #[iv p1, .val (.long q2), .second, iv p3, iv p4, iv p5, iv p6, iv (1 : Int32), iv v8_186, iv v9_187, iv v10_189, iv v11_191, iv v12_193, iv v13_195, iv v14_197, iv v15_198, iv v16_199, rv b200, .val (.double r18_204), .second, iv (0 : Int32), .val (.long (0 : Int64)), .second, .val (.long v23_206), .second, .unset, .unset] [(.long (-9223372036854775808 : Int64)), (.long v23_206)]))
    refine own_go (XS.lcmp X205.here hx rfl (hb hby at_204) rfl (Steps.refl _)) ?_
    show own_Fin _ _ _ _ (T205.setTop (mkF m 205 #[iv p1, .val (.long q2), .second, iv p3, iv p4, iv p5, iv p6, iv (1 : Int32), iv v8_186, iv v9_187, iv v10_189, iv v11_191, iv v12_193, iv v13_195, iv v14_197, iv v15_198, iv v16_199, rv b200, .val (.double r18_204), .second, iv (0 : Int32), .val (.long (0 : Int64)), .second, .val (.long v23_206), .second, .unset, .unset] [(.int (lcmpW v23_206 (-9223372036854775808 : Int64)))]))
    by_cases cb207 : (own_b3 (1 : Int32) v12_193 v13_195 v14_197 p4 p5 p6) = none
    · refine own_go (XS.ifNo X205.here hx rfl (hb hby at_205) rfl ((if0 _ _).trans (teq (show (lcmpW v23_206 (-9223372036854775808 : Int64)) = (0 : Int32) from (by rw [← hz_v23_206]; exact own_lvz cb207))).2) (Steps.refl _)) ?_
      show own_Fin _ _ _ _ (T205.setTop (mkF m 208 #[iv p1, .val (.long q2), .second, iv p3, iv p4, iv p5, iv p6, iv (1 : Int32), iv v8_186, iv v9_187, iv v10_189, iv v11_191, iv v12_193, iv v13_195, iv v14_197, iv v15_198, iv v16_199, rv b200, .val (.double r18_204), .second, iv (0 : Int32), .val (.long (0 : Int64)), .second, .val (.long v23_206), .second, .unset, .unset] []))
      refine own_go (XS.iconst X205.here hx rfl (hb hby at_208) (Steps.refl _)) ?_
      show own_Fin _ _ _ _ (T205.setTop (mkF m 209 #[iv p1, .val (.long q2), .second, iv p3, iv p4, iv p5, iv p6, iv (1 : Int32), iv v8_186, iv v9_187, iv v10_189, iv v11_191, iv v12_193, iv v13_195, iv v14_197, iv v15_198, iv v16_199, rv b200, .val (.double r18_204), .second, iv (0 : Int32), .val (.long (0 : Int64)), .second, .val (.long v23_206), .second, .unset, .unset] [(.int (1 : Int32))]))
      refine own_go (XS.istore X205.here hx rfl (hb hby at_209) rfl rfl (Steps.refl _)) ?_
      show own_Fin _ _ _ _ (T205.setTop (mkF m 211 #[iv p1, .val (.long q2), .second, iv p3, iv p4, iv p5, iv p6, iv (1 : Int32), iv v8_186, iv v9_187, iv v10_189, iv v11_191, iv v12_193, iv v13_195, iv v14_197, iv v15_198, iv v16_199, rv b200, .val (.double r18_204), .second, iv (1 : Int32), .val (.long (0 : Int64)), .second, .val (.long v23_206), .second, .unset, .unset] []))
      refine own_go (XS.goto X205.here hx rfl (pc0 := 211) (pc' := 225) rfl (hb hby at_211) (by decide) (by decide) (Steps.refl _)) ?_
      show own_Fin _ _ _ _ (T205.setTop (mkF m 225 #[iv p1, .val (.long q2), .second, iv p3, iv p4, iv p5, iv p6, iv (1 : Int32), iv v8_186, iv v9_187, iv v10_189, iv v11_191, iv v12_193, iv v13_195, iv v14_197, iv v15_198, iv v16_199, rv b200, .val (.double r18_204), .second, iv (1 : Int32), .val (.long (0 : Int64)), .second, .val (.long v23_206), .second, .unset, .unset] []))
      refine own_go (XS.iload X205.here hx rfl (hb hby at_225) rfl (Steps.refl _)) ?_
      show own_Fin _ _ _ _ (T205.setTop (mkF m 227 #[iv p1, .val (.long q2), .second, iv p3, iv p4, iv p5, iv p6, iv (1 : Int32), iv v8_186, iv v9_187, iv v10_189, iv v11_191, iv v12_193, iv v13_195, iv v14_197, iv v15_198, iv v16_199, rv b200, .val (.double r18_204), .second, iv (1 : Int32), .val (.long (0 : Int64)), .second, .val (.long v23_206), .second, .unset, .unset] [(.int (1 : Int32))]))
      refine own_go (XS.iconst X205.here hx rfl (hb hby at_227) (Steps.refl _)) ?_
      show own_Fin _ _ _ _ (T205.setTop (mkF m 228 #[iv p1, .val (.long q2), .second, iv p3, iv p4, iv p5, iv p6, iv (1 : Int32), iv v8_186, iv v9_187, iv v10_189, iv v11_191, iv v12_193, iv v13_195, iv v14_197, iv v15_198, iv v16_199, rv b200, .val (.double r18_204), .second, iv (1 : Int32), .val (.long (0 : Int64)), .second, .val (.long v23_206), .second, .unset, .unset] [(.int (2 : Int32)), (.int (1 : Int32))]))
      refine own_go (XS.icmpYes X205.here hx rfl (pc0 := 228) (pc' := 275) rfl (hb hby at_228) rfl (tlt (by decide : (1 : Int32) < (2 : Int32))).1 (by decide) (by decide) (Steps.refl _)) ?_
      show own_Fin _ _ _ _ (T205.setTop (mkF m 275 #[iv p1, .val (.long q2), .second, iv p3, iv p4, iv p5, iv p6, iv (1 : Int32), iv v8_186, iv v9_187, iv v10_189, iv v11_191, iv v12_193, iv v13_195, iv v14_197, iv v15_198, iv v16_199, rv b200, .val (.double r18_204), .second, iv (1 : Int32), .val (.long (0 : Int64)), .second, .val (.long v23_206), .second, .unset, .unset] []))
      refine own_go (XS.iload X205.here hx rfl (hb hby at_275) rfl (Steps.refl _)) ?_
      show own_Fin _ _ _ _ (T205.setTop (mkF m 277 #[iv p1, .val (.long q2), .second, iv p3, iv p4, iv p5, iv p6, iv (1 : Int32), iv v8_186, iv v9_187, iv v10_189, iv v11_191, iv v12_193, iv v13_195, iv v14_197, iv v15_198, iv v16_199, rv b200, .val (.double r18_204), .second, iv (1 : Int32), .val (.long (0 : Int64)), .second, .val (.long v23_206), .second, .unset, .unset] [(.int (1 : Int32))]))
      refine own_go (XS.iconst X205.here hx rfl (hb hby at_277) (Steps.refl _)) ?_
      show own_Fin _ _ _ _ (T205.setTop (mkF m 278 #[iv p1, .val (.long q2), .second, iv p3, iv p4, iv p5, iv p6, iv (1 : Int32), iv v8_186, iv v9_187, iv v10_189, iv v11_191, iv v12_193, iv v13_195, iv v14_197, iv v15_198, iv v16_199, rv b200, .val (.double r18_204), .second, iv (1 : Int32), .val (.long (0 : Int64)), .second, .val (.long v23_206), .second, .unset, .unset] [(.int (3 : Int32)), (.int (1 : Int32))]))
      refine own_go (XS.icmpYes X205.here hx rfl (pc0 := 278) (pc' := 324) rfl (hb hby at_278) rfl (tlt (by decide : (1 : Int32) < (3 : Int32))).1 (by decide) (by decide) (Steps.refl _)) ?_
      show own_Fin _ _ _ _ (T205.setTop (mkF m 324 #[iv p1, .val (.long q2), .second, iv p3, iv p4, iv p5, iv p6, iv (1 : Int32), iv v8_186, iv v9_187, iv v10_189, iv v11_191, iv v12_193, iv v13_195, iv v14_197, iv v15_198, iv v16_199, rv b200, .val (.double r18_204), .second, iv (1 : Int32), .val (.long (0 : Int64)), .second, .val (.long v23_206), .second, .unset, .unset] []))
      refine own_go (XS.iload X205.here hx rfl (hb hby at_324) rfl (Steps.refl _)) ?_
      show own_Fin _ _ _ _ (T205.setTop (mkF m 326 #[iv p1, .val (.long q2), .second, iv p3, iv p4, iv p5, iv p6, iv (1 : Int32), iv v8_186, iv v9_187, iv v10_189, iv v11_191, iv v12_193, iv v13_195, iv v14_197, iv v15_198, iv v16_199, rv b200, .val (.double r18_204), .second, iv (1 : Int32), .val (.long (0 : Int64)), .second, .val (.long v23_206), .second, .unset, .unset] [(.int (1 : Int32))]))
      refine own_go (XS.ifNo X205.here hx rfl (hb hby at_326) rfl ((if0 _ _).trans (feq (by decide : ¬ ((1 : Int32) = (0 : Int32)))).1) (Steps.refl _)) ?_
      show own_Fin _ _ _ _ (T205.setTop (mkF m 329 #[iv p1, .val (.long q2), .second, iv p3, iv p4, iv p5, iv p6, iv (1 : Int32), iv v8_186, iv v9_187, iv v10_189, iv v11_191, iv v12_193, iv v13_195, iv v14_197, iv v15_198, iv v16_199, rv b200, .val (.double r18_204), .second, iv (1 : Int32), .val (.long (0 : Int64)), .second, .val (.long v23_206), .second, .unset, .unset] []))
      refine own_go (XS.dload X205.here hx rfl (hb hby at_329) rfl (Steps.refl _)) ?_
      show own_Fin _ _ _ _ (T205.setTop (mkF m 331 #[iv p1, .val (.long q2), .second, iv p3, iv p4, iv p5, iv p6, iv (1 : Int32), iv v8_186, iv v9_187, iv v10_189, iv v11_191, iv v12_193, iv v13_195, iv v14_197, iv v15_198, iv v16_199, rv b200, .val (.double r18_204), .second, iv (1 : Int32), .val (.long (0 : Int64)), .second, .val (.long v23_206), .second, .unset, .unset] [(.double r18_204)]))
      refine own_by (X205.ldc2DoubleC hx hown (mvT hZ (hw _ (List.mem_of_getElem? (i := 79) rfl))) (g := (mkF m 331 #[iv p1, .val (.long q2), .second, iv p3, iv p4, iv p5, iv p6, iv (1 : Int32), iv v8_186, iv v9_187, iv v10_189, iv v11_191, iv v12_193, iv v13_195, iv v14_197, iv v15_198, iv v16_199, rv b200, .val (.double r18_204), .second, iv (1 : Int32), .val (.long (0 : Int64)), .second, .val (.long v23_206), .second, .unset, .unset] [(.double r18_204)])) rfl (hb hby at_331)) ?_
      show own_Fin _ _ _ _ (T205.setTop (mkF m 334 #[iv p1, .val (.long q2), .second, iv p3, iv p4, iv p5, iv p6, iv (1 : Int32), iv v8_186, iv v9_187, iv v10_189, iv v11_191, iv v12_193, iv v13_195, iv v14_197, iv v15_198, iv v16_199, rv b200, .val (.double r18_204), .second, iv (1 : Int32), .val (.long (0 : Int64)), .second, .val (.long v23_206), .second, .unset, .unset] [(.double (9218868437227405312 : UInt64)), (.double r18_204)]))
      refine own_go (XS.dcmpS X205.here hx rfl (hb hby at_334) rfl (show cmpValue (FP.dcmp r18_204 (9218868437227405312 : UInt64)) .l = (0 : Int32) from (by rw [← hz_r18_204]; exact own_ci (own_z1 (cb207)) (by decide))) (Steps.refl _)) ?_
      show own_Fin _ _ _ _ (T205.setTop (mkF m 335 #[iv p1, .val (.long q2), .second, iv p3, iv p4, iv p5, iv p6, iv (1 : Int32), iv v8_186, iv v9_187, iv v10_189, iv v11_191, iv v12_193, iv v13_195, iv v14_197, iv v15_198, iv v16_199, rv b200, .val (.double r18_204), .second, iv (1 : Int32), .val (.long (0 : Int64)), .second, .val (.long v23_206), .second, .unset, .unset] [(.int (0 : Int32))]))
      refine own_go (XS.ifNo X205.here hx rfl (hb hby at_335) rfl ((if0 _ _).trans (teq (by decide : (0 : Int32) = (0 : Int32))).2) (Steps.refl _)) ?_
      show own_Fin _ _ _ _ (T205.setTop (mkF m 338 #[iv p1, .val (.long q2), .second, iv p3, iv p4, iv p5, iv p6, iv (1 : Int32), iv v8_186, iv v9_187, iv v10_189, iv v11_191, iv v12_193, iv v13_195, iv v14_197, iv v15_198, iv v16_199, rv b200, .val (.double r18_204), .second, iv (1 : Int32), .val (.long (0 : Int64)), .second, .val (.long v23_206), .second, .unset, .unset] []))
      refine own_go (XS.iconst X205.here hx rfl (hb hby at_338) (Steps.refl _)) ?_
      show own_Fin _ _ _ _ (T205.setTop (mkF m 339 #[iv p1, .val (.long q2), .second, iv p3, iv p4, iv p5, iv p6, iv (1 : Int32), iv v8_186, iv v9_187, iv v10_189, iv v11_191, iv v12_193, iv v13_195, iv v14_197, iv v15_198, iv v16_199, rv b200, .val (.double r18_204), .second, iv (1 : Int32), .val (.long (0 : Int64)), .second, .val (.long v23_206), .second, .unset, .unset] [(.int (1 : Int32))]))
      refine own_go (XS.goto X205.here hx rfl (pc0 := 339) (pc' := 343) rfl (hb hby at_339) (by decide) (by decide) (Steps.refl _)) ?_
      show own_Fin _ _ _ _ (T205.setTop (mkF m 343 #[iv p1, .val (.long q2), .second, iv p3, iv p4, iv p5, iv p6, iv (1 : Int32), iv v8_186, iv v9_187, iv v10_189, iv v11_191, iv v12_193, iv v13_195, iv v14_197, iv v15_198, iv v16_199, rv b200, .val (.double r18_204), .second, iv (1 : Int32), .val (.long (0 : Int64)), .second, .val (.long v23_206), .second, .unset, .unset] [(.int (1 : Int32))]))
      obtain ⟨fs208, hr208, hrun208, hended208, hW208, hsame208⟩ := X205.leave (v := some (.int (1 : Int32))) (fun h => by rw [Bd.returns] at h; cases h)
      refine own_done (retN X205 hx (t := .boolean) Bd.returns (by simp) (hb hby at_343) hr208) hrun208 hended208 ⟨_, _, rfl, ?_, ⟨_, rfl⟩, hW208, hsame208.mono (by decide) (by decide)⟩
      show Q0 Z p1 q2 p3 p4 p5 p6 h0 n0 _ T205.heap _
      rw [e205]
      exact ⟨rfl, N205⟩
    · refine own_go (XS.ifYes X205.here hx rfl (pc0 := 205) (pc' := 214) rfl (hb hby at_205) rfl ((if0 _ _).trans (feq (show ¬ ((lcmpW v23_206 (-9223372036854775808 : Int64)) = (0 : Int32)) from (by rw [← hz_v23_206]; exact own_lvne (own_W3 _ _ _ _ _ _ _) cb207))).2) (by decide) (by decide) (Steps.refl _)) ?_
      show own_Fin _ _ _ _ (T205.setTop (mkF m 214 #[iv p1, .val (.long q2), .second, iv p3, iv p4, iv p5, iv p6, iv (1 : Int32), iv v8_186, iv v9_187, iv v10_189, iv v11_191, iv v12_193, iv v13_195, iv v14_197, iv v15_198, iv v16_199, rv b200, .val (.double r18_204), .second, iv (0 : Int32), .val (.long (0 : Int64)), .second, .val (.long v23_206), .second, .unset, .unset] []))
      refine own_go (XS.lload X205.here hx rfl (hb hby at_214) rfl (Steps.refl _)) ?_
      show own_Fin _ _ _ _ (T205.setTop (mkF m 216 #[iv p1, .val (.long q2), .second, iv p3, iv p4, iv p5, iv p6, iv (1 : Int32), iv v8_186, iv v9_187, iv v10_189, iv v11_191, iv v12_193, iv v13_195, iv v14_197, iv v15_198, iv v16_199, rv b200, .val (.double r18_204), .second, iv (0 : Int32), .val (.long (0 : Int64)), .second, .val (.long v23_206), .second, .unset, .unset] [(.long (0 : Int64))]))
      refine own_go (XS.iload X205.here hx rfl (hb hby at_216) rfl (Steps.refl _)) ?_
      show own_Fin _ _ _ _ (T205.setTop (mkF m 218 #[iv p1, .val (.long q2), .second, iv p3, iv p4, iv p5, iv p6, iv (1 : Int32), iv v8_186, iv v9_187, iv v10_189, iv v11_191, iv v12_193, iv v13_195, iv v14_197, iv v15_198, iv v16_199, rv b200, .val (.double r18_204), .second, iv (0 : Int32), .val (.long (0 : Int64)), .second, .val (.long v23_206), .second, .unset, .unset] [(.int v15_198), (.long (0 : Int64))]))
      refine own_go (XS.i2l X205.here hx rfl (hb hby at_218) rfl (Steps.refl _)) ?_
      show own_Fin _ _ _ _ (T205.setTop (mkF m 219 #[iv p1, .val (.long q2), .second, iv p3, iv p4, iv p5, iv p6, iv (1 : Int32), iv v8_186, iv v9_187, iv v10_189, iv v11_191, iv v12_193, iv v13_195, iv v14_197, iv v15_198, iv v16_199, rv b200, .val (.double r18_204), .second, iv (0 : Int32), .val (.long (0 : Int64)), .second, .val (.long v23_206), .second, .unset, .unset] [(.long (v15_198.toInt64)), (.long (0 : Int64))]))
      refine own_go (XS.lload X205.here hx rfl (hb hby at_219) rfl (Steps.refl _)) ?_
      show own_Fin _ _ _ _ (T205.setTop (mkF m 221 #[iv p1, .val (.long q2), .second, iv p3, iv p4, iv p5, iv p6, iv (1 : Int32), iv v8_186, iv v9_187, iv v10_189, iv v11_191, iv v12_193, iv v13_195, iv v14_197, iv v15_198, iv v16_199, rv b200, .val (.double r18_204), .second, iv (0 : Int32), .val (.long (0 : Int64)), .second, .val (.long v23_206), .second, .unset, .unset] [(.long v23_206), (.long (v15_198.toInt64)), (.long (0 : Int64))]))
      refine own_go (XS.lsub X205.here hx rfl (hb hby at_221) rfl (Steps.refl _)) ?_
      show own_Fin _ _ _ _ (T205.setTop (mkF m 222 #[iv p1, .val (.long q2), .second, iv p3, iv p4, iv p5, iv p6, iv (1 : Int32), iv v8_186, iv v9_187, iv v10_189, iv v11_191, iv v12_193, iv v13_195, iv v14_197, iv v15_198, iv v16_199, rv b200, .val (.double r18_204), .second, iv (0 : Int32), .val (.long (0 : Int64)), .second, .val (.long v23_206), .second, .unset, .unset] [(.long ((v15_198.toInt64) - v23_206)), (.long (0 : Int64))]))
      refine own_go (XS.ladd X205.here hx rfl (hb hby at_222) rfl (Steps.refl _)) ?_
      show own_Fin _ _ _ _ (T205.setTop (mkF m 223 #[iv p1, .val (.long q2), .second, iv p3, iv p4, iv p5, iv p6, iv (1 : Int32), iv v8_186, iv v9_187, iv v10_189, iv v11_191, iv v12_193, iv v13_195, iv v14_197, iv v15_198, iv v16_199, rv b200, .val (.double r18_204), .second, iv (0 : Int32), .val (.long (0 : Int64)), .second, .val (.long v23_206), .second, .unset, .unset] [(.long ((0 : Int64) + ((v15_198.toInt64) - v23_206)))]))
      refine own_go (XS.lstore X205.here hx rfl (hb hby at_223) rfl rfl (Steps.refl _)) ?_
      show own_Fin _ _ _ _ (T205.setTop (mkF m 225 #[iv p1, .val (.long q2), .second, iv p3, iv p4, iv p5, iv p6, iv (1 : Int32), iv v8_186, iv v9_187, iv v10_189, iv v11_191, iv v12_193, iv v13_195, iv v14_197, iv v15_198, iv v16_199, rv b200, .val (.double r18_204), .second, iv (0 : Int32), .val (.long ((0 : Int64) + ((v15_198.toInt64) - v23_206))), .second, .val (.long v23_206), .second, .unset, .unset] []))
      generalize hz_v21_209 : ((0 : Int64) + ((v15_198.toInt64) - v23_206)) = v21_209
      refine own_go (XS.iload X205.here hx rfl (hb hby at_225) rfl (Steps.refl _)) ?_
      show own_Fin _ _ _ _ (T205.setTop (mkF m 227 #[iv p1, .val (.long q2), .second, iv p3, iv p4, iv p5, iv p6, iv (1 : Int32), iv v8_186, iv v9_187, iv v10_189, iv v11_191, iv v12_193, iv v13_195, iv v14_197, iv v15_198, iv v16_199, rv b200, .val (.double r18_204), .second, iv (0 : Int32), .val (.long v21_209), .second, .val (.long v23_206), .second, .unset, .unset] [(.int (1 : Int32))]))
      refine own_go (XS.iconst X205.here hx rfl (hb hby at_227) (Steps.refl _)) ?_
      show own_Fin _ _ _ _ (T205.setTop (mkF m 228 #[iv p1, .val (.long q2), .second, iv p3, iv p4, iv p5, iv p6, iv (1 : Int32), iv v8_186, iv v9_187, iv v10_189, iv v11_191, iv v12_193, iv v13_195, iv v14_197, iv v15_198, iv v16_199, rv b200, .val (.double r18_204), .second, iv (0 : Int32), .val (.long v21_209), .second, .val (.long v23_206), .second, .unset, .unset] [(.int (2 : Int32)), (.int (1 : Int32))]))
      refine own_go (XS.icmpYes X205.here hx rfl (pc0 := 228) (pc' := 275) rfl (hb hby at_228) rfl (tlt (by decide : (1 : Int32) < (2 : Int32))).1 (by decide) (by decide) (Steps.refl _)) ?_
      show own_Fin _ _ _ _ (T205.setTop (mkF m 275 #[iv p1, .val (.long q2), .second, iv p3, iv p4, iv p5, iv p6, iv (1 : Int32), iv v8_186, iv v9_187, iv v10_189, iv v11_191, iv v12_193, iv v13_195, iv v14_197, iv v15_198, iv v16_199, rv b200, .val (.double r18_204), .second, iv (0 : Int32), .val (.long v21_209), .second, .val (.long v23_206), .second, .unset, .unset] []))
      refine own_go (XS.iload X205.here hx rfl (hb hby at_275) rfl (Steps.refl _)) ?_
      show own_Fin _ _ _ _ (T205.setTop (mkF m 277 #[iv p1, .val (.long q2), .second, iv p3, iv p4, iv p5, iv p6, iv (1 : Int32), iv v8_186, iv v9_187, iv v10_189, iv v11_191, iv v12_193, iv v13_195, iv v14_197, iv v15_198, iv v16_199, rv b200, .val (.double r18_204), .second, iv (0 : Int32), .val (.long v21_209), .second, .val (.long v23_206), .second, .unset, .unset] [(.int (1 : Int32))]))
      refine own_go (XS.iconst X205.here hx rfl (hb hby at_277) (Steps.refl _)) ?_
      show own_Fin _ _ _ _ (T205.setTop (mkF m 278 #[iv p1, .val (.long q2), .second, iv p3, iv p4, iv p5, iv p6, iv (1 : Int32), iv v8_186, iv v9_187, iv v10_189, iv v11_191, iv v12_193, iv v13_195, iv v14_197, iv v15_198, iv v16_199, rv b200, .val (.double r18_204), .second, iv (0 : Int32), .val (.long v21_209), .second, .val (.long v23_206), .second, .unset, .unset] [(.int (3 : Int32)), (.int (1 : Int32))]))
      refine own_go (XS.icmpYes X205.here hx rfl (pc0 := 278) (pc' := 324) rfl (hb hby at_278) rfl (tlt (by decide : (1 : Int32) < (3 : Int32))).1 (by decide) (by decide) (Steps.refl _)) ?_
      show own_Fin _ _ _ _ (T205.setTop (mkF m 324 #[iv p1, .val (.long q2), .second, iv p3, iv p4, iv p5, iv p6, iv (1 : Int32), iv v8_186, iv v9_187, iv v10_189, iv v11_191, iv v12_193, iv v13_195, iv v14_197, iv v15_198, iv v16_199, rv b200, .val (.double r18_204), .second, iv (0 : Int32), .val (.long v21_209), .second, .val (.long v23_206), .second, .unset, .unset] []))
      refine own_go (XS.iload X205.here hx rfl (hb hby at_324) rfl (Steps.refl _)) ?_
      show own_Fin _ _ _ _ (T205.setTop (mkF m 326 #[iv p1, .val (.long q2), .second, iv p3, iv p4, iv p5, iv p6, iv (1 : Int32), iv v8_186, iv v9_187, iv v10_189, iv v11_191, iv v12_193, iv v13_195, iv v14_197, iv v15_198, iv v16_199, rv b200, .val (.double r18_204), .second, iv (0 : Int32), .val (.long v21_209), .second, .val (.long v23_206), .second, .unset, .unset] [(.int (0 : Int32))]))
      refine own_go (XS.ifYes X205.here hx rfl (pc0 := 326) (pc' := 344) rfl (hb hby at_326) rfl ((if0 _ _).trans (teq (by decide : (0 : Int32) = (0 : Int32))).1) (by decide) (by decide) (Steps.refl _)) ?_
      show own_Fin _ _ _ _ (T205.setTop (mkF m 344 #[iv p1, .val (.long q2), .second, iv p3, iv p4, iv p5, iv p6, iv (1 : Int32), iv v8_186, iv v9_187, iv v10_189, iv v11_191, iv v12_193, iv v13_195, iv v14_197, iv v15_198, iv v16_199, rv b200, .val (.double r18_204), .second, iv (0 : Int32), .val (.long v21_209), .second, .val (.long v23_206), .second, .unset, .unset] []))
      refine own_go (XS.dload X205.here hx rfl (hb hby at_344) rfl (Steps.refl _)) ?_
      show own_Fin _ _ _ _ (T205.setTop (mkF m 346 #[iv p1, .val (.long q2), .second, iv p3, iv p4, iv p5, iv p6, iv (1 : Int32), iv v8_186, iv v9_187, iv v10_189, iv v11_191, iv v12_193, iv v13_195, iv v14_197, iv v15_198, iv v16_199, rv b200, .val (.double r18_204), .second, iv (0 : Int32), .val (.long v21_209), .second, .val (.long v23_206), .second, .unset, .unset] [(.double r18_204)]))
      refine own_go (XS.lload X205.here hx rfl (hb hby at_346) rfl (Steps.refl _)) ?_
      show own_Fin _ _ _ _ (T205.setTop (mkF m 348 #[iv p1, .val (.long q2), .second, iv p3, iv p4, iv p5, iv p6, iv (1 : Int32), iv v8_186, iv v9_187, iv v10_189, iv v11_191, iv v12_193, iv v13_195, iv v14_197, iv v15_198, iv v16_199, rv b200, .val (.double r18_204), .second, iv (0 : Int32), .val (.long v21_209), .second, .val (.long v23_206), .second, .unset, .unset] [(.long v21_209), (.double r18_204)]))
      refine own_go (XS.l2dS X205.here hx rfl (hb hby at_348) rfl rfl (Steps.refl _)) ?_
      show own_Fin _ _ _ _ (T205.setTop (mkF m 349 #[iv p1, .val (.long q2), .second, iv p3, iv p4, iv p5, iv p6, iv (1 : Int32), iv v8_186, iv v9_187, iv v10_189, iv v11_191, iv v12_193, iv v13_195, iv v14_197, iv v15_198, iv v16_199, rv b200, .val (.double r18_204), .second, iv (0 : Int32), .val (.long v21_209), .second, .val (.long v23_206), .second, .unset, .unset] [(.double (FP.l2d v21_209)), (.double r18_204)]))
      refine own_go (XS.iload X205.here hx rfl (hb hby at_349) rfl (Steps.refl _)) ?_
      show own_Fin _ _ _ _ (T205.setTop (mkF m 351 #[iv p1, .val (.long q2), .second, iv p3, iv p4, iv p5, iv p6, iv (1 : Int32), iv v8_186, iv v9_187, iv v10_189, iv v11_191, iv v12_193, iv v13_195, iv v14_197, iv v15_198, iv v16_199, rv b200, .val (.double r18_204), .second, iv (0 : Int32), .val (.long v21_209), .second, .val (.long v23_206), .second, .unset, .unset] [(.int (1 : Int32)), (.double (FP.l2d v21_209)), (.double r18_204)]))
      refine own_go (XS.i2dS X205.here hx rfl (hb hby at_351) rfl (i2d_w _) (Steps.refl _)) ?_
      show own_Fin _ _ _ _ (T205.setTop (mkF m 352 #[iv p1, .val (.long q2), .second, iv p3, iv p4, iv p5, iv p6, iv (1 : Int32), iv v8_186, iv v9_187, iv v10_189, iv v11_191, iv v12_193, iv v13_195, iv v14_197, iv v15_198, iv v16_199, rv b200, .val (.double r18_204), .second, iv (0 : Int32), .val (.long v21_209), .second, .val (.long v23_206), .second, .unset, .unset] [(.double (FP.l2d (1 : Int32).toInt64)), (.double (FP.l2d v21_209)), (.double r18_204)]))
      refine own_go (XS.ddivS X205.here hx rfl (hb hby at_352) rfl (ddiv_out (l2d_fin _).noNaN (l2d_fin _) (own_nz (by decide))) rfl (Steps.refl _)) ?_
      show own_Fin _ _ _ _ (T205.setTop (mkF m 353 #[iv p1, .val (.long q2), .second, iv p3, iv p4, iv p5, iv p6, iv (1 : Int32), iv v8_186, iv v9_187, iv v10_189, iv v11_191, iv v12_193, iv v13_195, iv v14_197, iv v15_198, iv v16_199, rv b200, .val (.double r18_204), .second, iv (0 : Int32), .val (.long v21_209), .second, .val (.long v23_206), .second, .unset, .unset] [(.double (FP.ddiv (FP.l2d v21_209) (FP.l2d (1 : Int32).toInt64))), (.double r18_204)]))
      refine own_go (XS.dcmpS X205.here hx rfl (hb hby at_353) rfl (show cmpValue (FP.dcmp r18_204 (FP.ddiv (FP.l2d v21_209) (FP.l2d (1 : Int32).toInt64))) .l = (0 : Int32) from (by rw [← hz_r18_204, ← hz_v21_209, ← hz_v23_206]; exact own_ce (own_e1 cb207) (by decide))) (Steps.refl _)) ?_
      show own_Fin _ _ _ _ (T205.setTop (mkF m 354 #[iv p1, .val (.long q2), .second, iv p3, iv p4, iv p5, iv p6, iv (1 : Int32), iv v8_186, iv v9_187, iv v10_189, iv v11_191, iv v12_193, iv v13_195, iv v14_197, iv v15_198, iv v16_199, rv b200, .val (.double r18_204), .second, iv (0 : Int32), .val (.long v21_209), .second, .val (.long v23_206), .second, .unset, .unset] [(.int (0 : Int32))]))
      refine own_go (XS.ifNo X205.here hx rfl (hb hby at_354) rfl ((if0 _ _).trans (teq (by decide : (0 : Int32) = (0 : Int32))).2) (Steps.refl _)) ?_
      show own_Fin _ _ _ _ (T205.setTop (mkF m 357 #[iv p1, .val (.long q2), .second, iv p3, iv p4, iv p5, iv p6, iv (1 : Int32), iv v8_186, iv v9_187, iv v10_189, iv v11_191, iv v12_193, iv v13_195, iv v14_197, iv v15_198, iv v16_199, rv b200, .val (.double r18_204), .second, iv (0 : Int32), .val (.long v21_209), .second, .val (.long v23_206), .second, .unset, .unset] []))
      refine own_go (XS.iconst X205.here hx rfl (hb hby at_357) (Steps.refl _)) ?_
      show own_Fin _ _ _ _ (T205.setTop (mkF m 358 #[iv p1, .val (.long q2), .second, iv p3, iv p4, iv p5, iv p6, iv (1 : Int32), iv v8_186, iv v9_187, iv v10_189, iv v11_191, iv v12_193, iv v13_195, iv v14_197, iv v15_198, iv v16_199, rv b200, .val (.double r18_204), .second, iv (0 : Int32), .val (.long v21_209), .second, .val (.long v23_206), .second, .unset, .unset] [(.int (1 : Int32))]))
      refine own_go (XS.goto X205.here hx rfl (pc0 := 358) (pc' := 362) rfl (hb hby at_358) (by decide) (by decide) (Steps.refl _)) ?_
      show own_Fin _ _ _ _ (T205.setTop (mkF m 362 #[iv p1, .val (.long q2), .second, iv p3, iv p4, iv p5, iv p6, iv (1 : Int32), iv v8_186, iv v9_187, iv v10_189, iv v11_191, iv v12_193, iv v13_195, iv v14_197, iv v15_198, iv v16_199, rv b200, .val (.double r18_204), .second, iv (0 : Int32), .val (.long v21_209), .second, .val (.long v23_206), .second, .unset, .unset] [(.int (1 : Int32))]))
      obtain ⟨fs210, hr210, hrun210, hended210, hW210, hsame210⟩ := X205.leave (v := some (.int (1 : Int32))) (fun h => by rw [Bd.returns] at h; cases h)
      refine own_done (retN X205 hx (t := .boolean) Bd.returns (by simp) (hb hby at_362) hr210) hrun210 hended210 ⟨_, _, rfl, ?_, ⟨_, rfl⟩, hW210, hsame210.mono (by decide) (by decide)⟩
      show Q0 Z p1 q2 p3 p4 p5 p6 h0 n0 _ T205.heap _
      rw [e205]
      exact ⟨rfl, N205⟩
  · show own_Fin _ _ _ _ (s₁.setTop (mkF m 9 #[iv p1, .val (.long q2), .second, iv p3, iv p4, iv p5, iv p6, iv (2 : Int32), .unset, .unset, .unset, .unset, .unset, .unset, .unset, .unset, .unset, .unset, .unset, .unset, .unset, .unset, .unset, .unset, .unset, .unset, .unset] []))
    refine own_go (XS.iloadN X0.here hx rfl (hb hby at_9) rfl (Steps.refl _)) ?_
    show own_Fin _ _ _ _ (s₁.setTop (mkF m 10 #[iv p1, .val (.long q2), .second, iv p3, iv p4, iv p5, iv p6, iv (2 : Int32), .unset, .unset, .unset, .unset, .unset, .unset, .unset, .unset, .unset, .unset, .unset, .unset, .unset, .unset, .unset, .unset, .unset, .unset, .unset] [(.int p1)]))
    refine own_go (XS.iconst X0.here hx rfl (hb hby at_10) (Steps.refl _)) ?_
    show own_Fin _ _ _ _ (s₁.setTop (mkF m 11 #[iv p1, .val (.long q2), .second, iv p3, iv p4, iv p5, iv p6, iv (2 : Int32), .unset, .unset, .unset, .unset, .unset, .unset, .unset, .unset, .unset, .unset, .unset, .unset, .unset, .unset, .unset, .unset, .unset, .unset, .unset] [(.int (2 : Int32)), (.int p1)]))
    refine own_go (XS.iushr X0.here hx rfl (hb hby at_11) rfl (Steps.refl _)) ?_
    show own_Fin _ _ _ _ (s₁.setTop (mkF m 12 #[iv p1, .val (.long q2), .second, iv p3, iv p4, iv p5, iv p6, iv (2 : Int32), .unset, .unset, .unset, .unset, .unset, .unset, .unset, .unset, .unset, .unset, .unset, .unset, .unset, .unset, .unset, .unset, .unset, .unset, .unset] [(.int ((p1.toUInt32 >>> ((2 : Int32) &&& 31).toUInt32).toInt32))]))
    refine own_go (XS.iconst X0.here hx rfl (hb hby at_12) (Steps.refl _)) ?_
    show own_Fin _ _ _ _ (s₁.setTop (mkF m 13 #[iv p1, .val (.long q2), .second, iv p3, iv p4, iv p5, iv p6, iv (2 : Int32), .unset, .unset, .unset, .unset, .unset, .unset, .unset, .unset, .unset, .unset, .unset, .unset, .unset, .unset, .unset, .unset, .unset, .unset, .unset] [(.int (3 : Int32)), (.int ((p1.toUInt32 >>> ((2 : Int32) &&& 31).toUInt32).toInt32))]))
    refine own_go (XS.iand X0.here hx rfl (hb hby at_13) rfl (Steps.refl _)) ?_
    show own_Fin _ _ _ _ (s₁.setTop (mkF m 14 #[iv p1, .val (.long q2), .second, iv p3, iv p4, iv p5, iv p6, iv (2 : Int32), .unset, .unset, .unset, .unset, .unset, .unset, .unset, .unset, .unset, .unset, .unset, .unset, .unset, .unset, .unset, .unset, .unset, .unset, .unset] [(.int (((p1.toUInt32 >>> ((2 : Int32) &&& 31).toUInt32).toInt32) &&& (3 : Int32)))]))
    refine own_go (XS.istore X0.here hx rfl (hb hby at_14) rfl rfl (Steps.refl _)) ?_
    show own_Fin _ _ _ _ (s₁.setTop (mkF m 16 #[iv p1, .val (.long q2), .second, iv p3, iv p4, iv p5, iv p6, iv (2 : Int32), iv (((p1.toUInt32 >>> ((2 : Int32) &&& 31).toUInt32).toInt32) &&& (3 : Int32)), .unset, .unset, .unset, .unset, .unset, .unset, .unset, .unset, .unset, .unset, .unset, .unset, .unset, .unset, .unset, .unset, .unset, .unset] []))
    generalize hz_v8_211 : (((p1.toUInt32 >>> ((2 : Int32) &&& 31).toUInt32).toInt32) &&& (3 : Int32)) = v8_211
    refine own_go (XS.iloadN X0.here hx rfl (hb hby at_16) rfl (Steps.refl _)) ?_
    show own_Fin _ _ _ _ (s₁.setTop (mkF m 17 #[iv p1, .val (.long q2), .second, iv p3, iv p4, iv p5, iv p6, iv (2 : Int32), iv v8_211, .unset, .unset, .unset, .unset, .unset, .unset, .unset, .unset, .unset, .unset, .unset, .unset, .unset, .unset, .unset, .unset, .unset, .unset] [(.int p1)]))
    refine own_go (XS.iconst X0.here hx rfl (hb hby at_17) (Steps.refl _)) ?_
    show own_Fin _ _ _ _ (s₁.setTop (mkF m 18 #[iv p1, .val (.long q2), .second, iv p3, iv p4, iv p5, iv p6, iv (2 : Int32), iv v8_211, .unset, .unset, .unset, .unset, .unset, .unset, .unset, .unset, .unset, .unset, .unset, .unset, .unset, .unset, .unset, .unset, .unset, .unset] [(.int (4 : Int32)), (.int p1)]))
    refine own_go (XS.iushr X0.here hx rfl (hb hby at_18) rfl (Steps.refl _)) ?_
    show own_Fin _ _ _ _ (s₁.setTop (mkF m 19 #[iv p1, .val (.long q2), .second, iv p3, iv p4, iv p5, iv p6, iv (2 : Int32), iv v8_211, .unset, .unset, .unset, .unset, .unset, .unset, .unset, .unset, .unset, .unset, .unset, .unset, .unset, .unset, .unset, .unset, .unset, .unset] [(.int ((p1.toUInt32 >>> ((4 : Int32) &&& 31).toUInt32).toInt32))]))
    refine own_go (XS.iconst X0.here hx rfl (hb hby at_19) (Steps.refl _)) ?_
    show own_Fin _ _ _ _ (s₁.setTop (mkF m 20 #[iv p1, .val (.long q2), .second, iv p3, iv p4, iv p5, iv p6, iv (2 : Int32), iv v8_211, .unset, .unset, .unset, .unset, .unset, .unset, .unset, .unset, .unset, .unset, .unset, .unset, .unset, .unset, .unset, .unset, .unset, .unset] [(.int (3 : Int32)), (.int ((p1.toUInt32 >>> ((4 : Int32) &&& 31).toUInt32).toInt32))]))
    refine own_go (XS.iand X0.here hx rfl (hb hby at_20) rfl (Steps.refl _)) ?_
    show own_Fin _ _ _ _ (s₁.setTop (mkF m 21 #[iv p1, .val (.long q2), .second, iv p3, iv p4, iv p5, iv p6, iv (2 : Int32), iv v8_211, .unset, .unset, .unset, .unset, .unset, .unset, .unset, .unset, .unset, .unset, .unset, .unset, .unset, .unset, .unset, .unset, .unset, .unset] [(.int (((p1.toUInt32 >>> ((4 : Int32) &&& 31).toUInt32).toInt32) &&& (3 : Int32)))]))
    refine own_go (XS.istore X0.here hx rfl (hb hby at_21) rfl rfl (Steps.refl _)) ?_
    show own_Fin _ _ _ _ (s₁.setTop (mkF m 23 #[iv p1, .val (.long q2), .second, iv p3, iv p4, iv p5, iv p6, iv (2 : Int32), iv v8_211, iv (((p1.toUInt32 >>> ((4 : Int32) &&& 31).toUInt32).toInt32) &&& (3 : Int32)), .unset, .unset, .unset, .unset, .unset, .unset, .unset, .unset, .unset, .unset, .unset, .unset, .unset, .unset, .unset, .unset, .unset] []))
    generalize hz_v9_212 : (((p1.toUInt32 >>> ((4 : Int32) &&& 31).toUInt32).toInt32) &&& (3 : Int32)) = v9_212
    refine own_go (XS.iload X0.here hx rfl (hb hby at_23) rfl (Steps.refl _)) ?_
    show own_Fin _ _ _ _ (s₁.setTop (mkF m 25 #[iv p1, .val (.long q2), .second, iv p3, iv p4, iv p5, iv p6, iv (2 : Int32), iv v8_211, iv v9_212, .unset, .unset, .unset, .unset, .unset, .unset, .unset, .unset, .unset, .unset, .unset, .unset, .unset, .unset, .unset, .unset, .unset] [(.int v8_211)]))
    refine own_go (XS.iload X0.here hx rfl (hb hby at_25) rfl (Steps.refl _)) ?_
    show own_Fin _ _ _ _ (s₁.setTop (mkF m 27 #[iv p1, .val (.long q2), .second, iv p3, iv p4, iv p5, iv p6, iv (2 : Int32), iv v8_211, iv v9_212, .unset, .unset, .unset, .unset, .unset, .unset, .unset, .unset, .unset, .unset, .unset, .unset, .unset, .unset, .unset, .unset, .unset] [(.int v9_212), (.int v8_211)]))
    obtain ⟨_, _, ⟨T213, L213, k213, n213⟩, -, X213, ⟨Lc213, hQ213, l213, y213, z213⟩, st213⟩ := Jvm.LawKit.callS X0 hx (y := (⟨"java/lang/Math", "min", "(II)I"⟩ : MethodName)) hown (mvT hZ (hw _ (List.mem_of_getElem? (i := 0) rfl))) (mvT hZ (hw _ (List.mem_of_getElem? (i := 1) rfl))) (mvT hZ (hw _ (List.mem_of_getElem? (i := 2) rfl))) (mvT hZ (hw _ (List.mem_of_getElem? (i := 3) rfl))) (by decide) (backOf (W := 0) (rmmi l Z a0 hw [] v8_211 v9_212 h0 n0 Z0) hZ (hw _ (List.mem_of_getElem? (i := 3) rfl)) (hw _ (List.mem_of_getElem? (i := 2) rfl)) (by decide) (by decide)) (g := (mkF m 27 #[iv p1, .val (.long q2), .second, iv p3, iv p4, iv p5, iv p6, iv (2 : Int32), iv v8_211, iv v9_212, .unset, .unset, .unset, .unset, .unset, .unset, .unset, .unset, .unset, .unset, .unset, .unset, .unset, .unset, .unset, .unset, .unset] [(.int v9_212), (.int v8_211)])) rfl (by rw [hml]; rfl) (argsL := [(.int v8_211), (.int v9_212)]) (rest := []) (lenOf pd__28_II_29_I rfl) rfl (by show 2 * 0 + _ ≤ _; exact Nat.le_of_eq rfl) (hb hby at_27) (fun _ hv => ⟨rfl, e0, (by decide : 0 + 0 ≤ _), (by decide : 0 + 0 ≤ _)⟩)
    dsimp only [Pt.U, Pt.locs, Pt.cells, Pt.slots] at X213 l213 y213 z213 st213 hQ213
    subst l213 y213 z213
    obtain ⟨rfl, Nq213, e213⟩ := hQ213
    refine own_by st213 ?_
    have N213 := Fr.app N0 Nq213
    show own_Fin _ _ _ _ (T213.setTop (mkF m 30 #[iv p1, .val (.long q2), .second, iv p3, iv p4, iv p5, iv p6, iv (2 : Int32), iv v8_211, iv v9_212, .unset, .unset, .unset, .unset, .unset, .unset, .unset, .unset, .unset, .unset, .unset, .unset, .unset, .unset, .unset, .unset, .unset] [(.int (own_mn v8_211 v9_212))]))
    refine own_go (XS.istore X213.here hx rfl (hb hby at_30) rfl rfl (Steps.refl _)) ?_
    show own_Fin _ _ _ _ (T213.setTop (mkF m 32 #[iv p1, .val (.long q2), .second, iv p3, iv p4, iv p5, iv p6, iv (2 : Int32), iv v8_211, iv v9_212, iv (own_mn v8_211 v9_212), .unset, .unset, .unset, .unset, .unset, .unset, .unset, .unset, .unset, .unset, .unset, .unset, .unset, .unset, .unset, .unset] []))
    generalize hz_v10_214 : (own_mn v8_211 v9_212) = v10_214
    refine own_go (XS.iload X213.here hx rfl (hb hby at_32) rfl (Steps.refl _)) ?_
    show own_Fin _ _ _ _ (T213.setTop (mkF m 34 #[iv p1, .val (.long q2), .second, iv p3, iv p4, iv p5, iv p6, iv (2 : Int32), iv v8_211, iv v9_212, iv v10_214, .unset, .unset, .unset, .unset, .unset, .unset, .unset, .unset, .unset, .unset, .unset, .unset, .unset, .unset, .unset, .unset] [(.int v8_211)]))
    refine own_go (XS.iload X213.here hx rfl (hb hby at_34) rfl (Steps.refl _)) ?_
    show own_Fin _ _ _ _ (T213.setTop (mkF m 36 #[iv p1, .val (.long q2), .second, iv p3, iv p4, iv p5, iv p6, iv (2 : Int32), iv v8_211, iv v9_212, iv v10_214, .unset, .unset, .unset, .unset, .unset, .unset, .unset, .unset, .unset, .unset, .unset, .unset, .unset, .unset, .unset, .unset] [(.int v9_212), (.int v8_211)]))
    obtain ⟨_, _, ⟨T215, L215, k215, n215⟩, -, X215, ⟨Lc215, hQ215, l215, y215, z215⟩, st215⟩ := Jvm.LawKit.callS X213 hx (y := (⟨"java/lang/Math", "max", "(II)I"⟩ : MethodName)) hown (mvT hZ (hw _ (List.mem_of_getElem? (i := 4) rfl))) (mvT hZ (hw _ (List.mem_of_getElem? (i := 5) rfl))) (mvT hZ (hw _ (List.mem_of_getElem? (i := 2) rfl))) (mvT hZ (hw _ (List.mem_of_getElem? (i := 6) rfl))) (by decide) (backOf (W := 0) (rmma l Z a0 hw [] v8_211 v9_212 h0 n0 Z0) hZ (hw _ (List.mem_of_getElem? (i := 6) rfl)) (hw _ (List.mem_of_getElem? (i := 2) rfl)) (by decide) (by decide)) (g := (mkF m 36 #[iv p1, .val (.long q2), .second, iv p3, iv p4, iv p5, iv p6, iv (2 : Int32), iv v8_211, iv v9_212, iv v10_214, .unset, .unset, .unset, .unset, .unset, .unset, .unset, .unset, .unset, .unset, .unset, .unset, .unset, .unset, .unset, .unset] [(.int v9_212), (.int v8_211)])) rfl (by rw [hml]; rfl) (argsL := [(.int v8_211), (.int v9_212)]) (rest := []) (lenOf pd__28_II_29_I rfl) rfl (by show 2 * 0 + _ ≤ _; exact Nat.le_of_eq rfl) (hb hby at_36) (fun _ hv => ⟨rfl, e213, (by decide : 0 + 0 ≤ _), (by decide : 0 + 0 ≤ _)⟩)
    dsimp only [Pt.U, Pt.locs, Pt.cells, Pt.slots] at X215 l215 y215 z215 st215 hQ215
    subst l215 y215 z215
    obtain ⟨rfl, Nq215, e215⟩ := hQ215
    refine own_by st215 ?_
    have N215 := Fr.app N213 Nq215
    show own_Fin _ _ _ _ (T215.setTop (mkF m 39 #[iv p1, .val (.long q2), .second, iv p3, iv p4, iv p5, iv p6, iv (2 : Int32), iv v8_211, iv v9_212, iv v10_214, .unset, .unset, .unset, .unset, .unset, .unset, .unset, .unset, .unset, .unset, .unset, .unset, .unset, .unset, .unset, .unset] [(.int (own_mi v8_211 v9_212))]))
    refine own_go (XS.istore X215.here hx rfl (hb hby at_39) rfl rfl (Steps.refl _)) ?_
    show own_Fin _ _ _ _ (T215.setTop (mkF m 41 #[iv p1, .val (.long q2), .second, iv p3, iv p4, iv p5, iv p6, iv (2 : Int32), iv v8_211, iv v9_212, iv v10_214, iv (own_mi v8_211 v9_212), .unset, .unset, .unset, .unset, .unset, .unset, .unset, .unset, .unset, .unset, .unset, .unset, .unset, .unset, .unset] []))
    generalize hz_v11_216 : (own_mi v8_211 v9_212) = v11_216
    refine own_go (XS.iconst X215.here hx rfl (hb hby at_41) (Steps.refl _)) ?_
    show own_Fin _ _ _ _ (T215.setTop (mkF m 42 #[iv p1, .val (.long q2), .second, iv p3, iv p4, iv p5, iv p6, iv (2 : Int32), iv v8_211, iv v9_212, iv v10_214, iv v11_216, .unset, .unset, .unset, .unset, .unset, .unset, .unset, .unset, .unset, .unset, .unset, .unset, .unset, .unset, .unset] [(.int (0 : Int32))]))
    refine own_go (XS.iload X215.here hx rfl (hb hby at_42) rfl (Steps.refl _)) ?_
    show own_Fin _ _ _ _ (T215.setTop (mkF m 44 #[iv p1, .val (.long q2), .second, iv p3, iv p4, iv p5, iv p6, iv (2 : Int32), iv v8_211, iv v9_212, iv v10_214, iv v11_216, .unset, .unset, .unset, .unset, .unset, .unset, .unset, .unset, .unset, .unset, .unset, .unset, .unset, .unset, .unset] [(.int v10_214), (.int (0 : Int32))]))
    refine own_go (XS.iload X215.here hx rfl (hb hby at_44) rfl (Steps.refl _)) ?_
    show own_Fin _ _ _ _ (T215.setTop (mkF m 46 #[iv p1, .val (.long q2), .second, iv p3, iv p4, iv p5, iv p6, iv (2 : Int32), iv v8_211, iv v9_212, iv v10_214, iv v11_216, .unset, .unset, .unset, .unset, .unset, .unset, .unset, .unset, .unset, .unset, .unset, .unset, .unset, .unset, .unset] [(.int v11_216), (.int v10_214), (.int (0 : Int32))]))
    refine own_go (XS.iload X215.here hx rfl (hb hby at_46) rfl (Steps.refl _)) ?_
    show own_Fin _ _ _ _ (T215.setTop (mkF m 48 #[iv p1, .val (.long q2), .second, iv p3, iv p4, iv p5, iv p6, iv (2 : Int32), iv v8_211, iv v9_212, iv v10_214, iv v11_216, .unset, .unset, .unset, .unset, .unset, .unset, .unset, .unset, .unset, .unset, .unset, .unset, .unset, .unset, .unset] [(.int (2 : Int32)), (.int v11_216), (.int v10_214), (.int (0 : Int32))]))
    obtain ⟨_, _, ⟨T217, L217, k217, n217⟩, -, X217, ⟨Lc217, hQ217, l217, y217, z217⟩, st217⟩ := Jvm.LawKit.callS X215 hx (y := (⟨"com/example/tidewalk/tidewalk/problems/RunMeasuresBestErrorBeforeChangePinLaw", "slot", "(IIII)I"⟩ : MethodName)) hown (mvT hZ (hw _ (List.mem_of_getElem? (i := 7) rfl))) (mvT hZ (hw _ (List.mem_of_getElem? (i := 8) rfl))) (mvT hZ (hw _ (List.mem_of_getElem? (i := 9) rfl))) (mvT hZ (hw _ (List.mem_of_getElem? (i := 10) rfl))) (by decide) (backOf (W := 0) (rmsl l Z a0 hw [] (0 : Int32) v10_214 v11_216 (2 : Int32) h0 n0 Z0) hZ (hw _ (List.mem_of_getElem? (i := 10) rfl)) (hw _ (List.mem_of_getElem? (i := 9) rfl)) (by decide) (by decide)) (g := (mkF m 48 #[iv p1, .val (.long q2), .second, iv p3, iv p4, iv p5, iv p6, iv (2 : Int32), iv v8_211, iv v9_212, iv v10_214, iv v11_216, .unset, .unset, .unset, .unset, .unset, .unset, .unset, .unset, .unset, .unset, .unset, .unset, .unset, .unset, .unset] [(.int (2 : Int32)), (.int v11_216), (.int v10_214), (.int (0 : Int32))])) rfl (by rw [hml]; rfl) (argsL := [(.int (0 : Int32)), (.int v10_214), (.int v11_216), (.int (2 : Int32))]) (rest := []) (lenOf pd__28_IIII_29_I rfl) rfl (by show 2 * 0 + _ ≤ _; exact Nat.le_of_eq rfl) (hb hby at_48) (fun _ hv => ⟨rfl, e215, (by decide : 0 + 0 ≤ _), (by decide : 0 + 0 ≤ _)⟩)
    dsimp only [Pt.U, Pt.locs, Pt.cells, Pt.slots] at X217 l217 y217 z217 st217 hQ217
    subst l217 y217 z217
    obtain ⟨rfl, Nq217, e217⟩ := hQ217
    refine own_by st217 ?_
    have N217 := Fr.app N215 Nq217
    show own_Fin _ _ _ _ (T217.setTop (mkF m 51 #[iv p1, .val (.long q2), .second, iv p3, iv p4, iv p5, iv p6, iv (2 : Int32), iv v8_211, iv v9_212, iv v10_214, iv v11_216, .unset, .unset, .unset, .unset, .unset, .unset, .unset, .unset, .unset, .unset, .unset, .unset, .unset, .unset, .unset] [(.int (own_sl (0 : Int32) v10_214 v11_216 (2 : Int32)))]))
    refine own_go (XS.istore X217.here hx rfl (hb hby at_51) rfl rfl (Steps.refl _)) ?_
    show own_Fin _ _ _ _ (T217.setTop (mkF m 53 #[iv p1, .val (.long q2), .second, iv p3, iv p4, iv p5, iv p6, iv (2 : Int32), iv v8_211, iv v9_212, iv v10_214, iv v11_216, iv (own_sl (0 : Int32) v10_214 v11_216 (2 : Int32)), .unset, .unset, .unset, .unset, .unset, .unset, .unset, .unset, .unset, .unset, .unset, .unset, .unset, .unset] []))
    generalize hz_v12_218 : (own_sl (0 : Int32) v10_214 v11_216 (2 : Int32)) = v12_218
    refine own_go (XS.iconst X217.here hx rfl (hb hby at_53) (Steps.refl _)) ?_
    show own_Fin _ _ _ _ (T217.setTop (mkF m 54 #[iv p1, .val (.long q2), .second, iv p3, iv p4, iv p5, iv p6, iv (2 : Int32), iv v8_211, iv v9_212, iv v10_214, iv v11_216, iv v12_218, .unset, .unset, .unset, .unset, .unset, .unset, .unset, .unset, .unset, .unset, .unset, .unset, .unset, .unset] [(.int (1 : Int32))]))
    refine own_go (XS.iload X217.here hx rfl (hb hby at_54) rfl (Steps.refl _)) ?_
    show own_Fin _ _ _ _ (T217.setTop (mkF m 56 #[iv p1, .val (.long q2), .second, iv p3, iv p4, iv p5, iv p6, iv (2 : Int32), iv v8_211, iv v9_212, iv v10_214, iv v11_216, iv v12_218, .unset, .unset, .unset, .unset, .unset, .unset, .unset, .unset, .unset, .unset, .unset, .unset, .unset, .unset] [(.int v10_214), (.int (1 : Int32))]))
    refine own_go (XS.iload X217.here hx rfl (hb hby at_56) rfl (Steps.refl _)) ?_
    show own_Fin _ _ _ _ (T217.setTop (mkF m 58 #[iv p1, .val (.long q2), .second, iv p3, iv p4, iv p5, iv p6, iv (2 : Int32), iv v8_211, iv v9_212, iv v10_214, iv v11_216, iv v12_218, .unset, .unset, .unset, .unset, .unset, .unset, .unset, .unset, .unset, .unset, .unset, .unset, .unset, .unset] [(.int v11_216), (.int v10_214), (.int (1 : Int32))]))
    refine own_go (XS.iload X217.here hx rfl (hb hby at_58) rfl (Steps.refl _)) ?_
    show own_Fin _ _ _ _ (T217.setTop (mkF m 60 #[iv p1, .val (.long q2), .second, iv p3, iv p4, iv p5, iv p6, iv (2 : Int32), iv v8_211, iv v9_212, iv v10_214, iv v11_216, iv v12_218, .unset, .unset, .unset, .unset, .unset, .unset, .unset, .unset, .unset, .unset, .unset, .unset, .unset, .unset] [(.int (2 : Int32)), (.int v11_216), (.int v10_214), (.int (1 : Int32))]))
    obtain ⟨_, _, ⟨T219, L219, k219, n219⟩, -, X219, ⟨Lc219, hQ219, l219, y219, z219⟩, st219⟩ := Jvm.LawKit.callS X217 hx (y := (⟨"com/example/tidewalk/tidewalk/problems/RunMeasuresBestErrorBeforeChangePinLaw", "slot", "(IIII)I"⟩ : MethodName)) hown (mvT hZ (hw _ (List.mem_of_getElem? (i := 7) rfl))) (mvT hZ (hw _ (List.mem_of_getElem? (i := 8) rfl))) (mvT hZ (hw _ (List.mem_of_getElem? (i := 9) rfl))) (mvT hZ (hw _ (List.mem_of_getElem? (i := 10) rfl))) (by decide) (backOf (W := 0) (rmsl l Z a0 hw [] (1 : Int32) v10_214 v11_216 (2 : Int32) h0 n0 Z0) hZ (hw _ (List.mem_of_getElem? (i := 10) rfl)) (hw _ (List.mem_of_getElem? (i := 9) rfl)) (by decide) (by decide)) (g := (mkF m 60 #[iv p1, .val (.long q2), .second, iv p3, iv p4, iv p5, iv p6, iv (2 : Int32), iv v8_211, iv v9_212, iv v10_214, iv v11_216, iv v12_218, .unset, .unset, .unset, .unset, .unset, .unset, .unset, .unset, .unset, .unset, .unset, .unset, .unset, .unset] [(.int (2 : Int32)), (.int v11_216), (.int v10_214), (.int (1 : Int32))])) rfl (by rw [hml]; rfl) (argsL := [(.int (1 : Int32)), (.int v10_214), (.int v11_216), (.int (2 : Int32))]) (rest := []) (lenOf pd__28_IIII_29_I rfl) rfl (by show 2 * 0 + _ ≤ _; exact Nat.le_of_eq rfl) (hb hby at_60) (fun _ hv => ⟨rfl, e217, (by decide : 0 + 0 ≤ _), (by decide : 0 + 0 ≤ _)⟩)
    dsimp only [Pt.U, Pt.locs, Pt.cells, Pt.slots] at X219 l219 y219 z219 st219 hQ219
    subst l219 y219 z219
    obtain ⟨rfl, Nq219, e219⟩ := hQ219
    refine own_by st219 ?_
    have N219 := Fr.app N217 Nq219
    show own_Fin _ _ _ _ (T219.setTop (mkF m 63 #[iv p1, .val (.long q2), .second, iv p3, iv p4, iv p5, iv p6, iv (2 : Int32), iv v8_211, iv v9_212, iv v10_214, iv v11_216, iv v12_218, .unset, .unset, .unset, .unset, .unset, .unset, .unset, .unset, .unset, .unset, .unset, .unset, .unset, .unset] [(.int (own_sl (1 : Int32) v10_214 v11_216 (2 : Int32)))]))
    refine own_go (XS.istore X219.here hx rfl (hb hby at_63) rfl rfl (Steps.refl _)) ?_
    show own_Fin _ _ _ _ (T219.setTop (mkF m 65 #[iv p1, .val (.long q2), .second, iv p3, iv p4, iv p5, iv p6, iv (2 : Int32), iv v8_211, iv v9_212, iv v10_214, iv v11_216, iv v12_218, iv (own_sl (1 : Int32) v10_214 v11_216 (2 : Int32)), .unset, .unset, .unset, .unset, .unset, .unset, .unset, .unset, .unset, .unset, .unset, .unset, .unset] []))
    generalize hz_v13_220 : (own_sl (1 : Int32) v10_214 v11_216 (2 : Int32)) = v13_220
    refine own_go (XS.iconst X219.here hx rfl (hb hby at_65) (Steps.refl _)) ?_
    show own_Fin _ _ _ _ (T219.setTop (mkF m 66 #[iv p1, .val (.long q2), .second, iv p3, iv p4, iv p5, iv p6, iv (2 : Int32), iv v8_211, iv v9_212, iv v10_214, iv v11_216, iv v12_218, iv v13_220, .unset, .unset, .unset, .unset, .unset, .unset, .unset, .unset, .unset, .unset, .unset, .unset, .unset] [(.int (2 : Int32))]))
    refine own_go (XS.iload X219.here hx rfl (hb hby at_66) rfl (Steps.refl _)) ?_
    show own_Fin _ _ _ _ (T219.setTop (mkF m 68 #[iv p1, .val (.long q2), .second, iv p3, iv p4, iv p5, iv p6, iv (2 : Int32), iv v8_211, iv v9_212, iv v10_214, iv v11_216, iv v12_218, iv v13_220, .unset, .unset, .unset, .unset, .unset, .unset, .unset, .unset, .unset, .unset, .unset, .unset, .unset] [(.int v10_214), (.int (2 : Int32))]))
    refine own_go (XS.iload X219.here hx rfl (hb hby at_68) rfl (Steps.refl _)) ?_
    show own_Fin _ _ _ _ (T219.setTop (mkF m 70 #[iv p1, .val (.long q2), .second, iv p3, iv p4, iv p5, iv p6, iv (2 : Int32), iv v8_211, iv v9_212, iv v10_214, iv v11_216, iv v12_218, iv v13_220, .unset, .unset, .unset, .unset, .unset, .unset, .unset, .unset, .unset, .unset, .unset, .unset, .unset] [(.int v11_216), (.int v10_214), (.int (2 : Int32))]))
    refine own_go (XS.iload X219.here hx rfl (hb hby at_70) rfl (Steps.refl _)) ?_
    show own_Fin _ _ _ _ (T219.setTop (mkF m 72 #[iv p1, .val (.long q2), .second, iv p3, iv p4, iv p5, iv p6, iv (2 : Int32), iv v8_211, iv v9_212, iv v10_214, iv v11_216, iv v12_218, iv v13_220, .unset, .unset, .unset, .unset, .unset, .unset, .unset, .unset, .unset, .unset, .unset, .unset, .unset] [(.int (2 : Int32)), (.int v11_216), (.int v10_214), (.int (2 : Int32))]))
    obtain ⟨_, _, ⟨T221, L221, k221, n221⟩, -, X221, ⟨Lc221, hQ221, l221, y221, z221⟩, st221⟩ := Jvm.LawKit.callS X219 hx (y := (⟨"com/example/tidewalk/tidewalk/problems/RunMeasuresBestErrorBeforeChangePinLaw", "slot", "(IIII)I"⟩ : MethodName)) hown (mvT hZ (hw _ (List.mem_of_getElem? (i := 7) rfl))) (mvT hZ (hw _ (List.mem_of_getElem? (i := 8) rfl))) (mvT hZ (hw _ (List.mem_of_getElem? (i := 9) rfl))) (mvT hZ (hw _ (List.mem_of_getElem? (i := 10) rfl))) (by decide) (backOf (W := 0) (rmsl l Z a0 hw [] (2 : Int32) v10_214 v11_216 (2 : Int32) h0 n0 Z0) hZ (hw _ (List.mem_of_getElem? (i := 10) rfl)) (hw _ (List.mem_of_getElem? (i := 9) rfl)) (by decide) (by decide)) (g := (mkF m 72 #[iv p1, .val (.long q2), .second, iv p3, iv p4, iv p5, iv p6, iv (2 : Int32), iv v8_211, iv v9_212, iv v10_214, iv v11_216, iv v12_218, iv v13_220, .unset, .unset, .unset, .unset, .unset, .unset, .unset, .unset, .unset, .unset, .unset, .unset, .unset] [(.int (2 : Int32)), (.int v11_216), (.int v10_214), (.int (2 : Int32))])) rfl (by rw [hml]; rfl) (argsL := [(.int (2 : Int32)), (.int v10_214), (.int v11_216), (.int (2 : Int32))]) (rest := []) (lenOf pd__28_IIII_29_I rfl) rfl (by show 2 * 0 + _ ≤ _; exact Nat.le_of_eq rfl) (hb hby at_72) (fun _ hv => ⟨rfl, e219, (by decide : 0 + 0 ≤ _), (by decide : 0 + 0 ≤ _)⟩)
    dsimp only [Pt.U, Pt.locs, Pt.cells, Pt.slots] at X221 l221 y221 z221 st221 hQ221
    subst l221 y221 z221
    obtain ⟨rfl, Nq221, e221⟩ := hQ221
    refine own_by st221 ?_
    have N221 := Fr.app N219 Nq221
    show own_Fin _ _ _ _ (T221.setTop (mkF m 75 #[iv p1, .val (.long q2), .second, iv p3, iv p4, iv p5, iv p6, iv (2 : Int32), iv v8_211, iv v9_212, iv v10_214, iv v11_216, iv v12_218, iv v13_220, .unset, .unset, .unset, .unset, .unset, .unset, .unset, .unset, .unset, .unset, .unset, .unset, .unset] [(.int (own_sl (2 : Int32) v10_214 v11_216 (2 : Int32)))]))
    refine own_go (XS.istore X221.here hx rfl (hb hby at_75) rfl rfl (Steps.refl _)) ?_
    show own_Fin _ _ _ _ (T221.setTop (mkF m 77 #[iv p1, .val (.long q2), .second, iv p3, iv p4, iv p5, iv p6, iv (2 : Int32), iv v8_211, iv v9_212, iv v10_214, iv v11_216, iv v12_218, iv v13_220, iv (own_sl (2 : Int32) v10_214 v11_216 (2 : Int32)), .unset, .unset, .unset, .unset, .unset, .unset, .unset, .unset, .unset, .unset, .unset, .unset] []))
    generalize hz_v14_222 : (own_sl (2 : Int32) v10_214 v11_216 (2 : Int32)) = v14_222
    refine own_go (XS.lloadN X221.here hx rfl (hb hby at_77) rfl (Steps.refl _)) ?_
    show own_Fin _ _ _ _ (T221.setTop (mkF m 78 #[iv p1, .val (.long q2), .second, iv p3, iv p4, iv p5, iv p6, iv (2 : Int32), iv v8_211, iv v9_212, iv v10_214, iv v11_216, iv v12_218, iv v13_220, iv v14_222, .unset, .unset, .unset, .unset, .unset, .unset, .unset, .unset, .unset, .unset, .unset, .unset] [(.long q2)]))
    refine own_go (XS.l2i X221.here hx rfl (hb hby at_78) rfl (Steps.refl _)) ?_
    show own_Fin _ _ _ _ (T221.setTop (mkF m 79 #[iv p1, .val (.long q2), .second, iv p3, iv p4, iv p5, iv p6, iv (2 : Int32), iv v8_211, iv v9_212, iv v10_214, iv v11_216, iv v12_218, iv v13_220, iv v14_222, .unset, .unset, .unset, .unset, .unset, .unset, .unset, .unset, .unset, .unset, .unset, .unset] [(.int (q2.toInt32))]))
    refine own_go (XS.istore X221.here hx rfl (hb hby at_79) rfl rfl (Steps.refl _)) ?_
    show own_Fin _ _ _ _ (T221.setTop (mkF m 81 #[iv p1, .val (.long q2), .second, iv p3, iv p4, iv p5, iv p6, iv (2 : Int32), iv v8_211, iv v9_212, iv v10_214, iv v11_216, iv v12_218, iv v13_220, iv v14_222, iv (q2.toInt32), .unset, .unset, .unset, .unset, .unset, .unset, .unset, .unset, .unset, .unset, .unset] []))
    generalize hz_v15_223 : (q2.toInt32) = v15_223
    refine own_go (XS.lloadN X221.here hx rfl (hb hby at_81) rfl (Steps.refl _)) ?_
    show own_Fin _ _ _ _ (T221.setTop (mkF m 82 #[iv p1, .val (.long q2), .second, iv p3, iv p4, iv p5, iv p6, iv (2 : Int32), iv v8_211, iv v9_212, iv v10_214, iv v11_216, iv v12_218, iv v13_220, iv v14_222, iv v15_223, .unset, .unset, .unset, .unset, .unset, .unset, .unset, .unset, .unset, .unset, .unset] [(.long q2)]))
    refine own_go (XS.bipush X221.here hx rfl (hb hby at_82) (Steps.refl _)) ?_
    show own_Fin _ _ _ _ (T221.setTop (mkF m 84 #[iv p1, .val (.long q2), .second, iv p3, iv p4, iv p5, iv p6, iv (2 : Int32), iv v8_211, iv v9_212, iv v10_214, iv v11_216, iv v12_218, iv v13_220, iv v14_222, iv v15_223, .unset, .unset, .unset, .unset, .unset, .unset, .unset, .unset, .unset, .unset, .unset] [(.int (32 : Int32)), (.long q2)]))
    refine own_go (XS.lushr X221.here hx rfl (hb hby at_84) rfl (Steps.refl _)) ?_
    show own_Fin _ _ _ _ (T221.setTop (mkF m 85 #[iv p1, .val (.long q2), .second, iv p3, iv p4, iv p5, iv p6, iv (2 : Int32), iv v8_211, iv v9_212, iv v10_214, iv v11_216, iv v12_218, iv v13_220, iv v14_222, iv v15_223, .unset, .unset, .unset, .unset, .unset, .unset, .unset, .unset, .unset, .unset, .unset] [(.long ((q2.toUInt64 >>> ((32 : Int32) &&& 0x3f).toInt64.toUInt64).toInt64))]))
    refine own_go (XS.l2i X221.here hx rfl (hb hby at_85) rfl (Steps.refl _)) ?_
    show own_Fin _ _ _ _ (T221.setTop (mkF m 86 #[iv p1, .val (.long q2), .second, iv p3, iv p4, iv p5, iv p6, iv (2 : Int32), iv v8_211, iv v9_212, iv v10_214, iv v11_216, iv v12_218, iv v13_220, iv v14_222, iv v15_223, .unset, .unset, .unset, .unset, .unset, .unset, .unset, .unset, .unset, .unset, .unset] [(.int (((q2.toUInt64 >>> ((32 : Int32) &&& 0x3f).toInt64.toUInt64).toInt64).toInt32))]))
    refine own_go (XS.istore X221.here hx rfl (hb hby at_86) rfl rfl (Steps.refl _)) ?_
    show own_Fin _ _ _ _ (T221.setTop (mkF m 88 #[iv p1, .val (.long q2), .second, iv p3, iv p4, iv p5, iv p6, iv (2 : Int32), iv v8_211, iv v9_212, iv v10_214, iv v11_216, iv v12_218, iv v13_220, iv v14_222, iv v15_223, iv (((q2.toUInt64 >>> ((32 : Int32) &&& 0x3f).toInt64.toUInt64).toInt64).toInt32), .unset, .unset, .unset, .unset, .unset, .unset, .unset, .unset, .unset, .unset] []))
    generalize hz_v16_224 : (((q2.toUInt64 >>> ((32 : Int32) &&& 0x3f).toInt64.toUInt64).toInt64).toInt32) = v16_224
    obtain ⟨T225, h225, X225, e225, E225, A225, D225, U225, st225⟩ := newO X221 hx hZ hown (hw _ (List.mem_of_getElem? (i := 11) rfl)) (hw _ (List.mem_of_getElem? (i := 12) rfl)) (hw _ (List.mem_of_getElem? (i := 13) rfl)) e221 (g := (mkF m 88 #[iv p1, .val (.long q2), .second, iv p3, iv p4, iv p5, iv p6, iv (2 : Int32), iv v8_211, iv v9_212, iv v10_214, iv v11_216, iv v12_218, iv v13_220, iv v14_222, iv v15_223, iv v16_224, .unset, .unset, .unset, .unset, .unset, .unset, .unset, .unset, .unset, .unset] [])) rfl (hb hby at_88) (by decide) (by decide)
    obtain ⟨b225, g225⟩ : ∃ z, z = h0.size := ⟨_, rfl⟩
    rw [← g225] at A225 D225 U225 st225
    refine own_by st225 ?_
    have g_b225 : n0 ≤ b225 := Nat.le_trans Z0 (Nat.le_of_eq g225.symm)
    have Z225 : n0 ≤ h225.size := Nat.le_trans Z0 E225.1
    have E_b225 := A225
    have F_optimum_b225 : Fld Z h225 b225 "com/example/tidewalk/tidewalk/problems/RunMeasures" "optimum" "D" (.double (0 : UInt64)) := D225 (Or.inl (hw _ (List.mem_of_getElem? (i := 22) rfl))) (ty := .double) (by decide)
    have F_optimumKnown_b225 : Fld Z h225 b225 "com/example/tidewalk/tidewalk/problems/RunMeasures" "optimumKnown" "Z" (.int (0 : Int32)) := D225 (Or.inl (hw _ (List.mem_of_getElem? (i := 24) rfl))) (ty := .boolean) (by decide)
    have F_best_b225 : Fld Z h225 b225 "com/example/tidewalk/tidewalk/problems/RunMeasures" "best" "D" (.double (0 : UInt64)) := D225 (Or.inl (hw _ (List.mem_of_getElem? (i := 27) rfl))) (ty := .double) (by decide)
    have F_periods_b225 : Fld Z h225 b225 "com/example/tidewalk/tidewalk/problems/RunMeasures" "periods" "I" (.int (0 : Int32)) := D225 (Or.inl (hw _ (List.mem_of_getElem? (i := 37) rfl))) (ty := .int) (by decide)
    have F_evaluations_b225 : Fld Z h225 b225 "com/example/tidewalk/tidewalk/problems/RunMeasures" "evaluations" "J" (.long (0 : Int64)) := D225 (Or.inl (hw _ (List.mem_of_getElem? (i := 55) rfl))) (ty := .long) (by decide)
    have F_performanceSum_b225 : Fld Z h225 b225 "com/example/tidewalk/tidewalk/problems/RunMeasures" "performanceSum" "D" (.double (0 : UInt64)) := D225 (Or.inl (hw _ (List.mem_of_getElem? (i := 60) rfl))) (ty := .double) (by decide)
    have F_errorSum_b225 : Fld Z h225 b225 "com/example/tidewalk/tidewalk/problems/RunMeasures" "errorSum" "D" (.double (0 : UInt64)) := D225 (Or.inl (hw _ (List.mem_of_getElem? (i := 62) rfl))) (ty := .double) (by decide)
    have F_optimumSum_b225 : Fld Z h225 b225 "com/example/tidewalk/tidewalk/problems/RunMeasures" "optimumSum" "D" (.double (0 : UInt64)) := D225 (Or.inl (hw _ (List.mem_of_getElem? (i := 64) rfl))) (ty := .double) (by decide)
    have F_closedBestErrorSum_b225 : Fld Z h225 b225 "com/example/tidewalk/tidewalk/problems/RunMeasures" "closedBestErrorSum" "D" (.double (0 : UInt64)) := D225 (Or.inl (hw _ (List.mem_of_getElem? (i := 71) rfl))) (ty := .double) (by decide)
    show own_Fin _ _ _ _ (T225.setTop (mkF m 91 #[iv p1, .val (.long q2), .second, iv p3, iv p4, iv p5, iv p6, iv (2 : Int32), iv v8_211, iv v9_212, iv v10_214, iv v11_216, iv v12_218, iv v13_220, iv v14_222, iv v15_223, iv v16_224, .unset, .unset, .unset, .unset, .unset, .unset, .unset, .unset, .unset, .unset] [(.ref b225)]))
    refine own_go (XS.dup X225.here hx rfl (hb hby at_91) rfl rfl (Steps.refl _)) ?_
    show own_Fin _ _ _ _ (T225.setTop (mkF m 92 #[iv p1, .val (.long q2), .second, iv p3, iv p4, iv p5, iv p6, iv (2 : Int32), iv v8_211, iv v9_212, iv v10_214, iv v11_216, iv v12_218, iv v13_220, iv v14_222, iv v15_223, iv v16_224, .unset, .unset, .unset, .unset, .unset, .unset, .unset, .unset, .unset, .unset] [(.ref b225), (.ref b225)]))
    obtain ⟨_, _, ⟨T226, L226, k226, n226⟩, -, X226, ⟨Lc226, hQ226, l226, y226, z226⟩, st226⟩ := X225.specialBack hx (y := (⟨"com/example/tidewalk/tidewalk/problems/RunMeasures", "<init>", "()V"⟩ : MethodName)) rfl hown (mvT hZ (hw _ (List.mem_of_getElem? (i := 14) rfl))) (mvT hZ (hw _ (List.mem_of_getElem? (i := 15) rfl))) (mvT hZ (hw _ (List.mem_of_getElem? (i := 16) rfl))) (by decide) (backOf (W := 1) (rmini l Z a0 hw [] b225 h225 n0 Z225 E_b225 F_periods_b225 F_closedBestErrorSum_b225 F_optimum_b225 F_best_b225 F_optimumKnown_b225 F_evaluations_b225 F_performanceSum_b225 F_errorSum_b225 F_optimumSum_b225 g_b225) hZ (hw _ (List.mem_of_getElem? (i := 16) rfl)) (hw _ (List.mem_of_getElem? (i := 13) rfl)) (by decide) (by decide)) (g := (mkF m 92 #[iv p1, .val (.long q2), .second, iv p3, iv p4, iv p5, iv p6, iv (2 : Int32), iv v8_211, iv v9_212, iv v10_214, iv v11_216, iv v12_218, iv v13_220, iv v14_222, iv v15_223, iv v16_224, .unset, .unset, .unset, .unset, .unset, .unset, .unset, .unset, .unset, .unset] [(.ref b225), (.ref b225)])) rfl (by rw [hml]; rfl) (Steps.refl _) (a := b225) (argsL := []) (rest := [(.ref b225)]) (lenOf pd__28__29_V rfl) rfl (by show 2 * 0 + _ ≤ _; exact Nat.le_of_eq rfl) (hb hby at_92) (fun _ hv => ⟨rfl, e225, (by decide : 1 + 0 ≤ _), (by decide : 9 + 0 ≤ _)⟩)
    dsimp only [Pt.U, Pt.locs, Pt.cells, Pt.slots] at X226 l226 y226 z226 st226 hQ226
    subst l226 y226 z226
    refine own_go st226 ?_
    obtain ⟨rfl, Nq226, K226, r226_0, r226_1, r226_2, r226_3, r226_4, r226_5, r226_6, r226_7, r226_8, r226_9⟩ := hQ226
    have E_b225_226 := E_b225.keep K226
    have Z226 : n0 ≤ T226.heap.size := Nat.le_trans Z225 K226.1
    have N226 := Fr.app N221 Nq226
    show own_Fin _ _ _ _ (T226.setTop (mkF m 95 #[iv p1, .val (.long q2), .second, iv p3, iv p4, iv p5, iv p6, iv (2 : Int32), iv v8_211, iv v9_212, iv v10_214, iv v11_216, iv v12_218, iv v13_220, iv v14_222, iv v15_223, iv v16_224, .unset, .unset, .unset, .unset, .unset, .unset, .unset, .unset, .unset, .unset] [(.ref b225)]))
    refine own_go (XS.astore X226.here hx rfl (hb hby at_95) rfl rfl rfl (Steps.refl _)) ?_
    show own_Fin _ _ _ _ (T226.setTop (mkF m 97 #[iv p1, .val (.long q2), .second, iv p3, iv p4, iv p5, iv p6, iv (2 : Int32), iv v8_211, iv v9_212, iv v10_214, iv v11_216, iv v12_218, iv v13_220, iv v14_222, iv v15_223, iv v16_224, rv b225, .unset, .unset, .unset, .unset, .unset, .unset, .unset, .unset, .unset] []))
    refine own_go (XS.aload X226.here hx rfl (hb hby at_97) rfl rfl (Steps.refl _)) ?_
    show own_Fin _ _ _ _ (T226.setTop (mkF m 99 #[iv p1, .val (.long q2), .second, iv p3, iv p4, iv p5, iv p6, iv (2 : Int32), iv v8_211, iv v9_212, iv v10_214, iv v11_216, iv v12_218, iv v13_220, iv v14_222, iv v15_223, iv v16_224, rv b225, .unset, .unset, .unset, .unset, .unset, .unset, .unset, .unset, .unset] [(.ref b225)]))
    refine own_go (XS.iconst X226.here hx rfl (hb hby at_99) (Steps.refl _)) ?_
    show own_Fin _ _ _ _ (T226.setTop (mkF m 100 #[iv p1, .val (.long q2), .second, iv p3, iv p4, iv p5, iv p6, iv (2 : Int32), iv v8_211, iv v9_212, iv v10_214, iv v11_216, iv v12_218, iv v13_220, iv v14_222, iv v15_223, iv v16_224, rv b225, .unset, .unset, .unset, .unset, .unset, .unset, .unset, .unset, .unset] [(.int (1 : Int32)), (.ref b225)]))
    refine own_go (XS.iload X226.here hx rfl (hb hby at_100) rfl (Steps.refl _)) ?_
    show own_Fin _ _ _ _ (T226.setTop (mkF m 102 #[iv p1, .val (.long q2), .second, iv p3, iv p4, iv p5, iv p6, iv (2 : Int32), iv v8_211, iv v9_212, iv v10_214, iv v11_216, iv v12_218, iv v13_220, iv v14_222, iv v15_223, iv v16_224, rv b225, .unset, .unset, .unset, .unset, .unset, .unset, .unset, .unset, .unset] [(.int v15_223), (.int (1 : Int32)), (.ref b225)]))
    refine own_go (XS.iload X226.here hx rfl (hb hby at_102) rfl (Steps.refl _)) ?_
    show own_Fin _ _ _ _ (T226.setTop (mkF m 104 #[iv p1, .val (.long q2), .second, iv p3, iv p4, iv p5, iv p6, iv (2 : Int32), iv v8_211, iv v9_212, iv v10_214, iv v11_216, iv v12_218, iv v13_220, iv v14_222, iv v15_223, iv v16_224, rv b225, .unset, .unset, .unset, .unset, .unset, .unset, .unset, .unset, .unset] [(.int v12_218), (.int v15_223), (.int (1 : Int32)), (.ref b225)]))
    refine own_go (XS.iload X226.here hx rfl (hb hby at_104) rfl (Steps.refl _)) ?_
    show own_Fin _ _ _ _ (T226.setTop (mkF m 106 #[iv p1, .val (.long q2), .second, iv p3, iv p4, iv p5, iv p6, iv (2 : Int32), iv v8_211, iv v9_212, iv v10_214, iv v11_216, iv v12_218, iv v13_220, iv v14_222, iv v15_223, iv v16_224, rv b225, .unset, .unset, .unset, .unset, .unset, .unset, .unset, .unset, .unset] [(.int v13_220), (.int v12_218), (.int v15_223), (.int (1 : Int32)), (.ref b225)]))
    refine own_go (XS.iload X226.here hx rfl (hb hby at_106) rfl (Steps.refl _)) ?_
    show own_Fin _ _ _ _ (T226.setTop (mkF m 108 #[iv p1, .val (.long q2), .second, iv p3, iv p4, iv p5, iv p6, iv (2 : Int32), iv v8_211, iv v9_212, iv v10_214, iv v11_216, iv v12_218, iv v13_220, iv v14_222, iv v15_223, iv v16_224, rv b225, .unset, .unset, .unset, .unset, .unset, .unset, .unset, .unset, .unset] [(.int v14_222), (.int v13_220), (.int v12_218), (.int v15_223), (.int (1 : Int32)), (.ref b225)]))
    refine own_go (XS.iload X226.here hx rfl (hb hby at_108) rfl (Steps.refl _)) ?_
    show own_Fin _ _ _ _ (T226.setTop (mkF m 110 #[iv p1, .val (.long q2), .second, iv p3, iv p4, iv p5, iv p6, iv (2 : Int32), iv v8_211, iv v9_212, iv v10_214, iv v11_216, iv v12_218, iv v13_220, iv v14_222, iv v15_223, iv v16_224, rv b225, .unset, .unset, .unset, .unset, .unset, .unset, .unset, .unset, .unset] [(.int p4), (.int v14_222), (.int v13_220), (.int v12_218), (.int v15_223), (.int (1 : Int32)), (.ref b225)]))
    refine own_go (XS.iload X226.here hx rfl (hb hby at_110) rfl (Steps.refl _)) ?_
    show own_Fin _ _ _ _ (T226.setTop (mkF m 112 #[iv p1, .val (.long q2), .second, iv p3, iv p4, iv p5, iv p6, iv (2 : Int32), iv v8_211, iv v9_212, iv v10_214, iv v11_216, iv v12_218, iv v13_220, iv v14_222, iv v15_223, iv v16_224, rv b225, .unset, .unset, .unset, .unset, .unset, .unset, .unset, .unset, .unset] [(.int p5), (.int p4), (.int v14_222), (.int v13_220), (.int v12_218), (.int v15_223), (.int (1 : Int32)), (.ref b225)]))
    refine own_go (XS.iload X226.here hx rfl (hb hby at_112) rfl (Steps.refl _)) ?_
    show own_Fin _ _ _ _ (T226.setTop (mkF m 114 #[iv p1, .val (.long q2), .second, iv p3, iv p4, iv p5, iv p6, iv (2 : Int32), iv v8_211, iv v9_212, iv v10_214, iv v11_216, iv v12_218, iv v13_220, iv v14_222, iv v15_223, iv v16_224, rv b225, .unset, .unset, .unset, .unset, .unset, .unset, .unset, .unset, .unset] [(.int p6), (.int p5), (.int p4), (.int v14_222), (.int v13_220), (.int v12_218), (.int v15_223), (.int (1 : Int32)), (.ref b225)]))
    obtain ⟨_, _, ⟨T227, L227, k227, n227⟩, -, X227, ⟨Lc227, hQ227, l227, y227, z227⟩, st227⟩ := Jvm.LawKit.callS X226 hx (y := (⟨"com/example/tidewalk/tidewalk/problems/RunMeasuresBestErrorBeforeChangePinLaw", "phase", "(Lcom/example/tidewalk/tidewalk/problems/RunMeasures;IIIIIIII)V"⟩ : MethodName)) hown (mvT hZ (hw _ (List.mem_of_getElem? (i := 28) rfl))) (mvT hZ (hw _ (List.mem_of_getElem? (i := 29) rfl))) (mvT hZ (hw _ (List.mem_of_getElem? (i := 9) rfl))) (mvT hZ (hw _ (List.mem_of_getElem? (i := 30) rfl))) (by decide) (backOf (W := 0) (rmph_0 l Z a0 hw [] b225 (1 : Int32) v15_223 v12_218 v13_220 v14_222 p4 p5 p6 (9221120237041090560 : UInt64) (0 : Int64) (0 : UInt64) (0 : UInt64) (0 : UInt64) T226.heap n0 Z226 r226_0 r226_1 r226_2 r226_3 r226_4 r226_5 r226_6 r226_7 r226_8 r226_9 g_b225 (by decide +kernel) (by decide +kernel) (by decide +kernel)) hZ (hw _ (List.mem_of_getElem? (i := 30) rfl)) (hw _ (List.mem_of_getElem? (i := 9) rfl)) (by decide) (by decide)) (g := (mkF m 114 #[iv p1, .val (.long q2), .second, iv p3, iv p4, iv p5, iv p6, iv (2 : Int32), iv v8_211, iv v9_212, iv v10_214, iv v11_216, iv v12_218, iv v13_220, iv v14_222, iv v15_223, iv v16_224, rv b225, .unset, .unset, .unset, .unset, .unset, .unset, .unset, .unset, .unset] [(.int p6), (.int p5), (.int p4), (.int v14_222), (.int v13_220), (.int v12_218), (.int v15_223), (.int (1 : Int32)), (.ref b225)])) rfl (by rw [hml]; rfl) (argsL := [(.ref b225), (.int (1 : Int32)), (.int v15_223), (.int v12_218), (.int v13_220), (.int v14_222), (.int p4), (.int p5), (.int p6)]) (rest := []) (lenOf pd__28_Lcom_2f_example_2f_tidewalk_2f_tidewalk_2f_problems_2f_RunMeasures_3b_IIIIIIII_29_V rfl) rfl (by show 2 * 0 + _ ≤ _; exact Nat.le_of_eq rfl) (hb hby at_114) (fun _ hv => ⟨rfl, rfl, (by decide : 1 + 0 ≤ _), (by decide : 9 + 0 ≤ _)⟩)
    dsimp only [Pt.U, Pt.locs, Pt.cells, Pt.slots] at X227 l227 y227 z227 st227 hQ227
    subst l227 y227 z227
    refine own_by st227 ?_
    obtain ⟨ps2_227, es2_227, os2_227, ev2_227, rfl, Nq227, K227, r227_0, r227_1, r227_2, r227_3, r227_4, r227_5, r227_6, r227_7, r227_8, r227_9, r227_10, r227_11, r227_12⟩ := hQ227
    have r226_0_227 := r226_0.keep K227
    have Z227 : n0 ≤ T227.heap.size := Nat.le_trans Z226 K227.1
    have N227 := Fr.app N226 Nq227
    show own_Fin _ _ _ _ (T227.setTop (mkF m 117 #[iv p1, .val (.long q2), .second, iv p3, iv p4, iv p5, iv p6, iv (2 : Int32), iv v8_211, iv v9_212, iv v10_214, iv v11_216, iv v12_218, iv v13_220, iv v14_222, iv v15_223, iv v16_224, rv b225, .unset, .unset, .unset, .unset, .unset, .unset, .unset, .unset, .unset] []))
    refine own_go (XS.iload X227.here hx rfl (hb hby at_117) rfl (Steps.refl _)) ?_
    show own_Fin _ _ _ _ (T227.setTop (mkF m 119 #[iv p1, .val (.long q2), .second, iv p3, iv p4, iv p5, iv p6, iv (2 : Int32), iv v8_211, iv v9_212, iv v10_214, iv v11_216, iv v12_218, iv v13_220, iv v14_222, iv v15_223, iv v16_224, rv b225, .unset, .unset, .unset, .unset, .unset, .unset, .unset, .unset, .unset] [(.int (2 : Int32))]))
    refine own_go (XS.iconst X227.here hx rfl (hb hby at_119) (Steps.refl _)) ?_
    show own_Fin _ _ _ _ (T227.setTop (mkF m 120 #[iv p1, .val (.long q2), .second, iv p3, iv p4, iv p5, iv p6, iv (2 : Int32), iv v8_211, iv v9_212, iv v10_214, iv v11_216, iv v12_218, iv v13_220, iv v14_222, iv v15_223, iv v16_224, rv b225, .unset, .unset, .unset, .unset, .unset, .unset, .unset, .unset, .unset] [(.int (2 : Int32)), (.int (2 : Int32))]))
    refine own_go (XS.icmpNo X227.here hx rfl (hb hby at_120) rfl (flt (by decide : ¬ ((2 : Int32) < (2 : Int32)))).1 (Steps.refl _)) ?_
    show own_Fin _ _ _ _ (T227.setTop (mkF m 123 #[iv p1, .val (.long q2), .second, iv p3, iv p4, iv p5, iv p6, iv (2 : Int32), iv v8_211, iv v9_212, iv v10_214, iv v11_216, iv v12_218, iv v13_220, iv v14_222, iv v15_223, iv v16_224, rv b225, .unset, .unset, .unset, .unset, .unset, .unset, .unset, .unset, .unset] []))
    refine own_go (XS.aload X227.here hx rfl (hb hby at_123) rfl rfl (Steps.refl _)) ?_
    show own_Fin _ _ _ _ (T227.setTop (mkF m 125 #[iv p1, .val (.long q2), .second, iv p3, iv p4, iv p5, iv p6, iv (2 : Int32), iv v8_211, iv v9_212, iv v10_214, iv v11_216, iv v12_218, iv v13_220, iv v14_222, iv v15_223, iv v16_224, rv b225, .unset, .unset, .unset, .unset, .unset, .unset, .unset, .unset, .unset] [(.ref b225)]))
    refine own_go (XS.iconst X227.here hx rfl (hb hby at_125) (Steps.refl _)) ?_
    show own_Fin _ _ _ _ (T227.setTop (mkF m 126 #[iv p1, .val (.long q2), .second, iv p3, iv p4, iv p5, iv p6, iv (2 : Int32), iv v8_211, iv v9_212, iv v10_214, iv v11_216, iv v12_218, iv v13_220, iv v14_222, iv v15_223, iv v16_224, rv b225, .unset, .unset, .unset, .unset, .unset, .unset, .unset, .unset, .unset] [(.int (2 : Int32)), (.ref b225)]))
    refine own_go (XS.iload X227.here hx rfl (hb hby at_126) rfl (Steps.refl _)) ?_
    show own_Fin _ _ _ _ (T227.setTop (mkF m 128 #[iv p1, .val (.long q2), .second, iv p3, iv p4, iv p5, iv p6, iv (2 : Int32), iv v8_211, iv v9_212, iv v10_214, iv v11_216, iv v12_218, iv v13_220, iv v14_222, iv v15_223, iv v16_224, rv b225, .unset, .unset, .unset, .unset, .unset, .unset, .unset, .unset, .unset] [(.int v16_224), (.int (2 : Int32)), (.ref b225)]))
    refine own_go (XS.iload X227.here hx rfl (hb hby at_128) rfl (Steps.refl _)) ?_
    show own_Fin _ _ _ _ (T227.setTop (mkF m 130 #[iv p1, .val (.long q2), .second, iv p3, iv p4, iv p5, iv p6, iv (2 : Int32), iv v8_211, iv v9_212, iv v10_214, iv v11_216, iv v12_218, iv v13_220, iv v14_222, iv v15_223, iv v16_224, rv b225, .unset, .unset, .unset, .unset, .unset, .unset, .unset, .unset, .unset] [(.int v12_218), (.int v16_224), (.int (2 : Int32)), (.ref b225)]))
    refine own_go (XS.iload X227.here hx rfl (hb hby at_130) rfl (Steps.refl _)) ?_
    show own_Fin _ _ _ _ (T227.setTop (mkF m 132 #[iv p1, .val (.long q2), .second, iv p3, iv p4, iv p5, iv p6, iv (2 : Int32), iv v8_211, iv v9_212, iv v10_214, iv v11_216, iv v12_218, iv v13_220, iv v14_222, iv v15_223, iv v16_224, rv b225, .unset, .unset, .unset, .unset, .unset, .unset, .unset, .unset, .unset] [(.int v13_220), (.int v12_218), (.int v16_224), (.int (2 : Int32)), (.ref b225)]))
    refine own_go (XS.iload X227.here hx rfl (hb hby at_132) rfl (Steps.refl _)) ?_
    show own_Fin _ _ _ _ (T227.setTop (mkF m 134 #[iv p1, .val (.long q2), .second, iv p3, iv p4, iv p5, iv p6, iv (2 : Int32), iv v8_211, iv v9_212, iv v10_214, iv v11_216, iv v12_218, iv v13_220, iv v14_222, iv v15_223, iv v16_224, rv b225, .unset, .unset, .unset, .unset, .unset, .unset, .unset, .unset, .unset] [(.int v14_222), (.int v13_220), (.int v12_218), (.int v16_224), (.int (2 : Int32)), (.ref b225)]))
    refine own_go (XS.iload X227.here hx rfl (hb hby at_134) rfl (Steps.refl _)) ?_
    show own_Fin _ _ _ _ (T227.setTop (mkF m 136 #[iv p1, .val (.long q2), .second, iv p3, iv p4, iv p5, iv p6, iv (2 : Int32), iv v8_211, iv v9_212, iv v10_214, iv v11_216, iv v12_218, iv v13_220, iv v14_222, iv v15_223, iv v16_224, rv b225, .unset, .unset, .unset, .unset, .unset, .unset, .unset, .unset, .unset] [(.int p4), (.int v14_222), (.int v13_220), (.int v12_218), (.int v16_224), (.int (2 : Int32)), (.ref b225)]))
    refine own_go (XS.iload X227.here hx rfl (hb hby at_136) rfl (Steps.refl _)) ?_
    show own_Fin _ _ _ _ (T227.setTop (mkF m 138 #[iv p1, .val (.long q2), .second, iv p3, iv p4, iv p5, iv p6, iv (2 : Int32), iv v8_211, iv v9_212, iv v10_214, iv v11_216, iv v12_218, iv v13_220, iv v14_222, iv v15_223, iv v16_224, rv b225, .unset, .unset, .unset, .unset, .unset, .unset, .unset, .unset, .unset] [(.int p5), (.int p4), (.int v14_222), (.int v13_220), (.int v12_218), (.int v16_224), (.int (2 : Int32)), (.ref b225)]))
    refine own_go (XS.iload X227.here hx rfl (hb hby at_138) rfl (Steps.refl _)) ?_
    show own_Fin _ _ _ _ (T227.setTop (mkF m 140 #[iv p1, .val (.long q2), .second, iv p3, iv p4, iv p5, iv p6, iv (2 : Int32), iv v8_211, iv v9_212, iv v10_214, iv v11_216, iv v12_218, iv v13_220, iv v14_222, iv v15_223, iv v16_224, rv b225, .unset, .unset, .unset, .unset, .unset, .unset, .unset, .unset, .unset] [(.int p6), (.int p5), (.int p4), (.int v14_222), (.int v13_220), (.int v12_218), (.int v16_224), (.int (2 : Int32)), (.ref b225)]))
    obtain ⟨_, _, ⟨T228, L228, k228, n228⟩, -, X228, ⟨Lc228, hQ228, l228, y228, z228⟩, st228⟩ := Jvm.LawKit.callS X227 hx (y := (⟨"com/example/tidewalk/tidewalk/problems/RunMeasuresBestErrorBeforeChangePinLaw", "phase", "(Lcom/example/tidewalk/tidewalk/problems/RunMeasures;IIIIIIII)V"⟩ : MethodName)) hown (mvT hZ (hw _ (List.mem_of_getElem? (i := 28) rfl))) (mvT hZ (hw _ (List.mem_of_getElem? (i := 29) rfl))) (mvT hZ (hw _ (List.mem_of_getElem? (i := 9) rfl))) (mvT hZ (hw _ (List.mem_of_getElem? (i := 30) rfl))) (by decide) (backOf (W := 0) (rmph_1 l Z a0 hw [] b225 (2 : Int32) v16_224 v12_218 v13_220 v14_222 p4 p5 p6 (some 0) v15_223 (own_b3 (1 : Int32) v12_218 v13_220 v14_222 p4 p5 p6) ev2_227 ps2_227 es2_227 os2_227 T227.heap n0 Z227 r227_0 r227_1 r227_2 r227_3 r227_4 r227_5 r227_6 r227_7 r227_8 r227_9 g_b225 (own_W3 _ _ _ _ _ _ _) (own_Wm own_W0 (by decide)) r227_10 r227_11 r227_12) hZ (hw _ (List.mem_of_getElem? (i := 30) rfl)) (hw _ (List.mem_of_getElem? (i := 9) rfl)) (by decide) (by decide)) (g := (mkF m 140 #[iv p1, .val (.long q2), .second, iv p3, iv p4, iv p5, iv p6, iv (2 : Int32), iv v8_211, iv v9_212, iv v10_214, iv v11_216, iv v12_218, iv v13_220, iv v14_222, iv v15_223, iv v16_224, rv b225, .unset, .unset, .unset, .unset, .unset, .unset, .unset, .unset, .unset] [(.int p6), (.int p5), (.int p4), (.int v14_222), (.int v13_220), (.int v12_218), (.int v16_224), (.int (2 : Int32)), (.ref b225)])) rfl (by rw [hml]; rfl) (argsL := [(.ref b225), (.int (2 : Int32)), (.int v16_224), (.int v12_218), (.int v13_220), (.int v14_222), (.int p4), (.int p5), (.int p6)]) (rest := []) (lenOf pd__28_Lcom_2f_example_2f_tidewalk_2f_tidewalk_2f_problems_2f_RunMeasures_3b_IIIIIIII_29_V rfl) rfl (by show 2 * 0 + _ ≤ _; exact Nat.le_of_eq rfl) (hb hby at_140) (fun _ hv => ⟨rfl, rfl, (by decide : 1 + 0 ≤ _), (by decide : 9 + 0 ≤ _)⟩)
    dsimp only [Pt.U, Pt.locs, Pt.cells, Pt.slots] at X228 l228 y228 z228 st228 hQ228
    subst l228 y228 z228
    refine own_by st228 ?_
    obtain ⟨ps2_228, es2_228, os2_228, ev2_228, rfl, Nq228, K228, r228_0, r228_1, r228_2, r228_3, r228_4, r228_5, r228_6, r228_7, r228_8, r228_9, r228_10, r228_11, r228_12⟩ := hQ228
    have r227_0_228 := r227_0.keep K228
    have Z228 : n0 ≤ T228.heap.size := Nat.le_trans Z227 K228.1
    have N228 := Fr.app N227 Nq228
    show own_Fin _ _ _ _ (T228.setTop (mkF m 143 #[iv p1, .val (.long q2), .second, iv p3, iv p4, iv p5, iv p6, iv (2 : Int32), iv v8_211, iv v9_212, iv v10_214, iv v11_216, iv v12_218, iv v13_220, iv v14_222, iv v15_223, iv v16_224, rv b225, .unset, .unset, .unset, .unset, .unset, .unset, .unset, .unset, .unset] []))
    refine own_go (XS.iload X228.here hx rfl (hb hby at_143) rfl (Steps.refl _)) ?_
    show own_Fin _ _ _ _ (T228.setTop (mkF m 145 #[iv p1, .val (.long q2), .second, iv p3, iv p4, iv p5, iv p6, iv (2 : Int32), iv v8_211, iv v9_212, iv v10_214, iv v11_216, iv v12_218, iv v13_220, iv v14_222, iv v15_223, iv v16_224, rv b225, .unset, .unset, .unset, .unset, .unset, .unset, .unset, .unset, .unset] [(.int (2 : Int32))]))
    refine own_go (XS.iconst X228.here hx rfl (hb hby at_145) (Steps.refl _)) ?_
    show own_Fin _ _ _ _ (T228.setTop (mkF m 146 #[iv p1, .val (.long q2), .second, iv p3, iv p4, iv p5, iv p6, iv (2 : Int32), iv v8_211, iv v9_212, iv v10_214, iv v11_216, iv v12_218, iv v13_220, iv v14_222, iv v15_223, iv v16_224, rv b225, .unset, .unset, .unset, .unset, .unset, .unset, .unset, .unset, .unset] [(.int (3 : Int32)), (.int (2 : Int32))]))
    refine own_go (XS.icmpYes X228.here hx rfl (pc0 := 146) (pc' := 168) rfl (hb hby at_146) rfl (tlt (by decide : (2 : Int32) < (3 : Int32))).1 (by decide) (by decide) (Steps.refl _)) ?_
    show own_Fin _ _ _ _ (T228.setTop (mkF m 168 #[iv p1, .val (.long q2), .second, iv p3, iv p4, iv p5, iv p6, iv (2 : Int32), iv v8_211, iv v9_212, iv v10_214, iv v11_216, iv v12_218, iv v13_220, iv v14_222, iv v15_223, iv v16_224, rv b225, .unset, .unset, .unset, .unset, .unset, .unset, .unset, .unset, .unset] []))
    refine own_go (XS.aload X228.here hx rfl (hb hby at_168) rfl rfl (Steps.refl _)) ?_
    show own_Fin _ _ _ _ (T228.setTop (mkF m 170 #[iv p1, .val (.long q2), .second, iv p3, iv p4, iv p5, iv p6, iv (2 : Int32), iv v8_211, iv v9_212, iv v10_214, iv v11_216, iv v12_218, iv v13_220, iv v14_222, iv v15_223, iv v16_224, rv b225, .unset, .unset, .unset, .unset, .unset, .unset, .unset, .unset, .unset] [(.ref b225)]))
    obtain ⟨cq229, kq229, q229a, q229b, q229c⟩ := isOf hZ rfl r228_0
    obtain ⟨_, _, ⟨T229, L229, k229, n229⟩, -, X229, ⟨Lc229, hQ229, l229, y229, z229⟩, st229⟩ := X228.virtualBack hx (y := (⟨"com/example/tidewalk/tidewalk/problems/RunMeasures", "bestErrorBeforeChange", "()D"⟩ : MethodName)) (z := (⟨"com/example/tidewalk/tidewalk/problems/RunMeasures", "bestErrorBeforeChange", "()D"⟩ : MethodName)) hown (mvT hZ (hw _ (List.mem_of_getElem? (i := 65) rfl))) (mvT hZ (hw _ (List.mem_of_getElem? (i := 66) rfl))) (notFace_of_selects (args := #[]) (mvT hZ (hw _ (List.mem_of_getElem? (i := 68) rfl)))) (mvT hZ (hw _ (List.mem_of_getElem? (i := 68) rfl))) (mvT hZ (hw _ (List.mem_of_getElem? (i := 67) rfl))) (by decide) (backOf (W := 0) (rmbe_2 l Z a0 hw [] b225 (own_pl (some 0) (own_er v15_223.toInt64 (own_b3 (1 : Int32) v12_218 v13_220 v14_222 p4 p5 p6))) v16_224 (own_b3 (2 : Int32) v12_218 v13_220 v14_222 p4 p5 p6) T228.heap n0 Z228 r228_1 r228_2 r228_3 r228_4 (own_W3 _ _ _ _ _ _ _) (own_Wm (own_Wpl own_W0 (own_Wer (own_W3 _ _ _ _ _ _ _)) (by decide) (by decide)) (by decide))) hZ (hw _ (List.mem_of_getElem? (i := 69) rfl)) (hw _ (List.mem_of_getElem? (i := 13) rfl)) (by decide) (by decide)) q229a q229c (g := (mkF m 170 #[iv p1, .val (.long q2), .second, iv p3, iv p4, iv p5, iv p6, iv (2 : Int32), iv v8_211, iv v9_212, iv v10_214, iv v11_216, iv v12_218, iv v13_220, iv v14_222, iv v15_223, iv v16_224, rv b225, .unset, .unset, .unset, .unset, .unset, .unset, .unset, .unset, .unset] [(.ref b225)])) rfl (by rw [hml]; rfl) (Steps.refl _) (argsL := []) (rest := []) (lenOf pd__28__29_D rfl) rfl (by show 2 * 0 + _ ≤ _; exact Nat.le_of_eq rfl) (hb hby at_170) (fun _ hv => ⟨rfl, rfl, (by decide : 1 + 0 ≤ _), (by decide : 9 + 0 ≤ _)⟩)
    dsimp only [Pt.U, Pt.locs, Pt.cells, Pt.slots] at X229 l229 y229 z229 st229 hQ229
    subst l229 y229 z229
    obtain ⟨rfl, Nq229, e229⟩ := hQ229
    refine own_go st229 ?_
    have N229 := Fr.app N228 Nq229
    show own_Fin _ _ _ _ (T229.setTop (mkF m 173 #[iv p1, .val (.long q2), .second, iv p3, iv p4, iv p5, iv p6, iv (2 : Int32), iv v8_211, iv v9_212, iv v10_214, iv v11_216, iv v12_218, iv v13_220, iv v14_222, iv v15_223, iv v16_224, rv b225, .unset, .unset, .unset, .unset, .unset, .unset, .unset, .unset, .unset] [(.double (FP.ddiv (own_cl (own_pl (own_pl (some 0) (own_er v15_223.toInt64 (own_b3 (1 : Int32) v12_218 v13_220 v14_222 p4 p5 p6))) (own_er v16_224.toInt64 (own_b3 (2 : Int32) v12_218 v13_220 v14_222 p4 p5 p6)))) (FP.l2d (2 : Int32).toInt64)))]))
    refine own_go (XS.dstore X229.here hx rfl (hb hby at_173) rfl rfl (Steps.refl _)) ?_
    show own_Fin _ _ _ _ (T229.setTop (mkF m 175 #[iv p1, .val (.long q2), .second, iv p3, iv p4, iv p5, iv p6, iv (2 : Int32), iv v8_211, iv v9_212, iv v10_214, iv v11_216, iv v12_218, iv v13_220, iv v14_222, iv v15_223, iv v16_224, rv b225, .val (.double (FP.ddiv (own_cl (own_pl (own_pl (some 0) (own_er v15_223.toInt64 (own_b3 (1 : Int32) v12_218 v13_220 v14_222 p4 p5 p6))) (own_er v16_224.toInt64 (own_b3 (2 : Int32) v12_218 v13_220 v14_222 p4 p5 p6)))) (FP.l2d (2 : Int32).toInt64))), .second, .unset, .unset, .unset, .unset, .unset, .unset, .unset] []))
    generalize hz_r18_230 : (FP.ddiv (own_cl (own_pl (own_pl (some 0) (own_er v15_223.toInt64 (own_b3 (1 : Int32) v12_218 v13_220 v14_222 p4 p5 p6))) (own_er v16_224.toInt64 (own_b3 (2 : Int32) v12_218 v13_220 v14_222 p4 p5 p6)))) (FP.l2d (2 : Int32).toInt64)) = r18_230
    refine own_go (XS.iconst X229.here hx rfl (hb hby at_175) (Steps.refl _)) ?_
    show own_Fin _ _ _ _ (T229.setTop (mkF m 176 #[iv p1, .val (.long q2), .second, iv p3, iv p4, iv p5, iv p6, iv (2 : Int32), iv v8_211, iv v9_212, iv v10_214, iv v11_216, iv v12_218, iv v13_220, iv v14_222, iv v15_223, iv v16_224, rv b225, .val (.double r18_230), .second, .unset, .unset, .unset, .unset, .unset, .unset, .unset] [(.int (0 : Int32))]))
    refine own_go (XS.istore X229.here hx rfl (hb hby at_176) rfl rfl (Steps.refl _)) ?_
    show own_Fin _ _ _ _ (T229.setTop (mkF m 178 #[iv p1, .val (.long q2), .second, iv p3, iv p4, iv p5, iv p6, iv (2 : Int32), iv v8_211, iv v9_212, iv v10_214, iv v11_216, iv v12_218, iv v13_220, iv v14_222, iv v15_223, iv v16_224, rv b225, .val (.double r18_230), .second, iv (0 : Int32), .unset, .unset, .unset, .unset, .unset, .unset] []))
    refine own_go (XS.lconst X229.here hx rfl (hb hby at_178) (Steps.refl _)) ?_
    show own_Fin _ _ _ _ (T229.setTop (mkF m 179 #[iv p1, .val (.long q2), .second, iv p3, iv p4, iv p5, iv p6, iv (2 : Int32), iv v8_211, iv v9_212, iv v10_214, iv v11_216, iv v12_218, iv v13_220, iv v14_222, iv v15_223, iv v16_224, rv b225, .val (.double r18_230), .second, iv (0 : Int32), .unset, .unset, .unset, .unset, .unset, .unset] [(.long (0 : Int64))]))
    refine own_go (XS.lstore X229.here hx rfl (hb hby at_179) rfl rfl (Steps.refl _)) ?_
    show own_Fin _ _ _ _ (T229.setTop (mkF m 181 #[iv p1, .val (.long q2), .second, iv p3, iv p4, iv p5, iv p6, iv (2 : Int32), iv v8_211, iv v9_212, iv v10_214, iv v11_216, iv v12_218, iv v13_220, iv v14_222, iv v15_223, iv v16_224, rv b225, .val (.double r18_230), .second, iv (0 : Int32), .val (.long (0 : Int64)), .second, .unset, .unset, .unset, .unset] []))
    refine own_go (XS.iconst X229.here hx rfl (hb hby at_181) (Steps.refl _)) ?_
    show own_Fin _ _ _ _ (T229.setTop (mkF m 182 #[iv p1, .val (.long q2), .second, iv p3, iv p4, iv p5, iv p6, iv (2 : Int32), iv v8_211, iv v9_212, iv v10_214, iv v11_216, iv v12_218, iv v13_220, iv v14_222, iv v15_223, iv v16_224, rv b225, .val (.double r18_230), .second, iv (0 : Int32), .val (.long (0 : Int64)), .second, .unset, .unset, .unset, .unset] [(.int (1 : Int32))]))
    refine own_go (XS.iload X229.here hx rfl (hb hby at_182) rfl (Steps.refl _)) ?_
    show own_Fin _ _ _ _ (T229.setTop (mkF m 184 #[iv p1, .val (.long q2), .second, iv p3, iv p4, iv p5, iv p6, iv (2 : Int32), iv v8_211, iv v9_212, iv v10_214, iv v11_216, iv v12_218, iv v13_220, iv v14_222, iv v15_223, iv v16_224, rv b225, .val (.double r18_230), .second, iv (0 : Int32), .val (.long (0 : Int64)), .second, .unset, .unset, .unset, .unset] [(.int v12_218), (.int (1 : Int32))]))
    refine own_go (XS.iload X229.here hx rfl (hb hby at_184) rfl (Steps.refl _)) ?_
    show own_Fin _ _ _ _ (T229.setTop (mkF m 186 #[iv p1, .val (.long q2), .second, iv p3, iv p4, iv p5, iv p6, iv (2 : Int32), iv v8_211, iv v9_212, iv v10_214, iv v11_216, iv v12_218, iv v13_220, iv v14_222, iv v15_223, iv v16_224, rv b225, .val (.double r18_230), .second, iv (0 : Int32), .val (.long (0 : Int64)), .second, .unset, .unset, .unset, .unset] [(.int v13_220), (.int v12_218), (.int (1 : Int32))]))
    refine own_go (XS.iload X229.here hx rfl (hb hby at_186) rfl (Steps.refl _)) ?_
    show own_Fin _ _ _ _ (T229.setTop (mkF m 188 #[iv p1, .val (.long q2), .second, iv p3, iv p4, iv p5, iv p6, iv (2 : Int32), iv v8_211, iv v9_212, iv v10_214, iv v11_216, iv v12_218, iv v13_220, iv v14_222, iv v15_223, iv v16_224, rv b225, .val (.double r18_230), .second, iv (0 : Int32), .val (.long (0 : Int64)), .second, .unset, .unset, .unset, .unset] [(.int v14_222), (.int v13_220), (.int v12_218), (.int (1 : Int32))]))
    refine own_go (XS.iload X229.here hx rfl (hb hby at_188) rfl (Steps.refl _)) ?_
    show own_Fin _ _ _ _ (T229.setTop (mkF m 190 #[iv p1, .val (.long q2), .second, iv p3, iv p4, iv p5, iv p6, iv (2 : Int32), iv v8_211, iv v9_212, iv v10_214, iv v11_216, iv v12_218, iv v13_220, iv v14_222, iv v15_223, iv v16_224, rv b225, .val (.double r18_230), .second, iv (0 : Int32), .val (.long (0 : Int64)), .second, .unset, .unset, .unset, .unset] [(.int p4), (.int v14_222), (.int v13_220), (.int v12_218), (.int (1 : Int32))]))
    refine own_go (XS.iload X229.here hx rfl (hb hby at_190) rfl (Steps.refl _)) ?_
    show own_Fin _ _ _ _ (T229.setTop (mkF m 192 #[iv p1, .val (.long q2), .second, iv p3, iv p4, iv p5, iv p6, iv (2 : Int32), iv v8_211, iv v9_212, iv v10_214, iv v11_216, iv v12_218, iv v13_220, iv v14_222, iv v15_223, iv v16_224, rv b225, .val (.double r18_230), .second, iv (0 : Int32), .val (.long (0 : Int64)), .second, .unset, .unset, .unset, .unset] [(.int p5), (.int p4), (.int v14_222), (.int v13_220), (.int v12_218), (.int (1 : Int32))]))
    refine own_go (XS.iload X229.here hx rfl (hb hby at_192) rfl (Steps.refl _)) ?_
    show own_Fin _ _ _ _ (T229.setTop (mkF m 194 #[iv p1, .val (.long q2), .second, iv p3, iv p4, iv p5, iv p6, iv (2 : Int32), iv v8_211, iv v9_212, iv v10_214, iv v11_216, iv v12_218, iv v13_220, iv v14_222, iv v15_223, iv v16_224, rv b225, .val (.double r18_230), .second, iv (0 : Int32), .val (.long (0 : Int64)), .second, .unset, .unset, .unset, .unset] [(.int p6), (.int p5), (.int p4), (.int v14_222), (.int v13_220), (.int v12_218), (.int (1 : Int32))]))
    obtain ⟨_, _, ⟨T231, L231, k231, n231⟩, -, X231, ⟨Lc231, hQ231, l231, y231, z231⟩, st231⟩ := Jvm.LawKit.callS X229 hx (y := (⟨"com/example/tidewalk/tidewalk/problems/RunMeasuresBestErrorBeforeChangePinLaw", "best", "(IIIIIII)J"⟩ : MethodName)) hown (mvT hZ (hw _ (List.mem_of_getElem? (i := 72) rfl))) (mvT hZ (hw _ (List.mem_of_getElem? (i := 73) rfl))) (mvT hZ (hw _ (List.mem_of_getElem? (i := 9) rfl))) (mvT hZ (hw _ (List.mem_of_getElem? (i := 74) rfl))) (by decide) (backOf (W := 0) (rmbs l Z a0 hw [] (1 : Int32) v12_218 v13_220 v14_222 p4 p5 p6 T228.heap n0 Z228) hZ (hw _ (List.mem_of_getElem? (i := 74) rfl)) (hw _ (List.mem_of_getElem? (i := 9) rfl)) (by decide) (by decide)) (g := (mkF m 194 #[iv p1, .val (.long q2), .second, iv p3, iv p4, iv p5, iv p6, iv (2 : Int32), iv v8_211, iv v9_212, iv v10_214, iv v11_216, iv v12_218, iv v13_220, iv v14_222, iv v15_223, iv v16_224, rv b225, .val (.double r18_230), .second, iv (0 : Int32), .val (.long (0 : Int64)), .second, .unset, .unset, .unset, .unset] [(.int p6), (.int p5), (.int p4), (.int v14_222), (.int v13_220), (.int v12_218), (.int (1 : Int32))])) rfl (by rw [hml]; rfl) (argsL := [(.int (1 : Int32)), (.int v12_218), (.int v13_220), (.int v14_222), (.int p4), (.int p5), (.int p6)]) (rest := []) (lenOf pd__28_IIIIIII_29_J rfl) rfl (by show 2 * 0 + _ ≤ _; exact Nat.le_of_eq rfl) (hb hby at_194) (fun _ hv => ⟨rfl, e229, (by decide : 1 + 0 ≤ _), (by decide : 9 + 0 ≤ _)⟩)
    dsimp only [Pt.U, Pt.locs, Pt.cells, Pt.slots] at X231 l231 y231 z231 st231 hQ231
    subst l231 y231 z231
    obtain ⟨rfl, Nq231, e231⟩ := hQ231
    refine own_by st231 ?_
    have N231 := Fr.app N229 Nq231
    show own_Fin _ _ _ _ (T231.setTop (mkF m 197 #[iv p1, .val (.long q2), .second, iv p3, iv p4, iv p5, iv p6, iv (2 : Int32), iv v8_211, iv v9_212, iv v10_214, iv v11_216, iv v12_218, iv v13_220, iv v14_222, iv v15_223, iv v16_224, rv b225, .val (.double r18_230), .second, iv (0 : Int32), .val (.long (0 : Int64)), .second, .unset, .unset, .unset, .unset] [(.long (own_lv (own_b3 (1 : Int32) v12_218 v13_220 v14_222 p4 p5 p6)))]))
    refine own_go (XS.lstore X231.here hx rfl (hb hby at_197) rfl rfl (Steps.refl _)) ?_
    show own_Fin _ _ _ _ (T231.setTop (mkF m 199 #[iv p1, .val (.long q2), .second, iv p3, iv p4, iv p5, iv p6, iv (2 : Int32), iv v8_211, iv v9_212, iv v10_214, iv v11_216, iv v12_218, iv v13_220, iv v14_222, iv v15_223, iv v16_224, rv b225, .val (.double r18_230), .second, iv (0 : Int32), .val (.long (0 : Int64)), .second, .val (.long (own_lv (own_b3 (1 : Int32) v12_218 v13_220 v14_222 p4 p5 p6))), .second, .unset, .unset] []))
    generalize hz_v23_232 : (own_lv (own_b3 (1 : Int32) v12_218 v13_220 v14_222 p4 p5 p6)) = v23_232
    refine own_go (XS.lload X231.here hx rfl (hb hby at_199) rfl (Steps.refl _)) ?_
    show own_Fin _ _ _ _ (T231.setTop (mkF m 201 #[iv p1, .val (.long q2), .second, iv p3, iv p4, iv p5, iv p6, iv (2 : Int32), iv v8_211, iv v9_212, iv v10_214, iv v11_216, iv v12_218, iv v13_220, iv v14_222, iv v15_223, iv v16_224, rv b225, .val (.double r18_230), .second, iv (0 : Int32), .val (.long (0 : Int64)), .second, .val (.long v23_232), .second, .unset, .unset] [(.long v23_232)]))
    refine own_by (X231.ldc2Long hx hown (mvT hZ (hw _ (List.mem_of_getElem? (i := 75) rfl))) (g := (mkF m 201 #[iv p1, .val (.long q2), .second, iv p3, iv p4, iv p5, iv p6, iv (2 : Int32), iv v8_211, iv v9_212, iv v10_214, iv v11_216, iv v12_218, iv v13_220, iv v14_222, iv v15_223, iv v16_224, rv b225, .val (.double r18_230), .second, iv (0 : Int32), .val (.long (0 : Int64)), .second, .val (.long v23_232), .second, .unset, .unset] [(.long v23_232)])) rfl (hb hby at_201)) ?_
    show own_Fin _ _ _ _ (T231.setTop (mkF m 204 #[iv p1, .val (.long q2), .second, iv p3, iv p4, iv p5, iv p6, iv (2 : Int32), iv v8_211, iv v9_212, iv v10_214, iv v11_216, iv v12_218, iv v13_220, iv v14_222, iv v15_223, iv v16_224, rv b225, .val (.double r18_230), .second, iv (0 : Int32), .val (.long (0 : Int64)), .second, .val (.long v23_232), .second, .unset, .unset] [(.long (-9223372036854775808 : Int64)), (.long v23_232)]))
    refine own_go (XS.lcmp X231.here hx rfl (hb hby at_204) rfl (Steps.refl _)) ?_
    show own_Fin _ _ _ _ (T231.setTop (mkF m 205 #[iv p1, .val (.long q2), .second, iv p3, iv p4, iv p5, iv p6, iv (2 : Int32), iv v8_211, iv v9_212, iv v10_214, iv v11_216, iv v12_218, iv v13_220, iv v14_222, iv v15_223, iv v16_224, rv b225, .val (.double r18_230), .second, iv (0 : Int32), .val (.long (0 : Int64)), .second, .val (.long v23_232), .second, .unset, .unset] [(.int (lcmpW v23_232 (-9223372036854775808 : Int64)))]))
    by_cases cb233 : (own_b3 (1 : Int32) v12_218 v13_220 v14_222 p4 p5 p6) = none
    · refine own_go (XS.ifNo X231.here hx rfl (hb hby at_205) rfl ((if0 _ _).trans (teq (show (lcmpW v23_232 (-9223372036854775808 : Int64)) = (0 : Int32) from (by rw [← hz_v23_232]; exact own_lvz cb233))).2) (Steps.refl _)) ?_
      show own_Fin _ _ _ _ (T231.setTop (mkF m 208 #[iv p1, .val (.long q2), .second, iv p3, iv p4, iv p5, iv p6, iv (2 : Int32), iv v8_211, iv v9_212, iv v10_214, iv v11_216, iv v12_218, iv v13_220, iv v14_222, iv v15_223, iv v16_224, rv b225, .val (.double r18_230), .second, iv (0 : Int32), .val (.long (0 : Int64)), .second, .val (.long v23_232), .second, .unset, .unset] []))
      refine own_go (XS.iconst X231.here hx rfl (hb hby at_208) (Steps.refl _)) ?_
      show own_Fin _ _ _ _ (T231.setTop (mkF m 209 #[iv p1, .val (.long q2), .second, iv p3, iv p4, iv p5, iv p6, iv (2 : Int32), iv v8_211, iv v9_212, iv v10_214, iv v11_216, iv v12_218, iv v13_220, iv v14_222, iv v15_223, iv v16_224, rv b225, .val (.double r18_230), .second, iv (0 : Int32), .val (.long (0 : Int64)), .second, .val (.long v23_232), .second, .unset, .unset] [(.int (1 : Int32))]))
      refine own_go (XS.istore X231.here hx rfl (hb hby at_209) rfl rfl (Steps.refl _)) ?_
      show own_Fin _ _ _ _ (T231.setTop (mkF m 211 #[iv p1, .val (.long q2), .second, iv p3, iv p4, iv p5, iv p6, iv (2 : Int32), iv v8_211, iv v9_212, iv v10_214, iv v11_216, iv v12_218, iv v13_220, iv v14_222, iv v15_223, iv v16_224, rv b225, .val (.double r18_230), .second, iv (1 : Int32), .val (.long (0 : Int64)), .second, .val (.long v23_232), .second, .unset, .unset] []))
      refine own_go (XS.goto X231.here hx rfl (pc0 := 211) (pc' := 225) rfl (hb hby at_211) (by decide) (by decide) (Steps.refl _)) ?_
      show own_Fin _ _ _ _ (T231.setTop (mkF m 225 #[iv p1, .val (.long q2), .second, iv p3, iv p4, iv p5, iv p6, iv (2 : Int32), iv v8_211, iv v9_212, iv v10_214, iv v11_216, iv v12_218, iv v13_220, iv v14_222, iv v15_223, iv v16_224, rv b225, .val (.double r18_230), .second, iv (1 : Int32), .val (.long (0 : Int64)), .second, .val (.long v23_232), .second, .unset, .unset] []))
      refine own_go (XS.iload X231.here hx rfl (hb hby at_225) rfl (Steps.refl _)) ?_
      show own_Fin _ _ _ _ (T231.setTop (mkF m 227 #[iv p1, .val (.long q2), .second, iv p3, iv p4, iv p5, iv p6, iv (2 : Int32), iv v8_211, iv v9_212, iv v10_214, iv v11_216, iv v12_218, iv v13_220, iv v14_222, iv v15_223, iv v16_224, rv b225, .val (.double r18_230), .second, iv (1 : Int32), .val (.long (0 : Int64)), .second, .val (.long v23_232), .second, .unset, .unset] [(.int (2 : Int32))]))
      refine own_go (XS.iconst X231.here hx rfl (hb hby at_227) (Steps.refl _)) ?_
      show own_Fin _ _ _ _ (T231.setTop (mkF m 228 #[iv p1, .val (.long q2), .second, iv p3, iv p4, iv p5, iv p6, iv (2 : Int32), iv v8_211, iv v9_212, iv v10_214, iv v11_216, iv v12_218, iv v13_220, iv v14_222, iv v15_223, iv v16_224, rv b225, .val (.double r18_230), .second, iv (1 : Int32), .val (.long (0 : Int64)), .second, .val (.long v23_232), .second, .unset, .unset] [(.int (2 : Int32)), (.int (2 : Int32))]))
      refine own_go (XS.icmpNo X231.here hx rfl (hb hby at_228) rfl (flt (by decide : ¬ ((2 : Int32) < (2 : Int32)))).1 (Steps.refl _)) ?_
      show own_Fin _ _ _ _ (T231.setTop (mkF m 231 #[iv p1, .val (.long q2), .second, iv p3, iv p4, iv p5, iv p6, iv (2 : Int32), iv v8_211, iv v9_212, iv v10_214, iv v11_216, iv v12_218, iv v13_220, iv v14_222, iv v15_223, iv v16_224, rv b225, .val (.double r18_230), .second, iv (1 : Int32), .val (.long (0 : Int64)), .second, .val (.long v23_232), .second, .unset, .unset] []))
      refine own_go (XS.iconst X231.here hx rfl (hb hby at_231) (Steps.refl _)) ?_
      show own_Fin _ _ _ _ (T231.setTop (mkF m 232 #[iv p1, .val (.long q2), .second, iv p3, iv p4, iv p5, iv p6, iv (2 : Int32), iv v8_211, iv v9_212, iv v10_214, iv v11_216, iv v12_218, iv v13_220, iv v14_222, iv v15_223, iv v16_224, rv b225, .val (.double r18_230), .second, iv (1 : Int32), .val (.long (0 : Int64)), .second, .val (.long v23_232), .second, .unset, .unset] [(.int (2 : Int32))]))
      refine own_go (XS.iload X231.here hx rfl (hb hby at_232) rfl (Steps.refl _)) ?_
      show own_Fin _ _ _ _ (T231.setTop (mkF m 234 #[iv p1, .val (.long q2), .second, iv p3, iv p4, iv p5, iv p6, iv (2 : Int32), iv v8_211, iv v9_212, iv v10_214, iv v11_216, iv v12_218, iv v13_220, iv v14_222, iv v15_223, iv v16_224, rv b225, .val (.double r18_230), .second, iv (1 : Int32), .val (.long (0 : Int64)), .second, .val (.long v23_232), .second, .unset, .unset] [(.int v12_218), (.int (2 : Int32))]))
      refine own_go (XS.iload X231.here hx rfl (hb hby at_234) rfl (Steps.refl _)) ?_
      show own_Fin _ _ _ _ (T231.setTop (mkF m 236 #[iv p1, .val (.long q2), .second, iv p3, iv p4, iv p5, iv p6, iv (2 : Int32), iv v8_211, iv v9_212, iv v10_214, iv v11_216, iv v12_218, iv v13_220, iv v14_222, iv v15_223, iv v16_224, rv b225, .val (.double r18_230), .second, iv (1 : Int32), .val (.long (0 : Int64)), .second, .val (.long v23_232), .second, .unset, .unset] [(.int v13_220), (.int v12_218), (.int (2 : Int32))]))
      refine own_go (XS.iload X231.here hx rfl (hb hby at_236) rfl (Steps.refl _)) ?_
      show own_Fin _ _ _ _ (T231.setTop (mkF m 238 #[iv p1, .val (.long q2), .second, iv p3, iv p4, iv p5, iv p6, iv (2 : Int32), iv v8_211, iv v9_212, iv v10_214, iv v11_216, iv v12_218, iv v13_220, iv v14_222, iv v15_223, iv v16_224, rv b225, .val (.double r18_230), .second, iv (1 : Int32), .val (.long (0 : Int64)), .second, .val (.long v23_232), .second, .unset, .unset] [(.int v14_222), (.int v13_220), (.int v12_218), (.int (2 : Int32))]))
      refine own_go (XS.iload X231.here hx rfl (hb hby at_238) rfl (Steps.refl _)) ?_
      show own_Fin _ _ _ _ (T231.setTop (mkF m 240 #[iv p1, .val (.long q2), .second, iv p3, iv p4, iv p5, iv p6, iv (2 : Int32), iv v8_211, iv v9_212, iv v10_214, iv v11_216, iv v12_218, iv v13_220, iv v14_222, iv v15_223, iv v16_224, rv b225, .val (.double r18_230), .second, iv (1 : Int32), .val (.long (0 : Int64)), .second, .val (.long v23_232), .second, .unset, .unset] [(.int p4), (.int v14_222), (.int v13_220), (.int v12_218), (.int (2 : Int32))]))
      refine own_go (XS.iload X231.here hx rfl (hb hby at_240) rfl (Steps.refl _)) ?_
      show own_Fin _ _ _ _ (T231.setTop (mkF m 242 #[iv p1, .val (.long q2), .second, iv p3, iv p4, iv p5, iv p6, iv (2 : Int32), iv v8_211, iv v9_212, iv v10_214, iv v11_216, iv v12_218, iv v13_220, iv v14_222, iv v15_223, iv v16_224, rv b225, .val (.double r18_230), .second, iv (1 : Int32), .val (.long (0 : Int64)), .second, .val (.long v23_232), .second, .unset, .unset] [(.int p5), (.int p4), (.int v14_222), (.int v13_220), (.int v12_218), (.int (2 : Int32))]))
      refine own_go (XS.iload X231.here hx rfl (hb hby at_242) rfl (Steps.refl _)) ?_
      show own_Fin _ _ _ _ (T231.setTop (mkF m 244 #[iv p1, .val (.long q2), .second, iv p3, iv p4, iv p5, iv p6, iv (2 : Int32), iv v8_211, iv v9_212, iv v10_214, iv v11_216, iv v12_218, iv v13_220, iv v14_222, iv v15_223, iv v16_224, rv b225, .val (.double r18_230), .second, iv (1 : Int32), .val (.long (0 : Int64)), .second, .val (.long v23_232), .second, .unset, .unset] [(.int p6), (.int p5), (.int p4), (.int v14_222), (.int v13_220), (.int v12_218), (.int (2 : Int32))]))
      obtain ⟨_, _, ⟨T234, L234, k234, n234⟩, -, X234, ⟨Lc234, hQ234, l234, y234, z234⟩, st234⟩ := Jvm.LawKit.callS X231 hx (y := (⟨"com/example/tidewalk/tidewalk/problems/RunMeasuresBestErrorBeforeChangePinLaw", "best", "(IIIIIII)J"⟩ : MethodName)) hown (mvT hZ (hw _ (List.mem_of_getElem? (i := 72) rfl))) (mvT hZ (hw _ (List.mem_of_getElem? (i := 73) rfl))) (mvT hZ (hw _ (List.mem_of_getElem? (i := 9) rfl))) (mvT hZ (hw _ (List.mem_of_getElem? (i := 74) rfl))) (by decide) (backOf (W := 0) (rmbs l Z a0 hw [] (2 : Int32) v12_218 v13_220 v14_222 p4 p5 p6 T228.heap n0 Z228) hZ (hw _ (List.mem_of_getElem? (i := 74) rfl)) (hw _ (List.mem_of_getElem? (i := 9) rfl)) (by decide) (by decide)) (g := (mkF m 244 #[iv p1, .val (.long q2), .second, iv p3, iv p4, iv p5, iv p6, iv (2 : Int32), iv v8_211, iv v9_212, iv v10_214, iv v11_216, iv v12_218, iv v13_220, iv v14_222, iv v15_223, iv v16_224, rv b225, .val (.double r18_230), .second, iv (1 : Int32), .val (.long (0 : Int64)), .second, .val (.long v23_232), .second, .unset, .unset] [(.int p6), (.int p5), (.int p4), (.int v14_222), (.int v13_220), (.int v12_218), (.int (2 : Int32))])) rfl (by rw [hml]; rfl) (argsL := [(.int (2 : Int32)), (.int v12_218), (.int v13_220), (.int v14_222), (.int p4), (.int p5), (.int p6)]) (rest := []) (lenOf pd__28_IIIIIII_29_J rfl) rfl (by show 2 * 0 + _ ≤ _; exact Nat.le_of_eq rfl) (hb hby at_244) (fun _ hv => ⟨rfl, e231, (by decide : 1 + 0 ≤ _), (by decide : 9 + 0 ≤ _)⟩)
      dsimp only [Pt.U, Pt.locs, Pt.cells, Pt.slots] at X234 l234 y234 z234 st234 hQ234
      subst l234 y234 z234
      obtain ⟨rfl, Nq234, e234⟩ := hQ234
      refine own_by st234 ?_
      have N234 := Fr.app N231 Nq234
      show own_Fin _ _ _ _ (T234.setTop (mkF m 247 #[iv p1, .val (.long q2), .second, iv p3, iv p4, iv p5, iv p6, iv (2 : Int32), iv v8_211, iv v9_212, iv v10_214, iv v11_216, iv v12_218, iv v13_220, iv v14_222, iv v15_223, iv v16_224, rv b225, .val (.double r18_230), .second, iv (1 : Int32), .val (.long (0 : Int64)), .second, .val (.long v23_232), .second, .unset, .unset] [(.long (own_lv (own_b3 (2 : Int32) v12_218 v13_220 v14_222 p4 p5 p6)))]))
      refine own_go (XS.lstore X234.here hx rfl (hb hby at_247) rfl rfl (Steps.refl _)) ?_
      show own_Fin _ _ _ _ (T234.setTop (mkF m 249 #[iv p1, .val (.long q2), .second, iv p3, iv p4, iv p5, iv p6, iv (2 : Int32), iv v8_211, iv v9_212, iv v10_214, iv v11_216, iv v12_218, iv v13_220, iv v14_222, iv v15_223, iv v16_224, rv b225, .val (.double r18_230), .second, iv (1 : Int32), .val (.long (0 : Int64)), .second, .val (.long v23_232), .second, .val (.long (own_lv (own_b3 (2 : Int32) v12_218 v13_220 v14_222 p4 p5 p6))), .second] []))
      generalize hz_v25_235 : (own_lv (own_b3 (2 : Int32) v12_218 v13_220 v14_222 p4 p5 p6)) = v25_235
      refine own_go (XS.lload X234.here hx rfl (hb hby at_249) rfl (Steps.refl _)) ?_
      show own_Fin _ _ _ _ (T234.setTop (mkF m 251 #[iv p1, .val (.long q2), .second, iv p3, iv p4, iv p5, iv p6, iv (2 : Int32), iv v8_211, iv v9_212, iv v10_214, iv v11_216, iv v12_218, iv v13_220, iv v14_222, iv v15_223, iv v16_224, rv b225, .val (.double r18_230), .second, iv (1 : Int32), .val (.long (0 : Int64)), .second, .val (.long v23_232), .second, .val (.long v25_235), .second] [(.long v25_235)]))
      refine own_by (X234.ldc2Long hx hown (mvT hZ (hw _ (List.mem_of_getElem? (i := 75) rfl))) (g := (mkF m 251 #[iv p1, .val (.long q2), .second, iv p3, iv p4, iv p5, iv p6, iv (2 : Int32), iv v8_211, iv v9_212, iv v10_214, iv v11_216, iv v12_218, iv v13_220, iv v14_222, iv v15_223, iv v16_224, rv b225, .val (.double r18_230), .second, iv (1 : Int32), .val (.long (0 : Int64)), .second, .val (.long v23_232), .second, .val (.long v25_235), .second] [(.long v25_235)])) rfl (hb hby at_251)) ?_
      show own_Fin _ _ _ _ (T234.setTop (mkF m 254 #[iv p1, .val (.long q2), .second, iv p3, iv p4, iv p5, iv p6, iv (2 : Int32), iv v8_211, iv v9_212, iv v10_214, iv v11_216, iv v12_218, iv v13_220, iv v14_222, iv v15_223, iv v16_224, rv b225, .val (.double r18_230), .second, iv (1 : Int32), .val (.long (0 : Int64)), .second, .val (.long v23_232), .second, .val (.long v25_235), .second] [(.long (-9223372036854775808 : Int64)), (.long v25_235)]))
      refine own_go (XS.lcmp X234.here hx rfl (hb hby at_254) rfl (Steps.refl _)) ?_
      show own_Fin _ _ _ _ (T234.setTop (mkF m 255 #[iv p1, .val (.long q2), .second, iv p3, iv p4, iv p5, iv p6, iv (2 : Int32), iv v8_211, iv v9_212, iv v10_214, iv v11_216, iv v12_218, iv v13_220, iv v14_222, iv v15_223, iv v16_224, rv b225, .val (.double r18_230), .second, iv (1 : Int32), .val (.long (0 : Int64)), .second, .val (.long v23_232), .second, .val (.long v25_235), .second] [(.int (lcmpW v25_235 (-9223372036854775808 : Int64)))]))
      by_cases cb236 : (own_b3 (2 : Int32) v12_218 v13_220 v14_222 p4 p5 p6) = none
      · refine own_go (XS.ifNo X234.here hx rfl (hb hby at_255) rfl ((if0 _ _).trans (teq (show (lcmpW v25_235 (-9223372036854775808 : Int64)) = (0 : Int32) from (by rw [← hz_v25_235]; exact own_lvz cb236))).2) (Steps.refl _)) ?_
        show own_Fin _ _ _ _ (T234.setTop (mkF m 258 #[iv p1, .val (.long q2), .second, iv p3, iv p4, iv p5, iv p6, iv (2 : Int32), iv v8_211, iv v9_212, iv v10_214, iv v11_216, iv v12_218, iv v13_220, iv v14_222, iv v15_223, iv v16_224, rv b225, .val (.double r18_230), .second, iv (1 : Int32), .val (.long (0 : Int64)), .second, .val (.long v23_232), .second, .val (.long v25_235), .second] []))
        refine own_go (XS.iconst X234.here hx rfl (hb hby at_258) (Steps.refl _)) ?_
        show own_Fin _ _ _ _ (T234.setTop (mkF m 259 #[iv p1, .val (.long q2), .second, iv p3, iv p4, iv p5, iv p6, iv (2 : Int32), iv v8_211, iv v9_212, iv v10_214, iv v11_216, iv v12_218, iv v13_220, iv v14_222, iv v15_223, iv v16_224, rv b225, .val (.double r18_230), .second, iv (1 : Int32), .val (.long (0 : Int64)), .second, .val (.long v23_232), .second, .val (.long v25_235), .second] [(.int (1 : Int32))]))
        refine own_go (XS.istore X234.here hx rfl (hb hby at_259) rfl rfl (Steps.refl _)) ?_
        show own_Fin _ _ _ _ (T234.setTop (mkF m 261 #[iv p1, .val (.long q2), .second, iv p3, iv p4, iv p5, iv p6, iv (2 : Int32), iv v8_211, iv v9_212, iv v10_214, iv v11_216, iv v12_218, iv v13_220, iv v14_222, iv v15_223, iv v16_224, rv b225, .val (.double r18_230), .second, iv (1 : Int32), .val (.long (0 : Int64)), .second, .val (.long v23_232), .second, .val (.long v25_235), .second] []))
        refine own_go (XS.goto X234.here hx rfl (pc0 := 261) (pc' := 275) rfl (hb hby at_261) (by decide) (by decide) (Steps.refl _)) ?_
        show own_Fin _ _ _ _ (T234.setTop (mkF m 275 #[iv p1, .val (.long q2), .second, iv p3, iv p4, iv p5, iv p6, iv (2 : Int32), iv v8_211, iv v9_212, iv v10_214, iv v11_216, iv v12_218, iv v13_220, iv v14_222, iv v15_223, iv v16_224, rv b225, .val (.double r18_230), .second, iv (1 : Int32), .val (.long (0 : Int64)), .second, .val (.long v23_232), .second, .val (.long v25_235), .second] []))
        refine own_go (XS.iload X234.here hx rfl (hb hby at_275) rfl (Steps.refl _)) ?_
        show own_Fin _ _ _ _ (T234.setTop (mkF m 277 #[iv p1, .val (.long q2), .second, iv p3, iv p4, iv p5, iv p6, iv (2 : Int32), iv v8_211, iv v9_212, iv v10_214, iv v11_216, iv v12_218, iv v13_220, iv v14_222, iv v15_223, iv v16_224, rv b225, .val (.double r18_230), .second, iv (1 : Int32), .val (.long (0 : Int64)), .second, .val (.long v23_232), .second, .val (.long v25_235), .second] [(.int (2 : Int32))]))
        refine own_go (XS.iconst X234.here hx rfl (hb hby at_277) (Steps.refl _)) ?_
        show own_Fin _ _ _ _ (T234.setTop (mkF m 278 #[iv p1, .val (.long q2), .second, iv p3, iv p4, iv p5, iv p6, iv (2 : Int32), iv v8_211, iv v9_212, iv v10_214, iv v11_216, iv v12_218, iv v13_220, iv v14_222, iv v15_223, iv v16_224, rv b225, .val (.double r18_230), .second, iv (1 : Int32), .val (.long (0 : Int64)), .second, .val (.long v23_232), .second, .val (.long v25_235), .second] [(.int (3 : Int32)), (.int (2 : Int32))]))
        refine own_go (XS.icmpYes X234.here hx rfl (pc0 := 278) (pc' := 324) rfl (hb hby at_278) rfl (tlt (by decide : (2 : Int32) < (3 : Int32))).1 (by decide) (by decide) (Steps.refl _)) ?_
        show own_Fin _ _ _ _ (T234.setTop (mkF m 324 #[iv p1, .val (.long q2), .second, iv p3, iv p4, iv p5, iv p6, iv (2 : Int32), iv v8_211, iv v9_212, iv v10_214, iv v11_216, iv v12_218, iv v13_220, iv v14_222, iv v15_223, iv v16_224, rv b225, .val (.double r18_230), .second, iv (1 : Int32), .val (.long (0 : Int64)), .second, .val (.long v23_232), .second, .val (.long v25_235), .second] []))
        refine own_go (XS.iload X234.here hx rfl (hb hby at_324) rfl (Steps.refl _)) ?_
        show own_Fin _ _ _ _ (T234.setTop (mkF m 326 #[iv p1, .val (.long q2), .second, iv p3, iv p4, iv p5, iv p6, iv (2 : Int32), iv v8_211, iv v9_212, iv v10_214, iv v11_216, iv v12_218, iv v13_220, iv v14_222, iv v15_223, iv v16_224, rv b225, .val (.double r18_230), .second, iv (1 : Int32), .val (.long (0 : Int64)), .second, .val (.long v23_232), .second, .val (.long v25_235), .second] [(.int (1 : Int32))]))
        refine own_go (XS.ifNo X234.here hx rfl (hb hby at_326) rfl ((if0 _ _).trans (feq (by decide : ¬ ((1 : Int32) = (0 : Int32)))).1) (Steps.refl _)) ?_
        show own_Fin _ _ _ _ (T234.setTop (mkF m 329 #[iv p1, .val (.long q2), .second, iv p3, iv p4, iv p5, iv p6, iv (2 : Int32), iv v8_211, iv v9_212, iv v10_214, iv v11_216, iv v12_218, iv v13_220, iv v14_222, iv v15_223, iv v16_224, rv b225, .val (.double r18_230), .second, iv (1 : Int32), .val (.long (0 : Int64)), .second, .val (.long v23_232), .second, .val (.long v25_235), .second] []))
        refine own_go (XS.dload X234.here hx rfl (hb hby at_329) rfl (Steps.refl _)) ?_
        show own_Fin _ _ _ _ (T234.setTop (mkF m 331 #[iv p1, .val (.long q2), .second, iv p3, iv p4, iv p5, iv p6, iv (2 : Int32), iv v8_211, iv v9_212, iv v10_214, iv v11_216, iv v12_218, iv v13_220, iv v14_222, iv v15_223, iv v16_224, rv b225, .val (.double r18_230), .second, iv (1 : Int32), .val (.long (0 : Int64)), .second, .val (.long v23_232), .second, .val (.long v25_235), .second] [(.double r18_230)]))
        refine own_by (X234.ldc2DoubleC hx hown (mvT hZ (hw _ (List.mem_of_getElem? (i := 79) rfl))) (g := (mkF m 331 #[iv p1, .val (.long q2), .second, iv p3, iv p4, iv p5, iv p6, iv (2 : Int32), iv v8_211, iv v9_212, iv v10_214, iv v11_216, iv v12_218, iv v13_220, iv v14_222, iv v15_223, iv v16_224, rv b225, .val (.double r18_230), .second, iv (1 : Int32), .val (.long (0 : Int64)), .second, .val (.long v23_232), .second, .val (.long v25_235), .second] [(.double r18_230)])) rfl (hb hby at_331)) ?_
        show own_Fin _ _ _ _ (T234.setTop (mkF m 334 #[iv p1, .val (.long q2), .second, iv p3, iv p4, iv p5, iv p6, iv (2 : Int32), iv v8_211, iv v9_212, iv v10_214, iv v11_216, iv v12_218, iv v13_220, iv v14_222, iv v15_223, iv v16_224, rv b225, .val (.double r18_230), .second, iv (1 : Int32), .val (.long (0 : Int64)), .second, .val (.long v23_232), .second, .val (.long v25_235), .second] [(.double (9218868437227405312 : UInt64)), (.double r18_230)]))
        refine own_go (XS.dcmpS X234.here hx rfl (hb hby at_334) rfl (show cmpValue (FP.dcmp r18_230 (9218868437227405312 : UInt64)) .l = (0 : Int32) from (by rw [← hz_r18_230]; exact own_ci (own_z2 (Or.inl cb233)) (by decide))) (Steps.refl _)) ?_
        show own_Fin _ _ _ _ (T234.setTop (mkF m 335 #[iv p1, .val (.long q2), .second, iv p3, iv p4, iv p5, iv p6, iv (2 : Int32), iv v8_211, iv v9_212, iv v10_214, iv v11_216, iv v12_218, iv v13_220, iv v14_222, iv v15_223, iv v16_224, rv b225, .val (.double r18_230), .second, iv (1 : Int32), .val (.long (0 : Int64)), .second, .val (.long v23_232), .second, .val (.long v25_235), .second] [(.int (0 : Int32))]))
        refine own_go (XS.ifNo X234.here hx rfl (hb hby at_335) rfl ((if0 _ _).trans (teq (by decide : (0 : Int32) = (0 : Int32))).2) (Steps.refl _)) ?_
        show own_Fin _ _ _ _ (T234.setTop (mkF m 338 #[iv p1, .val (.long q2), .second, iv p3, iv p4, iv p5, iv p6, iv (2 : Int32), iv v8_211, iv v9_212, iv v10_214, iv v11_216, iv v12_218, iv v13_220, iv v14_222, iv v15_223, iv v16_224, rv b225, .val (.double r18_230), .second, iv (1 : Int32), .val (.long (0 : Int64)), .second, .val (.long v23_232), .second, .val (.long v25_235), .second] []))
        refine own_go (XS.iconst X234.here hx rfl (hb hby at_338) (Steps.refl _)) ?_
        show own_Fin _ _ _ _ (T234.setTop (mkF m 339 #[iv p1, .val (.long q2), .second, iv p3, iv p4, iv p5, iv p6, iv (2 : Int32), iv v8_211, iv v9_212, iv v10_214, iv v11_216, iv v12_218, iv v13_220, iv v14_222, iv v15_223, iv v16_224, rv b225, .val (.double r18_230), .second, iv (1 : Int32), .val (.long (0 : Int64)), .second, .val (.long v23_232), .second, .val (.long v25_235), .second] [(.int (1 : Int32))]))
        refine own_go (XS.goto X234.here hx rfl (pc0 := 339) (pc' := 343) rfl (hb hby at_339) (by decide) (by decide) (Steps.refl _)) ?_
        show own_Fin _ _ _ _ (T234.setTop (mkF m 343 #[iv p1, .val (.long q2), .second, iv p3, iv p4, iv p5, iv p6, iv (2 : Int32), iv v8_211, iv v9_212, iv v10_214, iv v11_216, iv v12_218, iv v13_220, iv v14_222, iv v15_223, iv v16_224, rv b225, .val (.double r18_230), .second, iv (1 : Int32), .val (.long (0 : Int64)), .second, .val (.long v23_232), .second, .val (.long v25_235), .second] [(.int (1 : Int32))]))
        obtain ⟨fs237, hr237, hrun237, hended237, hW237, hsame237⟩ := X234.leave (v := some (.int (1 : Int32))) (fun h => by rw [Bd.returns] at h; cases h)
        refine own_done (retN X234 hx (t := .boolean) Bd.returns (by simp) (hb hby at_343) hr237) hrun237 hended237 ⟨_, _, rfl, ?_, ⟨_, rfl⟩, hW237, hsame237.mono (by decide) (by decide)⟩
        show Q0 Z p1 q2 p3 p4 p5 p6 h0 n0 _ T234.heap _
        rw [e234]
        exact ⟨rfl, N234⟩
      · refine own_go (XS.ifYes X234.here hx rfl (pc0 := 255) (pc' := 264) rfl (hb hby at_255) rfl ((if0 _ _).trans (feq (show ¬ ((lcmpW v25_235 (-9223372036854775808 : Int64)) = (0 : Int32)) from (by rw [← hz_v25_235]; exact own_lvne (own_W3 _ _ _ _ _ _ _) cb236))).2) (by decide) (by decide) (Steps.refl _)) ?_
        show own_Fin _ _ _ _ (T234.setTop (mkF m 264 #[iv p1, .val (.long q2), .second, iv p3, iv p4, iv p5, iv p6, iv (2 : Int32), iv v8_211, iv v9_212, iv v10_214, iv v11_216, iv v12_218, iv v13_220, iv v14_222, iv v15_223, iv v16_224, rv b225, .val (.double r18_230), .second, iv (1 : Int32), .val (.long (0 : Int64)), .second, .val (.long v23_232), .second, .val (.long v25_235), .second] []))
        refine own_go (XS.lload X234.here hx rfl (hb hby at_264) rfl (Steps.refl _)) ?_
        show own_Fin _ _ _ _ (T234.setTop (mkF m 266 #[iv p1, .val (.long q2), .second, iv p3, iv p4, iv p5, iv p6, iv (2 : Int32), iv v8_211, iv v9_212, iv v10_214, iv v11_216, iv v12_218, iv v13_220, iv v14_222, iv v15_223, iv v16_224, rv b225, .val (.double r18_230), .second, iv (1 : Int32), .val (.long (0 : Int64)), .second, .val (.long v23_232), .second, .val (.long v25_235), .second] [(.long (0 : Int64))]))
        refine own_go (XS.iload X234.here hx rfl (hb hby at_266) rfl (Steps.refl _)) ?_
        show own_Fin _ _ _ _ (T234.setTop (mkF m 268 #[iv p1, .val (.long q2), .second, iv p3, iv p4, iv p5, iv p6, iv (2 : Int32), iv v8_211, iv v9_212, iv v10_214, iv v11_216, iv v12_218, iv v13_220, iv v14_222, iv v15_223, iv v16_224, rv b225, .val (.double r18_230), .second, iv (1 : Int32), .val (.long (0 : Int64)), .second, .val (.long v23_232), .second, .val (.long v25_235), .second] [(.int v16_224), (.long (0 : Int64))]))
        refine own_go (XS.i2l X234.here hx rfl (hb hby at_268) rfl (Steps.refl _)) ?_
        show own_Fin _ _ _ _ (T234.setTop (mkF m 269 #[iv p1, .val (.long q2), .second, iv p3, iv p4, iv p5, iv p6, iv (2 : Int32), iv v8_211, iv v9_212, iv v10_214, iv v11_216, iv v12_218, iv v13_220, iv v14_222, iv v15_223, iv v16_224, rv b225, .val (.double r18_230), .second, iv (1 : Int32), .val (.long (0 : Int64)), .second, .val (.long v23_232), .second, .val (.long v25_235), .second] [(.long (v16_224.toInt64)), (.long (0 : Int64))]))
        refine own_go (XS.lload X234.here hx rfl (hb hby at_269) rfl (Steps.refl _)) ?_
        show own_Fin _ _ _ _ (T234.setTop (mkF m 271 #[iv p1, .val (.long q2), .second, iv p3, iv p4, iv p5, iv p6, iv (2 : Int32), iv v8_211, iv v9_212, iv v10_214, iv v11_216, iv v12_218, iv v13_220, iv v14_222, iv v15_223, iv v16_224, rv b225, .val (.double r18_230), .second, iv (1 : Int32), .val (.long (0 : Int64)), .second, .val (.long v23_232), .second, .val (.long v25_235), .second] [(.long v25_235), (.long (v16_224.toInt64)), (.long (0 : Int64))]))
        refine own_go (XS.lsub X234.here hx rfl (hb hby at_271) rfl (Steps.refl _)) ?_
        show own_Fin _ _ _ _ (T234.setTop (mkF m 272 #[iv p1, .val (.long q2), .second, iv p3, iv p4, iv p5, iv p6, iv (2 : Int32), iv v8_211, iv v9_212, iv v10_214, iv v11_216, iv v12_218, iv v13_220, iv v14_222, iv v15_223, iv v16_224, rv b225, .val (.double r18_230), .second, iv (1 : Int32), .val (.long (0 : Int64)), .second, .val (.long v23_232), .second, .val (.long v25_235), .second] [(.long ((v16_224.toInt64) - v25_235)), (.long (0 : Int64))]))
        refine own_go (XS.ladd X234.here hx rfl (hb hby at_272) rfl (Steps.refl _)) ?_
        show own_Fin _ _ _ _ (T234.setTop (mkF m 273 #[iv p1, .val (.long q2), .second, iv p3, iv p4, iv p5, iv p6, iv (2 : Int32), iv v8_211, iv v9_212, iv v10_214, iv v11_216, iv v12_218, iv v13_220, iv v14_222, iv v15_223, iv v16_224, rv b225, .val (.double r18_230), .second, iv (1 : Int32), .val (.long (0 : Int64)), .second, .val (.long v23_232), .second, .val (.long v25_235), .second] [(.long ((0 : Int64) + ((v16_224.toInt64) - v25_235)))]))
        refine own_go (XS.lstore X234.here hx rfl (hb hby at_273) rfl rfl (Steps.refl _)) ?_
        show own_Fin _ _ _ _ (T234.setTop (mkF m 275 #[iv p1, .val (.long q2), .second, iv p3, iv p4, iv p5, iv p6, iv (2 : Int32), iv v8_211, iv v9_212, iv v10_214, iv v11_216, iv v12_218, iv v13_220, iv v14_222, iv v15_223, iv v16_224, rv b225, .val (.double r18_230), .second, iv (1 : Int32), .val (.long ((0 : Int64) + ((v16_224.toInt64) - v25_235))), .second, .val (.long v23_232), .second, .val (.long v25_235), .second] []))
        generalize hz_v21_238 : ((0 : Int64) + ((v16_224.toInt64) - v25_235)) = v21_238
        refine own_go (XS.iload X234.here hx rfl (hb hby at_275) rfl (Steps.refl _)) ?_
        show own_Fin _ _ _ _ (T234.setTop (mkF m 277 #[iv p1, .val (.long q2), .second, iv p3, iv p4, iv p5, iv p6, iv (2 : Int32), iv v8_211, iv v9_212, iv v10_214, iv v11_216, iv v12_218, iv v13_220, iv v14_222, iv v15_223, iv v16_224, rv b225, .val (.double r18_230), .second, iv (1 : Int32), .val (.long v21_238), .second, .val (.long v23_232), .second, .val (.long v25_235), .second] [(.int (2 : Int32))]))
        refine own_go (XS.iconst X234.here hx rfl (hb hby at_277) (Steps.refl _)) ?_
        show own_Fin _ _ _ _ (T234.setTop (mkF m 278 #[iv p1, .val (.long q2), .second, iv p3, iv p4, iv p5, iv p6, iv (2 : Int32), iv v8_211, iv v9_212, iv v10_214, iv v11_216, iv v12_218, iv v13_220, iv v14_222, iv v15_223, iv v16_224, rv b225, .val (.double r18_230), .second, iv (1 : Int32), .val (.long v21_238), .second, .val (.long v23_232), .second, .val (.long v25_235), .second] [(.int (3 : Int32)), (.int (2 : Int32))]))
        refine own_go (XS.icmpYes X234.here hx rfl (pc0 := 278) (pc' := 324) rfl (hb hby at_278) rfl (tlt (by decide : (2 : Int32) < (3 : Int32))).1 (by decide) (by decide) (Steps.refl _)) ?_
        show own_Fin _ _ _ _ (T234.setTop (mkF m 324 #[iv p1, .val (.long q2), .second, iv p3, iv p4, iv p5, iv p6, iv (2 : Int32), iv v8_211, iv v9_212, iv v10_214, iv v11_216, iv v12_218, iv v13_220, iv v14_222, iv v15_223, iv v16_224, rv b225, .val (.double r18_230), .second, iv (1 : Int32), .val (.long v21_238), .second, .val (.long v23_232), .second, .val (.long v25_235), .second] []))
        refine own_go (XS.iload X234.here hx rfl (hb hby at_324) rfl (Steps.refl _)) ?_
        show own_Fin _ _ _ _ (T234.setTop (mkF m 326 #[iv p1, .val (.long q2), .second, iv p3, iv p4, iv p5, iv p6, iv (2 : Int32), iv v8_211, iv v9_212, iv v10_214, iv v11_216, iv v12_218, iv v13_220, iv v14_222, iv v15_223, iv v16_224, rv b225, .val (.double r18_230), .second, iv (1 : Int32), .val (.long v21_238), .second, .val (.long v23_232), .second, .val (.long v25_235), .second] [(.int (1 : Int32))]))
        refine own_go (XS.ifNo X234.here hx rfl (hb hby at_326) rfl ((if0 _ _).trans (feq (by decide : ¬ ((1 : Int32) = (0 : Int32)))).1) (Steps.refl _)) ?_
        show own_Fin _ _ _ _ (T234.setTop (mkF m 329 #[iv p1, .val (.long q2), .second, iv p3, iv p4, iv p5, iv p6, iv (2 : Int32), iv v8_211, iv v9_212, iv v10_214, iv v11_216, iv v12_218, iv v13_220, iv v14_222, iv v15_223, iv v16_224, rv b225, .val (.double r18_230), .second, iv (1 : Int32), .val (.long v21_238), .second, .val (.long v23_232), .second, .val (.long v25_235), .second] []))
        refine own_go (XS.dload X234.here hx rfl (hb hby at_329) rfl (Steps.refl _)) ?_
        show own_Fin _ _ _ _ (T234.setTop (mkF m 331 #[iv p1, .val (.long q2), .second, iv p3, iv p4, iv p5, iv p6, iv (2 : Int32), iv v8_211, iv v9_212, iv v10_214, iv v11_216, iv v12_218, iv v13_220, iv v14_222, iv v15_223, iv v16_224, rv b225, .val (.double r18_230), .second, iv (1 : Int32), .val (.long v21_238), .second, .val (.long v23_232), .second, .val (.long v25_235), .second] [(.double r18_230)]))
        refine own_by (X234.ldc2DoubleC hx hown (mvT hZ (hw _ (List.mem_of_getElem? (i := 79) rfl))) (g := (mkF m 331 #[iv p1, .val (.long q2), .second, iv p3, iv p4, iv p5, iv p6, iv (2 : Int32), iv v8_211, iv v9_212, iv v10_214, iv v11_216, iv v12_218, iv v13_220, iv v14_222, iv v15_223, iv v16_224, rv b225, .val (.double r18_230), .second, iv (1 : Int32), .val (.long v21_238), .second, .val (.long v23_232), .second, .val (.long v25_235), .second] [(.double r18_230)])) rfl (hb hby at_331)) ?_
        show own_Fin _ _ _ _ (T234.setTop (mkF m 334 #[iv p1, .val (.long q2), .second, iv p3, iv p4, iv p5, iv p6, iv (2 : Int32), iv v8_211, iv v9_212, iv v10_214, iv v11_216, iv v12_218, iv v13_220, iv v14_222, iv v15_223, iv v16_224, rv b225, .val (.double r18_230), .second, iv (1 : Int32), .val (.long v21_238), .second, .val (.long v23_232), .second, .val (.long v25_235), .second] [(.double (9218868437227405312 : UInt64)), (.double r18_230)]))
        refine own_go (XS.dcmpS X234.here hx rfl (hb hby at_334) rfl (show cmpValue (FP.dcmp r18_230 (9218868437227405312 : UInt64)) .l = (0 : Int32) from (by rw [← hz_r18_230]; exact own_ci (own_z2 (Or.inl cb233)) (by decide))) (Steps.refl _)) ?_
        show own_Fin _ _ _ _ (T234.setTop (mkF m 335 #[iv p1, .val (.long q2), .second, iv p3, iv p4, iv p5, iv p6, iv (2 : Int32), iv v8_211, iv v9_212, iv v10_214, iv v11_216, iv v12_218, iv v13_220, iv v14_222, iv v15_223, iv v16_224, rv b225, .val (.double r18_230), .second, iv (1 : Int32), .val (.long v21_238), .second, .val (.long v23_232), .second, .val (.long v25_235), .second] [(.int (0 : Int32))]))
        refine own_go (XS.ifNo X234.here hx rfl (hb hby at_335) rfl ((if0 _ _).trans (teq (by decide : (0 : Int32) = (0 : Int32))).2) (Steps.refl _)) ?_
        show own_Fin _ _ _ _ (T234.setTop (mkF m 338 #[iv p1, .val (.long q2), .second, iv p3, iv p4, iv p5, iv p6, iv (2 : Int32), iv v8_211, iv v9_212, iv v10_214, iv v11_216, iv v12_218, iv v13_220, iv v14_222, iv v15_223, iv v16_224, rv b225, .val (.double r18_230), .second, iv (1 : Int32), .val (.long v21_238), .second, .val (.long v23_232), .second, .val (.long v25_235), .second] []))
        refine own_go (XS.iconst X234.here hx rfl (hb hby at_338) (Steps.refl _)) ?_
        show own_Fin _ _ _ _ (T234.setTop (mkF m 339 #[iv p1, .val (.long q2), .second, iv p3, iv p4, iv p5, iv p6, iv (2 : Int32), iv v8_211, iv v9_212, iv v10_214, iv v11_216, iv v12_218, iv v13_220, iv v14_222, iv v15_223, iv v16_224, rv b225, .val (.double r18_230), .second, iv (1 : Int32), .val (.long v21_238), .second, .val (.long v23_232), .second, .val (.long v25_235), .second] [(.int (1 : Int32))]))
        refine own_go (XS.goto X234.here hx rfl (pc0 := 339) (pc' := 343) rfl (hb hby at_339) (by decide) (by decide) (Steps.refl _)) ?_
        show own_Fin _ _ _ _ (T234.setTop (mkF m 343 #[iv p1, .val (.long q2), .second, iv p3, iv p4, iv p5, iv p6, iv (2 : Int32), iv v8_211, iv v9_212, iv v10_214, iv v11_216, iv v12_218, iv v13_220, iv v14_222, iv v15_223, iv v16_224, rv b225, .val (.double r18_230), .second, iv (1 : Int32), .val (.long v21_238), .second, .val (.long v23_232), .second, .val (.long v25_235), .second] [(.int (1 : Int32))]))
        obtain ⟨fs239, hr239, hrun239, hended239, hW239, hsame239⟩ := X234.leave (v := some (.int (1 : Int32))) (fun h => by rw [Bd.returns] at h; cases h)
        refine own_done (retN X234 hx (t := .boolean) Bd.returns (by simp) (hb hby at_343) hr239) hrun239 hended239 ⟨_, _, rfl, ?_, ⟨_, rfl⟩, hW239, hsame239.mono (by decide) (by decide)⟩
        show Q0 Z p1 q2 p3 p4 p5 p6 h0 n0 _ T234.heap _
        rw [e234]
        exact ⟨rfl, N234⟩
    · refine own_go (XS.ifYes X231.here hx rfl (pc0 := 205) (pc' := 214) rfl (hb hby at_205) rfl ((if0 _ _).trans (feq (show ¬ ((lcmpW v23_232 (-9223372036854775808 : Int64)) = (0 : Int32)) from (by rw [← hz_v23_232]; exact own_lvne (own_W3 _ _ _ _ _ _ _) cb233))).2) (by decide) (by decide) (Steps.refl _)) ?_
      show own_Fin _ _ _ _ (T231.setTop (mkF m 214 #[iv p1, .val (.long q2), .second, iv p3, iv p4, iv p5, iv p6, iv (2 : Int32), iv v8_211, iv v9_212, iv v10_214, iv v11_216, iv v12_218, iv v13_220, iv v14_222, iv v15_223, iv v16_224, rv b225, .val (.double r18_230), .second, iv (0 : Int32), .val (.long (0 : Int64)), .second, .val (.long v23_232), .second, .unset, .unset] []))
      refine own_go (XS.lload X231.here hx rfl (hb hby at_214) rfl (Steps.refl _)) ?_
      show own_Fin _ _ _ _ (T231.setTop (mkF m 216 #[iv p1, .val (.long q2), .second, iv p3, iv p4, iv p5, iv p6, iv (2 : Int32), iv v8_211, iv v9_212, iv v10_214, iv v11_216, iv v12_218, iv v13_220, iv v14_222, iv v15_223, iv v16_224, rv b225, .val (.double r18_230), .second, iv (0 : Int32), .val (.long (0 : Int64)), .second, .val (.long v23_232), .second, .unset, .unset] [(.long (0 : Int64))]))
      refine own_go (XS.iload X231.here hx rfl (hb hby at_216) rfl (Steps.refl _)) ?_
      show own_Fin _ _ _ _ (T231.setTop (mkF m 218 #[iv p1, .val (.long q2), .second, iv p3, iv p4, iv p5, iv p6, iv (2 : Int32), iv v8_211, iv v9_212, iv v10_214, iv v11_216, iv v12_218, iv v13_220, iv v14_222, iv v15_223, iv v16_224, rv b225, .val (.double r18_230), .second, iv (0 : Int32), .val (.long (0 : Int64)), .second, .val (.long v23_232), .second, .unset, .unset] [(.int v15_223), (.long (0 : Int64))]))
      refine own_go (XS.i2l X231.here hx rfl (hb hby at_218) rfl (Steps.refl _)) ?_
      show own_Fin _ _ _ _ (T231.setTop (mkF m 219 #[iv p1, .val (.long q2), .second, iv p3, iv p4, iv p5, iv p6, iv (2 : Int32), iv v8_211, iv v9_212, iv v10_214, iv v11_216, iv v12_218, iv v13_220, iv v14_222, iv v15_223, iv v16_224, rv b225, .val (.double r18_230), .second, iv (0 : Int32), .val (.long (0 : Int64)), .second, .val (.long v23_232), .second, .unset, .unset] [(.long (v15_223.toInt64)), (.long (0 : Int64))]))
      refine own_go (XS.lload X231.here hx rfl (hb hby at_219) rfl (Steps.refl _)) ?_
      show own_Fin _ _ _ _ (T231.setTop (mkF m 221 #[iv p1, .val (.long q2), .second, iv p3, iv p4, iv p5, iv p6, iv (2 : Int32), iv v8_211, iv v9_212, iv v10_214, iv v11_216, iv v12_218, iv v13_220, iv v14_222, iv v15_223, iv v16_224, rv b225, .val (.double r18_230), .second, iv (0 : Int32), .val (.long (0 : Int64)), .second, .val (.long v23_232), .second, .unset, .unset] [(.long v23_232), (.long (v15_223.toInt64)), (.long (0 : Int64))]))
      refine own_go (XS.lsub X231.here hx rfl (hb hby at_221) rfl (Steps.refl _)) ?_
      show own_Fin _ _ _ _ (T231.setTop (mkF m 222 #[iv p1, .val (.long q2), .second, iv p3, iv p4, iv p5, iv p6, iv (2 : Int32), iv v8_211, iv v9_212, iv v10_214, iv v11_216, iv v12_218, iv v13_220, iv v14_222, iv v15_223, iv v16_224, rv b225, .val (.double r18_230), .second, iv (0 : Int32), .val (.long (0 : Int64)), .second, .val (.long v23_232), .second, .unset, .unset] [(.long ((v15_223.toInt64) - v23_232)), (.long (0 : Int64))]))
      refine own_go (XS.ladd X231.here hx rfl (hb hby at_222) rfl (Steps.refl _)) ?_
      show own_Fin _ _ _ _ (T231.setTop (mkF m 223 #[iv p1, .val (.long q2), .second, iv p3, iv p4, iv p5, iv p6, iv (2 : Int32), iv v8_211, iv v9_212, iv v10_214, iv v11_216, iv v12_218, iv v13_220, iv v14_222, iv v15_223, iv v16_224, rv b225, .val (.double r18_230), .second, iv (0 : Int32), .val (.long (0 : Int64)), .second, .val (.long v23_232), .second, .unset, .unset] [(.long ((0 : Int64) + ((v15_223.toInt64) - v23_232)))]))
      refine own_go (XS.lstore X231.here hx rfl (hb hby at_223) rfl rfl (Steps.refl _)) ?_
      show own_Fin _ _ _ _ (T231.setTop (mkF m 225 #[iv p1, .val (.long q2), .second, iv p3, iv p4, iv p5, iv p6, iv (2 : Int32), iv v8_211, iv v9_212, iv v10_214, iv v11_216, iv v12_218, iv v13_220, iv v14_222, iv v15_223, iv v16_224, rv b225, .val (.double r18_230), .second, iv (0 : Int32), .val (.long ((0 : Int64) + ((v15_223.toInt64) - v23_232))), .second, .val (.long v23_232), .second, .unset, .unset] []))
      generalize hz_v21_240 : ((0 : Int64) + ((v15_223.toInt64) - v23_232)) = v21_240
      refine own_go (XS.iload X231.here hx rfl (hb hby at_225) rfl (Steps.refl _)) ?_
      show own_Fin _ _ _ _ (T231.setTop (mkF m 227 #[iv p1, .val (.long q2), .second, iv p3, iv p4, iv p5, iv p6, iv (2 : Int32), iv v8_211, iv v9_212, iv v10_214, iv v11_216, iv v12_218, iv v13_220, iv v14_222, iv v15_223, iv v16_224, rv b225, .val (.double r18_230), .second, iv (0 : Int32), .val (.long v21_240), .second, .val (.long v23_232), .second, .unset, .unset] [(.int (2 : Int32))]))
      refine own_go (XS.iconst X231.here hx rfl (hb hby at_227) (Steps.refl _)) ?_
      show own_Fin _ _ _ _ (T231.setTop (mkF m 228 #[iv p1, .val (.long q2), .second, iv p3, iv p4, iv p5, iv p6, iv (2 : Int32), iv v8_211, iv v9_212, iv v10_214, iv v11_216, iv v12_218, iv v13_220, iv v14_222, iv v15_223, iv v16_224, rv b225, .val (.double r18_230), .second, iv (0 : Int32), .val (.long v21_240), .second, .val (.long v23_232), .second, .unset, .unset] [(.int (2 : Int32)), (.int (2 : Int32))]))
      refine own_go (XS.icmpNo X231.here hx rfl (hb hby at_228) rfl (flt (by decide : ¬ ((2 : Int32) < (2 : Int32)))).1 (Steps.refl _)) ?_
      show own_Fin _ _ _ _ (T231.setTop (mkF m 231 #[iv p1, .val (.long q2), .second, iv p3, iv p4, iv p5, iv p6, iv (2 : Int32), iv v8_211, iv v9_212, iv v10_214, iv v11_216, iv v12_218, iv v13_220, iv v14_222, iv v15_223, iv v16_224, rv b225, .val (.double r18_230), .second, iv (0 : Int32), .val (.long v21_240), .second, .val (.long v23_232), .second, .unset, .unset] []))
      refine own_go (XS.iconst X231.here hx rfl (hb hby at_231) (Steps.refl _)) ?_
      show own_Fin _ _ _ _ (T231.setTop (mkF m 232 #[iv p1, .val (.long q2), .second, iv p3, iv p4, iv p5, iv p6, iv (2 : Int32), iv v8_211, iv v9_212, iv v10_214, iv v11_216, iv v12_218, iv v13_220, iv v14_222, iv v15_223, iv v16_224, rv b225, .val (.double r18_230), .second, iv (0 : Int32), .val (.long v21_240), .second, .val (.long v23_232), .second, .unset, .unset] [(.int (2 : Int32))]))
      refine own_go (XS.iload X231.here hx rfl (hb hby at_232) rfl (Steps.refl _)) ?_
      show own_Fin _ _ _ _ (T231.setTop (mkF m 234 #[iv p1, .val (.long q2), .second, iv p3, iv p4, iv p5, iv p6, iv (2 : Int32), iv v8_211, iv v9_212, iv v10_214, iv v11_216, iv v12_218, iv v13_220, iv v14_222, iv v15_223, iv v16_224, rv b225, .val (.double r18_230), .second, iv (0 : Int32), .val (.long v21_240), .second, .val (.long v23_232), .second, .unset, .unset] [(.int v12_218), (.int (2 : Int32))]))
      refine own_go (XS.iload X231.here hx rfl (hb hby at_234) rfl (Steps.refl _)) ?_
      show own_Fin _ _ _ _ (T231.setTop (mkF m 236 #[iv p1, .val (.long q2), .second, iv p3, iv p4, iv p5, iv p6, iv (2 : Int32), iv v8_211, iv v9_212, iv v10_214, iv v11_216, iv v12_218, iv v13_220, iv v14_222, iv v15_223, iv v16_224, rv b225, .val (.double r18_230), .second, iv (0 : Int32), .val (.long v21_240), .second, .val (.long v23_232), .second, .unset, .unset] [(.int v13_220), (.int v12_218), (.int (2 : Int32))]))
      refine own_go (XS.iload X231.here hx rfl (hb hby at_236) rfl (Steps.refl _)) ?_
      show own_Fin _ _ _ _ (T231.setTop (mkF m 238 #[iv p1, .val (.long q2), .second, iv p3, iv p4, iv p5, iv p6, iv (2 : Int32), iv v8_211, iv v9_212, iv v10_214, iv v11_216, iv v12_218, iv v13_220, iv v14_222, iv v15_223, iv v16_224, rv b225, .val (.double r18_230), .second, iv (0 : Int32), .val (.long v21_240), .second, .val (.long v23_232), .second, .unset, .unset] [(.int v14_222), (.int v13_220), (.int v12_218), (.int (2 : Int32))]))
      refine own_go (XS.iload X231.here hx rfl (hb hby at_238) rfl (Steps.refl _)) ?_
      show own_Fin _ _ _ _ (T231.setTop (mkF m 240 #[iv p1, .val (.long q2), .second, iv p3, iv p4, iv p5, iv p6, iv (2 : Int32), iv v8_211, iv v9_212, iv v10_214, iv v11_216, iv v12_218, iv v13_220, iv v14_222, iv v15_223, iv v16_224, rv b225, .val (.double r18_230), .second, iv (0 : Int32), .val (.long v21_240), .second, .val (.long v23_232), .second, .unset, .unset] [(.int p4), (.int v14_222), (.int v13_220), (.int v12_218), (.int (2 : Int32))]))
      refine own_go (XS.iload X231.here hx rfl (hb hby at_240) rfl (Steps.refl _)) ?_
      show own_Fin _ _ _ _ (T231.setTop (mkF m 242 #[iv p1, .val (.long q2), .second, iv p3, iv p4, iv p5, iv p6, iv (2 : Int32), iv v8_211, iv v9_212, iv v10_214, iv v11_216, iv v12_218, iv v13_220, iv v14_222, iv v15_223, iv v16_224, rv b225, .val (.double r18_230), .second, iv (0 : Int32), .val (.long v21_240), .second, .val (.long v23_232), .second, .unset, .unset] [(.int p5), (.int p4), (.int v14_222), (.int v13_220), (.int v12_218), (.int (2 : Int32))]))
      refine own_go (XS.iload X231.here hx rfl (hb hby at_242) rfl (Steps.refl _)) ?_
      show own_Fin _ _ _ _ (T231.setTop (mkF m 244 #[iv p1, .val (.long q2), .second, iv p3, iv p4, iv p5, iv p6, iv (2 : Int32), iv v8_211, iv v9_212, iv v10_214, iv v11_216, iv v12_218, iv v13_220, iv v14_222, iv v15_223, iv v16_224, rv b225, .val (.double r18_230), .second, iv (0 : Int32), .val (.long v21_240), .second, .val (.long v23_232), .second, .unset, .unset] [(.int p6), (.int p5), (.int p4), (.int v14_222), (.int v13_220), (.int v12_218), (.int (2 : Int32))]))
      obtain ⟨_, _, ⟨T241, L241, k241, n241⟩, -, X241, ⟨Lc241, hQ241, l241, y241, z241⟩, st241⟩ := Jvm.LawKit.callS X231 hx (y := (⟨"com/example/tidewalk/tidewalk/problems/RunMeasuresBestErrorBeforeChangePinLaw", "best", "(IIIIIII)J"⟩ : MethodName)) hown (mvT hZ (hw _ (List.mem_of_getElem? (i := 72) rfl))) (mvT hZ (hw _ (List.mem_of_getElem? (i := 73) rfl))) (mvT hZ (hw _ (List.mem_of_getElem? (i := 9) rfl))) (mvT hZ (hw _ (List.mem_of_getElem? (i := 74) rfl))) (by decide) (backOf (W := 0) (rmbs l Z a0 hw [] (2 : Int32) v12_218 v13_220 v14_222 p4 p5 p6 T228.heap n0 Z228) hZ (hw _ (List.mem_of_getElem? (i := 74) rfl)) (hw _ (List.mem_of_getElem? (i := 9) rfl)) (by decide) (by decide)) (g := (mkF m 244 #[iv p1, .val (.long q2), .second, iv p3, iv p4, iv p5, iv p6, iv (2 : Int32), iv v8_211, iv v9_212, iv v10_214, iv v11_216, iv v12_218, iv v13_220, iv v14_222, iv v15_223, iv v16_224, rv b225, .val (.double r18_230), .second, iv (0 : Int32), .val (.long v21_240), .second, .val (.long v23_232), .second, .unset, .unset] [(.int p6), (.int p5), (.int p4), (.int v14_222), (.int v13_220), (.int v12_218), (.int (2 : Int32))])) rfl (by rw [hml]; rfl) (argsL := [(.int (2 : Int32)), (.int v12_218), (.int v13_220), (.int v14_222), (.int p4), (.int p5), (.int p6)]) (rest := []) (lenOf pd__28_IIIIIII_29_J rfl) rfl (by show 2 * 0 + _ ≤ _; exact Nat.le_of_eq rfl) (hb hby at_244) (fun _ hv => ⟨rfl, e231, (by decide : 1 + 0 ≤ _), (by decide : 9 + 0 ≤ _)⟩)
      dsimp only [Pt.U, Pt.locs, Pt.cells, Pt.slots] at X241 l241 y241 z241 st241 hQ241
      subst l241 y241 z241
      obtain ⟨rfl, Nq241, e241⟩ := hQ241
      refine own_by st241 ?_
      have N241 := Fr.app N231 Nq241
      show own_Fin _ _ _ _ (T241.setTop (mkF m 247 #[iv p1, .val (.long q2), .second, iv p3, iv p4, iv p5, iv p6, iv (2 : Int32), iv v8_211, iv v9_212, iv v10_214, iv v11_216, iv v12_218, iv v13_220, iv v14_222, iv v15_223, iv v16_224, rv b225, .val (.double r18_230), .second, iv (0 : Int32), .val (.long v21_240), .second, .val (.long v23_232), .second, .unset, .unset] [(.long (own_lv (own_b3 (2 : Int32) v12_218 v13_220 v14_222 p4 p5 p6)))]))
      refine own_go (XS.lstore X241.here hx rfl (hb hby at_247) rfl rfl (Steps.refl _)) ?_
      show own_Fin _ _ _ _ (T241.setTop (mkF m 249 #[iv p1, .val (.long q2), .second, iv p3, iv p4, iv p5, iv p6, iv (2 : Int32), iv v8_211, iv v9_212, iv v10_214, iv v11_216, iv v12_218, iv v13_220, iv v14_222, iv v15_223, iv v16_224, rv b225, .val (.double r18_230), .second, iv (0 : Int32), .val (.long v21_240), .second, .val (.long v23_232), .second, .val (.long (own_lv (own_b3 (2 : Int32) v12_218 v13_220 v14_222 p4 p5 p6))), .second] []))
      generalize hz_v25_242 : (own_lv (own_b3 (2 : Int32) v12_218 v13_220 v14_222 p4 p5 p6)) = v25_242
      refine own_go (XS.lload X241.here hx rfl (hb hby at_249) rfl (Steps.refl _)) ?_
      show own_Fin _ _ _ _ (T241.setTop (mkF m 251 #[iv p1, .val (.long q2), .second, iv p3, iv p4, iv p5, iv p6, iv (2 : Int32), iv v8_211, iv v9_212, iv v10_214, iv v11_216, iv v12_218, iv v13_220, iv v14_222, iv v15_223, iv v16_224, rv b225, .val (.double r18_230), .second, iv (0 : Int32), .val (.long v21_240), .second, .val (.long v23_232), .second, .val (.long v25_242), .second] [(.long v25_242)]))
      refine own_by (X241.ldc2Long hx hown (mvT hZ (hw _ (List.mem_of_getElem? (i := 75) rfl))) (g := (mkF m 251 #[iv p1, .val (.long q2), .second, iv p3, iv p4, iv p5, iv p6, iv (2 : Int32), iv v8_211, iv v9_212, iv v10_214, iv v11_216, iv v12_218, iv v13_220, iv v14_222, iv v15_223, iv v16_224, rv b225, .val (.double r18_230), .second, iv (0 : Int32), .val (.long v21_240), .second, .val (.long v23_232), .second, .val (.long v25_242), .second] [(.long v25_242)])) rfl (hb hby at_251)) ?_
      show own_Fin _ _ _ _ (T241.setTop (mkF m 254 #[iv p1, .val (.long q2), .second, iv p3, iv p4, iv p5, iv p6, iv (2 : Int32), iv v8_211, iv v9_212, iv v10_214, iv v11_216, iv v12_218, iv v13_220, iv v14_222, iv v15_223, iv v16_224, rv b225, .val (.double r18_230), .second, iv (0 : Int32), .val (.long v21_240), .second, .val (.long v23_232), .second, .val (.long v25_242), .second] [(.long (-9223372036854775808 : Int64)), (.long v25_242)]))
      refine own_go (XS.lcmp X241.here hx rfl (hb hby at_254) rfl (Steps.refl _)) ?_
      show own_Fin _ _ _ _ (T241.setTop (mkF m 255 #[iv p1, .val (.long q2), .second, iv p3, iv p4, iv p5, iv p6, iv (2 : Int32), iv v8_211, iv v9_212, iv v10_214, iv v11_216, iv v12_218, iv v13_220, iv v14_222, iv v15_223, iv v16_224, rv b225, .val (.double r18_230), .second, iv (0 : Int32), .val (.long v21_240), .second, .val (.long v23_232), .second, .val (.long v25_242), .second] [(.int (lcmpW v25_242 (-9223372036854775808 : Int64)))]))
      by_cases cb243 : (own_b3 (2 : Int32) v12_218 v13_220 v14_222 p4 p5 p6) = none
      · refine own_go (XS.ifNo X241.here hx rfl (hb hby at_255) rfl ((if0 _ _).trans (teq (show (lcmpW v25_242 (-9223372036854775808 : Int64)) = (0 : Int32) from (by rw [← hz_v25_242]; exact own_lvz cb243))).2) (Steps.refl _)) ?_
        show own_Fin _ _ _ _ (T241.setTop (mkF m 258 #[iv p1, .val (.long q2), .second, iv p3, iv p4, iv p5, iv p6, iv (2 : Int32), iv v8_211, iv v9_212, iv v10_214, iv v11_216, iv v12_218, iv v13_220, iv v14_222, iv v15_223, iv v16_224, rv b225, .val (.double r18_230), .second, iv (0 : Int32), .val (.long v21_240), .second, .val (.long v23_232), .second, .val (.long v25_242), .second] []))
        refine own_go (XS.iconst X241.here hx rfl (hb hby at_258) (Steps.refl _)) ?_
        show own_Fin _ _ _ _ (T241.setTop (mkF m 259 #[iv p1, .val (.long q2), .second, iv p3, iv p4, iv p5, iv p6, iv (2 : Int32), iv v8_211, iv v9_212, iv v10_214, iv v11_216, iv v12_218, iv v13_220, iv v14_222, iv v15_223, iv v16_224, rv b225, .val (.double r18_230), .second, iv (0 : Int32), .val (.long v21_240), .second, .val (.long v23_232), .second, .val (.long v25_242), .second] [(.int (1 : Int32))]))
        refine own_go (XS.istore X241.here hx rfl (hb hby at_259) rfl rfl (Steps.refl _)) ?_
        show own_Fin _ _ _ _ (T241.setTop (mkF m 261 #[iv p1, .val (.long q2), .second, iv p3, iv p4, iv p5, iv p6, iv (2 : Int32), iv v8_211, iv v9_212, iv v10_214, iv v11_216, iv v12_218, iv v13_220, iv v14_222, iv v15_223, iv v16_224, rv b225, .val (.double r18_230), .second, iv (1 : Int32), .val (.long v21_240), .second, .val (.long v23_232), .second, .val (.long v25_242), .second] []))
        refine own_go (XS.goto X241.here hx rfl (pc0 := 261) (pc' := 275) rfl (hb hby at_261) (by decide) (by decide) (Steps.refl _)) ?_
        show own_Fin _ _ _ _ (T241.setTop (mkF m 275 #[iv p1, .val (.long q2), .second, iv p3, iv p4, iv p5, iv p6, iv (2 : Int32), iv v8_211, iv v9_212, iv v10_214, iv v11_216, iv v12_218, iv v13_220, iv v14_222, iv v15_223, iv v16_224, rv b225, .val (.double r18_230), .second, iv (1 : Int32), .val (.long v21_240), .second, .val (.long v23_232), .second, .val (.long v25_242), .second] []))
        refine own_go (XS.iload X241.here hx rfl (hb hby at_275) rfl (Steps.refl _)) ?_
        show own_Fin _ _ _ _ (T241.setTop (mkF m 277 #[iv p1, .val (.long q2), .second, iv p3, iv p4, iv p5, iv p6, iv (2 : Int32), iv v8_211, iv v9_212, iv v10_214, iv v11_216, iv v12_218, iv v13_220, iv v14_222, iv v15_223, iv v16_224, rv b225, .val (.double r18_230), .second, iv (1 : Int32), .val (.long v21_240), .second, .val (.long v23_232), .second, .val (.long v25_242), .second] [(.int (2 : Int32))]))
        refine own_go (XS.iconst X241.here hx rfl (hb hby at_277) (Steps.refl _)) ?_
        show own_Fin _ _ _ _ (T241.setTop (mkF m 278 #[iv p1, .val (.long q2), .second, iv p3, iv p4, iv p5, iv p6, iv (2 : Int32), iv v8_211, iv v9_212, iv v10_214, iv v11_216, iv v12_218, iv v13_220, iv v14_222, iv v15_223, iv v16_224, rv b225, .val (.double r18_230), .second, iv (1 : Int32), .val (.long v21_240), .second, .val (.long v23_232), .second, .val (.long v25_242), .second] [(.int (3 : Int32)), (.int (2 : Int32))]))
        refine own_go (XS.icmpYes X241.here hx rfl (pc0 := 278) (pc' := 324) rfl (hb hby at_278) rfl (tlt (by decide : (2 : Int32) < (3 : Int32))).1 (by decide) (by decide) (Steps.refl _)) ?_
        show own_Fin _ _ _ _ (T241.setTop (mkF m 324 #[iv p1, .val (.long q2), .second, iv p3, iv p4, iv p5, iv p6, iv (2 : Int32), iv v8_211, iv v9_212, iv v10_214, iv v11_216, iv v12_218, iv v13_220, iv v14_222, iv v15_223, iv v16_224, rv b225, .val (.double r18_230), .second, iv (1 : Int32), .val (.long v21_240), .second, .val (.long v23_232), .second, .val (.long v25_242), .second] []))
        refine own_go (XS.iload X241.here hx rfl (hb hby at_324) rfl (Steps.refl _)) ?_
        show own_Fin _ _ _ _ (T241.setTop (mkF m 326 #[iv p1, .val (.long q2), .second, iv p3, iv p4, iv p5, iv p6, iv (2 : Int32), iv v8_211, iv v9_212, iv v10_214, iv v11_216, iv v12_218, iv v13_220, iv v14_222, iv v15_223, iv v16_224, rv b225, .val (.double r18_230), .second, iv (1 : Int32), .val (.long v21_240), .second, .val (.long v23_232), .second, .val (.long v25_242), .second] [(.int (1 : Int32))]))
        refine own_go (XS.ifNo X241.here hx rfl (hb hby at_326) rfl ((if0 _ _).trans (feq (by decide : ¬ ((1 : Int32) = (0 : Int32)))).1) (Steps.refl _)) ?_
        show own_Fin _ _ _ _ (T241.setTop (mkF m 329 #[iv p1, .val (.long q2), .second, iv p3, iv p4, iv p5, iv p6, iv (2 : Int32), iv v8_211, iv v9_212, iv v10_214, iv v11_216, iv v12_218, iv v13_220, iv v14_222, iv v15_223, iv v16_224, rv b225, .val (.double r18_230), .second, iv (1 : Int32), .val (.long v21_240), .second, .val (.long v23_232), .second, .val (.long v25_242), .second] []))
        refine own_go (XS.dload X241.here hx rfl (hb hby at_329) rfl (Steps.refl _)) ?_
        show own_Fin _ _ _ _ (T241.setTop (mkF m 331 #[iv p1, .val (.long q2), .second, iv p3, iv p4, iv p5, iv p6, iv (2 : Int32), iv v8_211, iv v9_212, iv v10_214, iv v11_216, iv v12_218, iv v13_220, iv v14_222, iv v15_223, iv v16_224, rv b225, .val (.double r18_230), .second, iv (1 : Int32), .val (.long v21_240), .second, .val (.long v23_232), .second, .val (.long v25_242), .second] [(.double r18_230)]))
        refine own_by (X241.ldc2DoubleC hx hown (mvT hZ (hw _ (List.mem_of_getElem? (i := 79) rfl))) (g := (mkF m 331 #[iv p1, .val (.long q2), .second, iv p3, iv p4, iv p5, iv p6, iv (2 : Int32), iv v8_211, iv v9_212, iv v10_214, iv v11_216, iv v12_218, iv v13_220, iv v14_222, iv v15_223, iv v16_224, rv b225, .val (.double r18_230), .second, iv (1 : Int32), .val (.long v21_240), .second, .val (.long v23_232), .second, .val (.long v25_242), .second] [(.double r18_230)])) rfl (hb hby at_331)) ?_
        show own_Fin _ _ _ _ (T241.setTop (mkF m 334 #[iv p1, .val (.long q2), .second, iv p3, iv p4, iv p5, iv p6, iv (2 : Int32), iv v8_211, iv v9_212, iv v10_214, iv v11_216, iv v12_218, iv v13_220, iv v14_222, iv v15_223, iv v16_224, rv b225, .val (.double r18_230), .second, iv (1 : Int32), .val (.long v21_240), .second, .val (.long v23_232), .second, .val (.long v25_242), .second] [(.double (9218868437227405312 : UInt64)), (.double r18_230)]))
        refine own_go (XS.dcmpS X241.here hx rfl (hb hby at_334) rfl (show cmpValue (FP.dcmp r18_230 (9218868437227405312 : UInt64)) .l = (0 : Int32) from (by rw [← hz_r18_230]; exact own_ci (own_z2 (Or.inr cb243)) (by decide))) (Steps.refl _)) ?_
        show own_Fin _ _ _ _ (T241.setTop (mkF m 335 #[iv p1, .val (.long q2), .second, iv p3, iv p4, iv p5, iv p6, iv (2 : Int32), iv v8_211, iv v9_212, iv v10_214, iv v11_216, iv v12_218, iv v13_220, iv v14_222, iv v15_223, iv v16_224, rv b225, .val (.double r18_230), .second, iv (1 : Int32), .val (.long v21_240), .second, .val (.long v23_232), .second, .val (.long v25_242), .second] [(.int (0 : Int32))]))
        refine own_go (XS.ifNo X241.here hx rfl (hb hby at_335) rfl ((if0 _ _).trans (teq (by decide : (0 : Int32) = (0 : Int32))).2) (Steps.refl _)) ?_
        show own_Fin _ _ _ _ (T241.setTop (mkF m 338 #[iv p1, .val (.long q2), .second, iv p3, iv p4, iv p5, iv p6, iv (2 : Int32), iv v8_211, iv v9_212, iv v10_214, iv v11_216, iv v12_218, iv v13_220, iv v14_222, iv v15_223, iv v16_224, rv b225, .val (.double r18_230), .second, iv (1 : Int32), .val (.long v21_240), .second, .val (.long v23_232), .second, .val (.long v25_242), .second] []))
        refine own_go (XS.iconst X241.here hx rfl (hb hby at_338) (Steps.refl _)) ?_
        show own_Fin _ _ _ _ (T241.setTop (mkF m 339 #[iv p1, .val (.long q2), .second, iv p3, iv p4, iv p5, iv p6, iv (2 : Int32), iv v8_211, iv v9_212, iv v10_214, iv v11_216, iv v12_218, iv v13_220, iv v14_222, iv v15_223, iv v16_224, rv b225, .val (.double r18_230), .second, iv (1 : Int32), .val (.long v21_240), .second, .val (.long v23_232), .second, .val (.long v25_242), .second] [(.int (1 : Int32))]))
        refine own_go (XS.goto X241.here hx rfl (pc0 := 339) (pc' := 343) rfl (hb hby at_339) (by decide) (by decide) (Steps.refl _)) ?_
        show own_Fin _ _ _ _ (T241.setTop (mkF m 343 #[iv p1, .val (.long q2), .second, iv p3, iv p4, iv p5, iv p6, iv (2 : Int32), iv v8_211, iv v9_212, iv v10_214, iv v11_216, iv v12_218, iv v13_220, iv v14_222, iv v15_223, iv v16_224, rv b225, .val (.double r18_230), .second, iv (1 : Int32), .val (.long v21_240), .second, .val (.long v23_232), .second, .val (.long v25_242), .second] [(.int (1 : Int32))]))
        obtain ⟨fs244, hr244, hrun244, hended244, hW244, hsame244⟩ := X241.leave (v := some (.int (1 : Int32))) (fun h => by rw [Bd.returns] at h; cases h)
        refine own_done (retN X241 hx (t := .boolean) Bd.returns (by simp) (hb hby at_343) hr244) hrun244 hended244 ⟨_, _, rfl, ?_, ⟨_, rfl⟩, hW244, hsame244.mono (by decide) (by decide)⟩
        show Q0 Z p1 q2 p3 p4 p5 p6 h0 n0 _ T241.heap _
        rw [e241]
        exact ⟨rfl, N241⟩
      · refine own_go (XS.ifYes X241.here hx rfl (pc0 := 255) (pc' := 264) rfl (hb hby at_255) rfl ((if0 _ _).trans (feq (show ¬ ((lcmpW v25_242 (-9223372036854775808 : Int64)) = (0 : Int32)) from (by rw [← hz_v25_242]; exact own_lvne (own_W3 _ _ _ _ _ _ _) cb243))).2) (by decide) (by decide) (Steps.refl _)) ?_
        show own_Fin _ _ _ _ (T241.setTop (mkF m 264 #[iv p1, .val (.long q2), .second, iv p3, iv p4, iv p5, iv p6, iv (2 : Int32), iv v8_211, iv v9_212, iv v10_214, iv v11_216, iv v12_218, iv v13_220, iv v14_222, iv v15_223, iv v16_224, rv b225, .val (.double r18_230), .second, iv (0 : Int32), .val (.long v21_240), .second, .val (.long v23_232), .second, .val (.long v25_242), .second] []))
        refine own_go (XS.lload X241.here hx rfl (hb hby at_264) rfl (Steps.refl _)) ?_
        show own_Fin _ _ _ _ (T241.setTop (mkF m 266 #[iv p1, .val (.long q2), .second, iv p3, iv p4, iv p5, iv p6, iv (2 : Int32), iv v8_211, iv v9_212, iv v10_214, iv v11_216, iv v12_218, iv v13_220, iv v14_222, iv v15_223, iv v16_224, rv b225, .val (.double r18_230), .second, iv (0 : Int32), .val (.long v21_240), .second, .val (.long v23_232), .second, .val (.long v25_242), .second] [(.long v21_240)]))
        refine own_go (XS.iload X241.here hx rfl (hb hby at_266) rfl (Steps.refl _)) ?_
        show own_Fin _ _ _ _ (T241.setTop (mkF m 268 #[iv p1, .val (.long q2), .second, iv p3, iv p4, iv p5, iv p6, iv (2 : Int32), iv v8_211, iv v9_212, iv v10_214, iv v11_216, iv v12_218, iv v13_220, iv v14_222, iv v15_223, iv v16_224, rv b225, .val (.double r18_230), .second, iv (0 : Int32), .val (.long v21_240), .second, .val (.long v23_232), .second, .val (.long v25_242), .second] [(.int v16_224), (.long v21_240)]))
        refine own_go (XS.i2l X241.here hx rfl (hb hby at_268) rfl (Steps.refl _)) ?_
        show own_Fin _ _ _ _ (T241.setTop (mkF m 269 #[iv p1, .val (.long q2), .second, iv p3, iv p4, iv p5, iv p6, iv (2 : Int32), iv v8_211, iv v9_212, iv v10_214, iv v11_216, iv v12_218, iv v13_220, iv v14_222, iv v15_223, iv v16_224, rv b225, .val (.double r18_230), .second, iv (0 : Int32), .val (.long v21_240), .second, .val (.long v23_232), .second, .val (.long v25_242), .second] [(.long (v16_224.toInt64)), (.long v21_240)]))
        refine own_go (XS.lload X241.here hx rfl (hb hby at_269) rfl (Steps.refl _)) ?_
        show own_Fin _ _ _ _ (T241.setTop (mkF m 271 #[iv p1, .val (.long q2), .second, iv p3, iv p4, iv p5, iv p6, iv (2 : Int32), iv v8_211, iv v9_212, iv v10_214, iv v11_216, iv v12_218, iv v13_220, iv v14_222, iv v15_223, iv v16_224, rv b225, .val (.double r18_230), .second, iv (0 : Int32), .val (.long v21_240), .second, .val (.long v23_232), .second, .val (.long v25_242), .second] [(.long v25_242), (.long (v16_224.toInt64)), (.long v21_240)]))
        refine own_go (XS.lsub X241.here hx rfl (hb hby at_271) rfl (Steps.refl _)) ?_
        show own_Fin _ _ _ _ (T241.setTop (mkF m 272 #[iv p1, .val (.long q2), .second, iv p3, iv p4, iv p5, iv p6, iv (2 : Int32), iv v8_211, iv v9_212, iv v10_214, iv v11_216, iv v12_218, iv v13_220, iv v14_222, iv v15_223, iv v16_224, rv b225, .val (.double r18_230), .second, iv (0 : Int32), .val (.long v21_240), .second, .val (.long v23_232), .second, .val (.long v25_242), .second] [(.long ((v16_224.toInt64) - v25_242)), (.long v21_240)]))
        refine own_go (XS.ladd X241.here hx rfl (hb hby at_272) rfl (Steps.refl _)) ?_
        show own_Fin _ _ _ _ (T241.setTop (mkF m 273 #[iv p1, .val (.long q2), .second, iv p3, iv p4, iv p5, iv p6, iv (2 : Int32), iv v8_211, iv v9_212, iv v10_214, iv v11_216, iv v12_218, iv v13_220, iv v14_222, iv v15_223, iv v16_224, rv b225, .val (.double r18_230), .second, iv (0 : Int32), .val (.long v21_240), .second, .val (.long v23_232), .second, .val (.long v25_242), .second] [(.long (v21_240 + ((v16_224.toInt64) - v25_242)))]))
        refine own_go (XS.lstore X241.here hx rfl (hb hby at_273) rfl rfl (Steps.refl _)) ?_
        show own_Fin _ _ _ _ (T241.setTop (mkF m 275 #[iv p1, .val (.long q2), .second, iv p3, iv p4, iv p5, iv p6, iv (2 : Int32), iv v8_211, iv v9_212, iv v10_214, iv v11_216, iv v12_218, iv v13_220, iv v14_222, iv v15_223, iv v16_224, rv b225, .val (.double r18_230), .second, iv (0 : Int32), .val (.long (v21_240 + ((v16_224.toInt64) - v25_242))), .second, .val (.long v23_232), .second, .val (.long v25_242), .second] []))
        generalize hz_v21_245 : (v21_240 + ((v16_224.toInt64) - v25_242)) = v21_245
        refine own_go (XS.iload X241.here hx rfl (hb hby at_275) rfl (Steps.refl _)) ?_
        show own_Fin _ _ _ _ (T241.setTop (mkF m 277 #[iv p1, .val (.long q2), .second, iv p3, iv p4, iv p5, iv p6, iv (2 : Int32), iv v8_211, iv v9_212, iv v10_214, iv v11_216, iv v12_218, iv v13_220, iv v14_222, iv v15_223, iv v16_224, rv b225, .val (.double r18_230), .second, iv (0 : Int32), .val (.long v21_245), .second, .val (.long v23_232), .second, .val (.long v25_242), .second] [(.int (2 : Int32))]))
        refine own_go (XS.iconst X241.here hx rfl (hb hby at_277) (Steps.refl _)) ?_
        show own_Fin _ _ _ _ (T241.setTop (mkF m 278 #[iv p1, .val (.long q2), .second, iv p3, iv p4, iv p5, iv p6, iv (2 : Int32), iv v8_211, iv v9_212, iv v10_214, iv v11_216, iv v12_218, iv v13_220, iv v14_222, iv v15_223, iv v16_224, rv b225, .val (.double r18_230), .second, iv (0 : Int32), .val (.long v21_245), .second, .val (.long v23_232), .second, .val (.long v25_242), .second] [(.int (3 : Int32)), (.int (2 : Int32))]))
        refine own_go (XS.icmpYes X241.here hx rfl (pc0 := 278) (pc' := 324) rfl (hb hby at_278) rfl (tlt (by decide : (2 : Int32) < (3 : Int32))).1 (by decide) (by decide) (Steps.refl _)) ?_
        show own_Fin _ _ _ _ (T241.setTop (mkF m 324 #[iv p1, .val (.long q2), .second, iv p3, iv p4, iv p5, iv p6, iv (2 : Int32), iv v8_211, iv v9_212, iv v10_214, iv v11_216, iv v12_218, iv v13_220, iv v14_222, iv v15_223, iv v16_224, rv b225, .val (.double r18_230), .second, iv (0 : Int32), .val (.long v21_245), .second, .val (.long v23_232), .second, .val (.long v25_242), .second] []))
        refine own_go (XS.iload X241.here hx rfl (hb hby at_324) rfl (Steps.refl _)) ?_
        show own_Fin _ _ _ _ (T241.setTop (mkF m 326 #[iv p1, .val (.long q2), .second, iv p3, iv p4, iv p5, iv p6, iv (2 : Int32), iv v8_211, iv v9_212, iv v10_214, iv v11_216, iv v12_218, iv v13_220, iv v14_222, iv v15_223, iv v16_224, rv b225, .val (.double r18_230), .second, iv (0 : Int32), .val (.long v21_245), .second, .val (.long v23_232), .second, .val (.long v25_242), .second] [(.int (0 : Int32))]))
        refine own_go (XS.ifYes X241.here hx rfl (pc0 := 326) (pc' := 344) rfl (hb hby at_326) rfl ((if0 _ _).trans (teq (by decide : (0 : Int32) = (0 : Int32))).1) (by decide) (by decide) (Steps.refl _)) ?_
        show own_Fin _ _ _ _ (T241.setTop (mkF m 344 #[iv p1, .val (.long q2), .second, iv p3, iv p4, iv p5, iv p6, iv (2 : Int32), iv v8_211, iv v9_212, iv v10_214, iv v11_216, iv v12_218, iv v13_220, iv v14_222, iv v15_223, iv v16_224, rv b225, .val (.double r18_230), .second, iv (0 : Int32), .val (.long v21_245), .second, .val (.long v23_232), .second, .val (.long v25_242), .second] []))
        refine own_go (XS.dload X241.here hx rfl (hb hby at_344) rfl (Steps.refl _)) ?_
        show own_Fin _ _ _ _ (T241.setTop (mkF m 346 #[iv p1, .val (.long q2), .second, iv p3, iv p4, iv p5, iv p6, iv (2 : Int32), iv v8_211, iv v9_212, iv v10_214, iv v11_216, iv v12_218, iv v13_220, iv v14_222, iv v15_223, iv v16_224, rv b225, .val (.double r18_230), .second, iv (0 : Int32), .val (.long v21_245), .second, .val (.long v23_232), .second, .val (.long v25_242), .second] [(.double r18_230)]))
        refine own_go (XS.lload X241.here hx rfl (hb hby at_346) rfl (Steps.refl _)) ?_
        show own_Fin _ _ _ _ (T241.setTop (mkF m 348 #[iv p1, .val (.long q2), .second, iv p3, iv p4, iv p5, iv p6, iv (2 : Int32), iv v8_211, iv v9_212, iv v10_214, iv v11_216, iv v12_218, iv v13_220, iv v14_222, iv v15_223, iv v16_224, rv b225, .val (.double r18_230), .second, iv (0 : Int32), .val (.long v21_245), .second, .val (.long v23_232), .second, .val (.long v25_242), .second] [(.long v21_245), (.double r18_230)]))
        refine own_go (XS.l2dS X241.here hx rfl (hb hby at_348) rfl rfl (Steps.refl _)) ?_
        show own_Fin _ _ _ _ (T241.setTop (mkF m 349 #[iv p1, .val (.long q2), .second, iv p3, iv p4, iv p5, iv p6, iv (2 : Int32), iv v8_211, iv v9_212, iv v10_214, iv v11_216, iv v12_218, iv v13_220, iv v14_222, iv v15_223, iv v16_224, rv b225, .val (.double r18_230), .second, iv (0 : Int32), .val (.long v21_245), .second, .val (.long v23_232), .second, .val (.long v25_242), .second] [(.double (FP.l2d v21_245)), (.double r18_230)]))
        refine own_go (XS.iload X241.here hx rfl (hb hby at_349) rfl (Steps.refl _)) ?_
        show own_Fin _ _ _ _ (T241.setTop (mkF m 351 #[iv p1, .val (.long q2), .second, iv p3, iv p4, iv p5, iv p6, iv (2 : Int32), iv v8_211, iv v9_212, iv v10_214, iv v11_216, iv v12_218, iv v13_220, iv v14_222, iv v15_223, iv v16_224, rv b225, .val (.double r18_230), .second, iv (0 : Int32), .val (.long v21_245), .second, .val (.long v23_232), .second, .val (.long v25_242), .second] [(.int (2 : Int32)), (.double (FP.l2d v21_245)), (.double r18_230)]))
        refine own_go (XS.i2dS X241.here hx rfl (hb hby at_351) rfl (i2d_w _) (Steps.refl _)) ?_
        show own_Fin _ _ _ _ (T241.setTop (mkF m 352 #[iv p1, .val (.long q2), .second, iv p3, iv p4, iv p5, iv p6, iv (2 : Int32), iv v8_211, iv v9_212, iv v10_214, iv v11_216, iv v12_218, iv v13_220, iv v14_222, iv v15_223, iv v16_224, rv b225, .val (.double r18_230), .second, iv (0 : Int32), .val (.long v21_245), .second, .val (.long v23_232), .second, .val (.long v25_242), .second] [(.double (FP.l2d (2 : Int32).toInt64)), (.double (FP.l2d v21_245)), (.double r18_230)]))
        refine own_go (XS.ddivS X241.here hx rfl (hb hby at_352) rfl (ddiv_out (l2d_fin _).noNaN (l2d_fin _) (own_nz (by decide))) rfl (Steps.refl _)) ?_
        show own_Fin _ _ _ _ (T241.setTop (mkF m 353 #[iv p1, .val (.long q2), .second, iv p3, iv p4, iv p5, iv p6, iv (2 : Int32), iv v8_211, iv v9_212, iv v10_214, iv v11_216, iv v12_218, iv v13_220, iv v14_222, iv v15_223, iv v16_224, rv b225, .val (.double r18_230), .second, iv (0 : Int32), .val (.long v21_245), .second, .val (.long v23_232), .second, .val (.long v25_242), .second] [(.double (FP.ddiv (FP.l2d v21_245) (FP.l2d (2 : Int32).toInt64))), (.double r18_230)]))
        refine own_go (XS.dcmpS X241.here hx rfl (hb hby at_353) rfl (show cmpValue (FP.dcmp r18_230 (FP.ddiv (FP.l2d v21_245) (FP.l2d (2 : Int32).toInt64))) .l = (0 : Int32) from (by rw [← hz_r18_230, ← hz_v21_245, ← hz_v21_240, ← hz_v23_232, ← hz_v25_242]; exact own_ce (own_e2 cb233 cb243) (by decide))) (Steps.refl _)) ?_
        show own_Fin _ _ _ _ (T241.setTop (mkF m 354 #[iv p1, .val (.long q2), .second, iv p3, iv p4, iv p5, iv p6, iv (2 : Int32), iv v8_211, iv v9_212, iv v10_214, iv v11_216, iv v12_218, iv v13_220, iv v14_222, iv v15_223, iv v16_224, rv b225, .val (.double r18_230), .second, iv (0 : Int32), .val (.long v21_245), .second, .val (.long v23_232), .second, .val (.long v25_242), .second] [(.int (0 : Int32))]))
        refine own_go (XS.ifNo X241.here hx rfl (hb hby at_354) rfl ((if0 _ _).trans (teq (by decide : (0 : Int32) = (0 : Int32))).2) (Steps.refl _)) ?_
        show own_Fin _ _ _ _ (T241.setTop (mkF m 357 #[iv p1, .val (.long q2), .second, iv p3, iv p4, iv p5, iv p6, iv (2 : Int32), iv v8_211, iv v9_212, iv v10_214, iv v11_216, iv v12_218, iv v13_220, iv v14_222, iv v15_223, iv v16_224, rv b225, .val (.double r18_230), .second, iv (0 : Int32), .val (.long v21_245), .second, .val (.long v23_232), .second, .val (.long v25_242), .second] []))
        refine own_go (XS.iconst X241.here hx rfl (hb hby at_357) (Steps.refl _)) ?_
        show own_Fin _ _ _ _ (T241.setTop (mkF m 358 #[iv p1, .val (.long q2), .second, iv p3, iv p4, iv p5, iv p6, iv (2 : Int32), iv v8_211, iv v9_212, iv v10_214, iv v11_216, iv v12_218, iv v13_220, iv v14_222, iv v15_223, iv v16_224, rv b225, .val (.double r18_230), .second, iv (0 : Int32), .val (.long v21_245), .second, .val (.long v23_232), .second, .val (.long v25_242), .second] [(.int (1 : Int32))]))
        refine own_go (XS.goto X241.here hx rfl (pc0 := 358) (pc' := 362) rfl (hb hby at_358) (by decide) (by decide) (Steps.refl _)) ?_
        show own_Fin _ _ _ _ (T241.setTop (mkF m 362 #[iv p1, .val (.long q2), .second, iv p3, iv p4, iv p5, iv p6, iv (2 : Int32), iv v8_211, iv v9_212, iv v10_214, iv v11_216, iv v12_218, iv v13_220, iv v14_222, iv v15_223, iv v16_224, rv b225, .val (.double r18_230), .second, iv (0 : Int32), .val (.long v21_245), .second, .val (.long v23_232), .second, .val (.long v25_242), .second] [(.int (1 : Int32))]))
        obtain ⟨fs246, hr246, hrun246, hended246, hW246, hsame246⟩ := X241.leave (v := some (.int (1 : Int32))) (fun h => by rw [Bd.returns] at h; cases h)
        refine own_done (retN X241 hx (t := .boolean) Bd.returns (by simp) (hb hby at_362) hr246) hrun246 hended246 ⟨_, _, rfl, ?_, ⟨_, rfl⟩, hW246, hsame246.mono (by decide) (by decide)⟩
        show Q0 Z p1 q2 p3 p4 p5 p6 h0 n0 _ T241.heap _
        rw [e241]
        exact ⟨rfl, N241⟩
  · show own_Fin _ _ _ _ (s₁.setTop (mkF m 9 #[iv p1, .val (.long q2), .second, iv p3, iv p4, iv p5, iv p6, iv (3 : Int32), .unset, .unset, .unset, .unset, .unset, .unset, .unset, .unset, .unset, .unset, .unset, .unset, .unset, .unset, .unset, .unset, .unset, .unset, .unset] []))
    refine own_go (XS.iloadN X0.here hx rfl (hb hby at_9) rfl (Steps.refl _)) ?_
    show own_Fin _ _ _ _ (s₁.setTop (mkF m 10 #[iv p1, .val (.long q2), .second, iv p3, iv p4, iv p5, iv p6, iv (3 : Int32), .unset, .unset, .unset, .unset, .unset, .unset, .unset, .unset, .unset, .unset, .unset, .unset, .unset, .unset, .unset, .unset, .unset, .unset, .unset] [(.int p1)]))
    refine own_go (XS.iconst X0.here hx rfl (hb hby at_10) (Steps.refl _)) ?_
    show own_Fin _ _ _ _ (s₁.setTop (mkF m 11 #[iv p1, .val (.long q2), .second, iv p3, iv p4, iv p5, iv p6, iv (3 : Int32), .unset, .unset, .unset, .unset, .unset, .unset, .unset, .unset, .unset, .unset, .unset, .unset, .unset, .unset, .unset, .unset, .unset, .unset, .unset] [(.int (2 : Int32)), (.int p1)]))
    refine own_go (XS.iushr X0.here hx rfl (hb hby at_11) rfl (Steps.refl _)) ?_
    show own_Fin _ _ _ _ (s₁.setTop (mkF m 12 #[iv p1, .val (.long q2), .second, iv p3, iv p4, iv p5, iv p6, iv (3 : Int32), .unset, .unset, .unset, .unset, .unset, .unset, .unset, .unset, .unset, .unset, .unset, .unset, .unset, .unset, .unset, .unset, .unset, .unset, .unset] [(.int ((p1.toUInt32 >>> ((2 : Int32) &&& 31).toUInt32).toInt32))]))
    refine own_go (XS.iconst X0.here hx rfl (hb hby at_12) (Steps.refl _)) ?_
    show own_Fin _ _ _ _ (s₁.setTop (mkF m 13 #[iv p1, .val (.long q2), .second, iv p3, iv p4, iv p5, iv p6, iv (3 : Int32), .unset, .unset, .unset, .unset, .unset, .unset, .unset, .unset, .unset, .unset, .unset, .unset, .unset, .unset, .unset, .unset, .unset, .unset, .unset] [(.int (3 : Int32)), (.int ((p1.toUInt32 >>> ((2 : Int32) &&& 31).toUInt32).toInt32))]))
    refine own_go (XS.iand X0.here hx rfl (hb hby at_13) rfl (Steps.refl _)) ?_
    show own_Fin _ _ _ _ (s₁.setTop (mkF m 14 #[iv p1, .val (.long q2), .second, iv p3, iv p4, iv p5, iv p6, iv (3 : Int32), .unset, .unset, .unset, .unset, .unset, .unset, .unset, .unset, .unset, .unset, .unset, .unset, .unset, .unset, .unset, .unset, .unset, .unset, .unset] [(.int (((p1.toUInt32 >>> ((2 : Int32) &&& 31).toUInt32).toInt32) &&& (3 : Int32)))]))
    refine own_go (XS.istore X0.here hx rfl (hb hby at_14) rfl rfl (Steps.refl _)) ?_
    show own_Fin _ _ _ _ (s₁.setTop (mkF m 16 #[iv p1, .val (.long q2), .second, iv p3, iv p4, iv p5, iv p6, iv (3 : Int32), iv (((p1.toUInt32 >>> ((2 : Int32) &&& 31).toUInt32).toInt32) &&& (3 : Int32)), .unset, .unset, .unset, .unset, .unset, .unset, .unset, .unset, .unset, .unset, .unset, .unset, .unset, .unset, .unset, .unset, .unset, .unset] []))
    generalize hz_v8_247 : (((p1.toUInt32 >>> ((2 : Int32) &&& 31).toUInt32).toInt32) &&& (3 : Int32)) = v8_247
    refine own_go (XS.iloadN X0.here hx rfl (hb hby at_16) rfl (Steps.refl _)) ?_
    show own_Fin _ _ _ _ (s₁.setTop (mkF m 17 #[iv p1, .val (.long q2), .second, iv p3, iv p4, iv p5, iv p6, iv (3 : Int32), iv v8_247, .unset, .unset, .unset, .unset, .unset, .unset, .unset, .unset, .unset, .unset, .unset, .unset, .unset, .unset, .unset, .unset, .unset, .unset] [(.int p1)]))
    refine own_go (XS.iconst X0.here hx rfl (hb hby at_17) (Steps.refl _)) ?_
    show own_Fin _ _ _ _ (s₁.setTop (mkF m 18 #[iv p1, .val (.long q2), .second, iv p3, iv p4, iv p5, iv p6, iv (3 : Int32), iv v8_247, .unset, .unset, .unset, .unset, .unset, .unset, .unset, .unset, .unset, .unset, .unset, .unset, .unset, .unset, .unset, .unset, .unset, .unset] [(.int (4 : Int32)), (.int p1)]))
    refine own_go (XS.iushr X0.here hx rfl (hb hby at_18) rfl (Steps.refl _)) ?_
    show own_Fin _ _ _ _ (s₁.setTop (mkF m 19 #[iv p1, .val (.long q2), .second, iv p3, iv p4, iv p5, iv p6, iv (3 : Int32), iv v8_247, .unset, .unset, .unset, .unset, .unset, .unset, .unset, .unset, .unset, .unset, .unset, .unset, .unset, .unset, .unset, .unset, .unset, .unset] [(.int ((p1.toUInt32 >>> ((4 : Int32) &&& 31).toUInt32).toInt32))]))
    refine own_go (XS.iconst X0.here hx rfl (hb hby at_19) (Steps.refl _)) ?_
    show own_Fin _ _ _ _ (s₁.setTop (mkF m 20 #[iv p1, .val (.long q2), .second, iv p3, iv p4, iv p5, iv p6, iv (3 : Int32), iv v8_247, .unset, .unset, .unset, .unset, .unset, .unset, .unset, .unset, .unset, .unset, .unset, .unset, .unset, .unset, .unset, .unset, .unset, .unset] [(.int (3 : Int32)), (.int ((p1.toUInt32 >>> ((4 : Int32) &&& 31).toUInt32).toInt32))]))
    refine own_go (XS.iand X0.here hx rfl (hb hby at_20) rfl (Steps.refl _)) ?_
    show own_Fin _ _ _ _ (s₁.setTop (mkF m 21 #[iv p1, .val (.long q2), .second, iv p3, iv p4, iv p5, iv p6, iv (3 : Int32), iv v8_247, .unset, .unset, .unset, .unset, .unset, .unset, .unset, .unset, .unset, .unset, .unset, .unset, .unset, .unset, .unset, .unset, .unset, .unset] [(.int (((p1.toUInt32 >>> ((4 : Int32) &&& 31).toUInt32).toInt32) &&& (3 : Int32)))]))
    refine own_go (XS.istore X0.here hx rfl (hb hby at_21) rfl rfl (Steps.refl _)) ?_
    show own_Fin _ _ _ _ (s₁.setTop (mkF m 23 #[iv p1, .val (.long q2), .second, iv p3, iv p4, iv p5, iv p6, iv (3 : Int32), iv v8_247, iv (((p1.toUInt32 >>> ((4 : Int32) &&& 31).toUInt32).toInt32) &&& (3 : Int32)), .unset, .unset, .unset, .unset, .unset, .unset, .unset, .unset, .unset, .unset, .unset, .unset, .unset, .unset, .unset, .unset, .unset] []))
    generalize hz_v9_248 : (((p1.toUInt32 >>> ((4 : Int32) &&& 31).toUInt32).toInt32) &&& (3 : Int32)) = v9_248
    refine own_go (XS.iload X0.here hx rfl (hb hby at_23) rfl (Steps.refl _)) ?_
    show own_Fin _ _ _ _ (s₁.setTop (mkF m 25 #[iv p1, .val (.long q2), .second, iv p3, iv p4, iv p5, iv p6, iv (3 : Int32), iv v8_247, iv v9_248, .unset, .unset, .unset, .unset, .unset, .unset, .unset, .unset, .unset, .unset, .unset, .unset, .unset, .unset, .unset, .unset, .unset] [(.int v8_247)]))
    refine own_go (XS.iload X0.here hx rfl (hb hby at_25) rfl (Steps.refl _)) ?_
    show own_Fin _ _ _ _ (s₁.setTop (mkF m 27 #[iv p1, .val (.long q2), .second, iv p3, iv p4, iv p5, iv p6, iv (3 : Int32), iv v8_247, iv v9_248, .unset, .unset, .unset, .unset, .unset, .unset, .unset, .unset, .unset, .unset, .unset, .unset, .unset, .unset, .unset, .unset, .unset] [(.int v9_248), (.int v8_247)]))
    obtain ⟨_, _, ⟨T249, L249, k249, n249⟩, -, X249, ⟨Lc249, hQ249, l249, y249, z249⟩, st249⟩ := Jvm.LawKit.callS X0 hx (y := (⟨"java/lang/Math", "min", "(II)I"⟩ : MethodName)) hown (mvT hZ (hw _ (List.mem_of_getElem? (i := 0) rfl))) (mvT hZ (hw _ (List.mem_of_getElem? (i := 1) rfl))) (mvT hZ (hw _ (List.mem_of_getElem? (i := 2) rfl))) (mvT hZ (hw _ (List.mem_of_getElem? (i := 3) rfl))) (by decide) (backOf (W := 0) (rmmi l Z a0 hw [] v8_247 v9_248 h0 n0 Z0) hZ (hw _ (List.mem_of_getElem? (i := 3) rfl)) (hw _ (List.mem_of_getElem? (i := 2) rfl)) (by decide) (by decide)) (g := (mkF m 27 #[iv p1, .val (.long q2), .second, iv p3, iv p4, iv p5, iv p6, iv (3 : Int32), iv v8_247, iv v9_248, .unset, .unset, .unset, .unset, .unset, .unset, .unset, .unset, .unset, .unset, .unset, .unset, .unset, .unset, .unset, .unset, .unset] [(.int v9_248), (.int v8_247)])) rfl (by rw [hml]; rfl) (argsL := [(.int v8_247), (.int v9_248)]) (rest := []) (lenOf pd__28_II_29_I rfl) rfl (by show 2 * 0 + _ ≤ _; exact Nat.le_of_eq rfl) (hb hby at_27) (fun _ hv => ⟨rfl, e0, (by decide : 0 + 0 ≤ _), (by decide : 0 + 0 ≤ _)⟩)
    dsimp only [Pt.U, Pt.locs, Pt.cells, Pt.slots] at X249 l249 y249 z249 st249 hQ249
    subst l249 y249 z249
    obtain ⟨rfl, Nq249, e249⟩ := hQ249
    refine own_by st249 ?_
    have N249 := Fr.app N0 Nq249
    show own_Fin _ _ _ _ (T249.setTop (mkF m 30 #[iv p1, .val (.long q2), .second, iv p3, iv p4, iv p5, iv p6, iv (3 : Int32), iv v8_247, iv v9_248, .unset, .unset, .unset, .unset, .unset, .unset, .unset, .unset, .unset, .unset, .unset, .unset, .unset, .unset, .unset, .unset, .unset] [(.int (own_mn v8_247 v9_248))]))
    refine own_go (XS.istore X249.here hx rfl (hb hby at_30) rfl rfl (Steps.refl _)) ?_
    show own_Fin _ _ _ _ (T249.setTop (mkF m 32 #[iv p1, .val (.long q2), .second, iv p3, iv p4, iv p5, iv p6, iv (3 : Int32), iv v8_247, iv v9_248, iv (own_mn v8_247 v9_248), .unset, .unset, .unset, .unset, .unset, .unset, .unset, .unset, .unset, .unset, .unset, .unset, .unset, .unset, .unset, .unset] []))
    generalize hz_v10_250 : (own_mn v8_247 v9_248) = v10_250
    refine own_go (XS.iload X249.here hx rfl (hb hby at_32) rfl (Steps.refl _)) ?_
    show own_Fin _ _ _ _ (T249.setTop (mkF m 34 #[iv p1, .val (.long q2), .second, iv p3, iv p4, iv p5, iv p6, iv (3 : Int32), iv v8_247, iv v9_248, iv v10_250, .unset, .unset, .unset, .unset, .unset, .unset, .unset, .unset, .unset, .unset, .unset, .unset, .unset, .unset, .unset, .unset] [(.int v8_247)]))
    refine own_go (XS.iload X249.here hx rfl (hb hby at_34) rfl (Steps.refl _)) ?_
    show own_Fin _ _ _ _ (T249.setTop (mkF m 36 #[iv p1, .val (.long q2), .second, iv p3, iv p4, iv p5, iv p6, iv (3 : Int32), iv v8_247, iv v9_248, iv v10_250, .unset, .unset, .unset, .unset, .unset, .unset, .unset, .unset, .unset, .unset, .unset, .unset, .unset, .unset, .unset, .unset] [(.int v9_248), (.int v8_247)]))
    obtain ⟨_, _, ⟨T251, L251, k251, n251⟩, -, X251, ⟨Lc251, hQ251, l251, y251, z251⟩, st251⟩ := Jvm.LawKit.callS X249 hx (y := (⟨"java/lang/Math", "max", "(II)I"⟩ : MethodName)) hown (mvT hZ (hw _ (List.mem_of_getElem? (i := 4) rfl))) (mvT hZ (hw _ (List.mem_of_getElem? (i := 5) rfl))) (mvT hZ (hw _ (List.mem_of_getElem? (i := 2) rfl))) (mvT hZ (hw _ (List.mem_of_getElem? (i := 6) rfl))) (by decide) (backOf (W := 0) (rmma l Z a0 hw [] v8_247 v9_248 h0 n0 Z0) hZ (hw _ (List.mem_of_getElem? (i := 6) rfl)) (hw _ (List.mem_of_getElem? (i := 2) rfl)) (by decide) (by decide)) (g := (mkF m 36 #[iv p1, .val (.long q2), .second, iv p3, iv p4, iv p5, iv p6, iv (3 : Int32), iv v8_247, iv v9_248, iv v10_250, .unset, .unset, .unset, .unset, .unset, .unset, .unset, .unset, .unset, .unset, .unset, .unset, .unset, .unset, .unset, .unset] [(.int v9_248), (.int v8_247)])) rfl (by rw [hml]; rfl) (argsL := [(.int v8_247), (.int v9_248)]) (rest := []) (lenOf pd__28_II_29_I rfl) rfl (by show 2 * 0 + _ ≤ _; exact Nat.le_of_eq rfl) (hb hby at_36) (fun _ hv => ⟨rfl, e249, (by decide : 0 + 0 ≤ _), (by decide : 0 + 0 ≤ _)⟩)
    dsimp only [Pt.U, Pt.locs, Pt.cells, Pt.slots] at X251 l251 y251 z251 st251 hQ251
    subst l251 y251 z251
    obtain ⟨rfl, Nq251, e251⟩ := hQ251
    refine own_by st251 ?_
    have N251 := Fr.app N249 Nq251
    show own_Fin _ _ _ _ (T251.setTop (mkF m 39 #[iv p1, .val (.long q2), .second, iv p3, iv p4, iv p5, iv p6, iv (3 : Int32), iv v8_247, iv v9_248, iv v10_250, .unset, .unset, .unset, .unset, .unset, .unset, .unset, .unset, .unset, .unset, .unset, .unset, .unset, .unset, .unset, .unset] [(.int (own_mi v8_247 v9_248))]))
    refine own_go (XS.istore X251.here hx rfl (hb hby at_39) rfl rfl (Steps.refl _)) ?_
    show own_Fin _ _ _ _ (T251.setTop (mkF m 41 #[iv p1, .val (.long q2), .second, iv p3, iv p4, iv p5, iv p6, iv (3 : Int32), iv v8_247, iv v9_248, iv v10_250, iv (own_mi v8_247 v9_248), .unset, .unset, .unset, .unset, .unset, .unset, .unset, .unset, .unset, .unset, .unset, .unset, .unset, .unset, .unset] []))
    generalize hz_v11_252 : (own_mi v8_247 v9_248) = v11_252
    refine own_go (XS.iconst X251.here hx rfl (hb hby at_41) (Steps.refl _)) ?_
    show own_Fin _ _ _ _ (T251.setTop (mkF m 42 #[iv p1, .val (.long q2), .second, iv p3, iv p4, iv p5, iv p6, iv (3 : Int32), iv v8_247, iv v9_248, iv v10_250, iv v11_252, .unset, .unset, .unset, .unset, .unset, .unset, .unset, .unset, .unset, .unset, .unset, .unset, .unset, .unset, .unset] [(.int (0 : Int32))]))
    refine own_go (XS.iload X251.here hx rfl (hb hby at_42) rfl (Steps.refl _)) ?_
    show own_Fin _ _ _ _ (T251.setTop (mkF m 44 #[iv p1, .val (.long q2), .second, iv p3, iv p4, iv p5, iv p6, iv (3 : Int32), iv v8_247, iv v9_248, iv v10_250, iv v11_252, .unset, .unset, .unset, .unset, .unset, .unset, .unset, .unset, .unset, .unset, .unset, .unset, .unset, .unset, .unset] [(.int v10_250), (.int (0 : Int32))]))
    refine own_go (XS.iload X251.here hx rfl (hb hby at_44) rfl (Steps.refl _)) ?_
    show own_Fin _ _ _ _ (T251.setTop (mkF m 46 #[iv p1, .val (.long q2), .second, iv p3, iv p4, iv p5, iv p6, iv (3 : Int32), iv v8_247, iv v9_248, iv v10_250, iv v11_252, .unset, .unset, .unset, .unset, .unset, .unset, .unset, .unset, .unset, .unset, .unset, .unset, .unset, .unset, .unset] [(.int v11_252), (.int v10_250), (.int (0 : Int32))]))
    refine own_go (XS.iload X251.here hx rfl (hb hby at_46) rfl (Steps.refl _)) ?_
    show own_Fin _ _ _ _ (T251.setTop (mkF m 48 #[iv p1, .val (.long q2), .second, iv p3, iv p4, iv p5, iv p6, iv (3 : Int32), iv v8_247, iv v9_248, iv v10_250, iv v11_252, .unset, .unset, .unset, .unset, .unset, .unset, .unset, .unset, .unset, .unset, .unset, .unset, .unset, .unset, .unset] [(.int (3 : Int32)), (.int v11_252), (.int v10_250), (.int (0 : Int32))]))
    obtain ⟨_, _, ⟨T253, L253, k253, n253⟩, -, X253, ⟨Lc253, hQ253, l253, y253, z253⟩, st253⟩ := Jvm.LawKit.callS X251 hx (y := (⟨"com/example/tidewalk/tidewalk/problems/RunMeasuresBestErrorBeforeChangePinLaw", "slot", "(IIII)I"⟩ : MethodName)) hown (mvT hZ (hw _ (List.mem_of_getElem? (i := 7) rfl))) (mvT hZ (hw _ (List.mem_of_getElem? (i := 8) rfl))) (mvT hZ (hw _ (List.mem_of_getElem? (i := 9) rfl))) (mvT hZ (hw _ (List.mem_of_getElem? (i := 10) rfl))) (by decide) (backOf (W := 0) (rmsl l Z a0 hw [] (0 : Int32) v10_250 v11_252 (3 : Int32) h0 n0 Z0) hZ (hw _ (List.mem_of_getElem? (i := 10) rfl)) (hw _ (List.mem_of_getElem? (i := 9) rfl)) (by decide) (by decide)) (g := (mkF m 48 #[iv p1, .val (.long q2), .second, iv p3, iv p4, iv p5, iv p6, iv (3 : Int32), iv v8_247, iv v9_248, iv v10_250, iv v11_252, .unset, .unset, .unset, .unset, .unset, .unset, .unset, .unset, .unset, .unset, .unset, .unset, .unset, .unset, .unset] [(.int (3 : Int32)), (.int v11_252), (.int v10_250), (.int (0 : Int32))])) rfl (by rw [hml]; rfl) (argsL := [(.int (0 : Int32)), (.int v10_250), (.int v11_252), (.int (3 : Int32))]) (rest := []) (lenOf pd__28_IIII_29_I rfl) rfl (by show 2 * 0 + _ ≤ _; exact Nat.le_of_eq rfl) (hb hby at_48) (fun _ hv => ⟨rfl, e251, (by decide : 0 + 0 ≤ _), (by decide : 0 + 0 ≤ _)⟩)
    dsimp only [Pt.U, Pt.locs, Pt.cells, Pt.slots] at X253 l253 y253 z253 st253 hQ253
    subst l253 y253 z253
    obtain ⟨rfl, Nq253, e253⟩ := hQ253
    refine own_by st253 ?_
    have N253 := Fr.app N251 Nq253
    show own_Fin _ _ _ _ (T253.setTop (mkF m 51 #[iv p1, .val (.long q2), .second, iv p3, iv p4, iv p5, iv p6, iv (3 : Int32), iv v8_247, iv v9_248, iv v10_250, iv v11_252, .unset, .unset, .unset, .unset, .unset, .unset, .unset, .unset, .unset, .unset, .unset, .unset, .unset, .unset, .unset] [(.int (own_sl (0 : Int32) v10_250 v11_252 (3 : Int32)))]))
    refine own_go (XS.istore X253.here hx rfl (hb hby at_51) rfl rfl (Steps.refl _)) ?_
    show own_Fin _ _ _ _ (T253.setTop (mkF m 53 #[iv p1, .val (.long q2), .second, iv p3, iv p4, iv p5, iv p6, iv (3 : Int32), iv v8_247, iv v9_248, iv v10_250, iv v11_252, iv (own_sl (0 : Int32) v10_250 v11_252 (3 : Int32)), .unset, .unset, .unset, .unset, .unset, .unset, .unset, .unset, .unset, .unset, .unset, .unset, .unset, .unset] []))
    generalize hz_v12_254 : (own_sl (0 : Int32) v10_250 v11_252 (3 : Int32)) = v12_254
    refine own_go (XS.iconst X253.here hx rfl (hb hby at_53) (Steps.refl _)) ?_
    show own_Fin _ _ _ _ (T253.setTop (mkF m 54 #[iv p1, .val (.long q2), .second, iv p3, iv p4, iv p5, iv p6, iv (3 : Int32), iv v8_247, iv v9_248, iv v10_250, iv v11_252, iv v12_254, .unset, .unset, .unset, .unset, .unset, .unset, .unset, .unset, .unset, .unset, .unset, .unset, .unset, .unset] [(.int (1 : Int32))]))
    refine own_go (XS.iload X253.here hx rfl (hb hby at_54) rfl (Steps.refl _)) ?_
    show own_Fin _ _ _ _ (T253.setTop (mkF m 56 #[iv p1, .val (.long q2), .second, iv p3, iv p4, iv p5, iv p6, iv (3 : Int32), iv v8_247, iv v9_248, iv v10_250, iv v11_252, iv v12_254, .unset, .unset, .unset, .unset, .unset, .unset, .unset, .unset, .unset, .unset, .unset, .unset, .unset, .unset] [(.int v10_250), (.int (1 : Int32))]))
    refine own_go (XS.iload X253.here hx rfl (hb hby at_56) rfl (Steps.refl _)) ?_
    show own_Fin _ _ _ _ (T253.setTop (mkF m 58 #[iv p1, .val (.long q2), .second, iv p3, iv p4, iv p5, iv p6, iv (3 : Int32), iv v8_247, iv v9_248, iv v10_250, iv v11_252, iv v12_254, .unset, .unset, .unset, .unset, .unset, .unset, .unset, .unset, .unset, .unset, .unset, .unset, .unset, .unset] [(.int v11_252), (.int v10_250), (.int (1 : Int32))]))
    refine own_go (XS.iload X253.here hx rfl (hb hby at_58) rfl (Steps.refl _)) ?_
    show own_Fin _ _ _ _ (T253.setTop (mkF m 60 #[iv p1, .val (.long q2), .second, iv p3, iv p4, iv p5, iv p6, iv (3 : Int32), iv v8_247, iv v9_248, iv v10_250, iv v11_252, iv v12_254, .unset, .unset, .unset, .unset, .unset, .unset, .unset, .unset, .unset, .unset, .unset, .unset, .unset, .unset] [(.int (3 : Int32)), (.int v11_252), (.int v10_250), (.int (1 : Int32))]))
    obtain ⟨_, _, ⟨T255, L255, k255, n255⟩, -, X255, ⟨Lc255, hQ255, l255, y255, z255⟩, st255⟩ := Jvm.LawKit.callS X253 hx (y := (⟨"com/example/tidewalk/tidewalk/problems/RunMeasuresBestErrorBeforeChangePinLaw", "slot", "(IIII)I"⟩ : MethodName)) hown (mvT hZ (hw _ (List.mem_of_getElem? (i := 7) rfl))) (mvT hZ (hw _ (List.mem_of_getElem? (i := 8) rfl))) (mvT hZ (hw _ (List.mem_of_getElem? (i := 9) rfl))) (mvT hZ (hw _ (List.mem_of_getElem? (i := 10) rfl))) (by decide) (backOf (W := 0) (rmsl l Z a0 hw [] (1 : Int32) v10_250 v11_252 (3 : Int32) h0 n0 Z0) hZ (hw _ (List.mem_of_getElem? (i := 10) rfl)) (hw _ (List.mem_of_getElem? (i := 9) rfl)) (by decide) (by decide)) (g := (mkF m 60 #[iv p1, .val (.long q2), .second, iv p3, iv p4, iv p5, iv p6, iv (3 : Int32), iv v8_247, iv v9_248, iv v10_250, iv v11_252, iv v12_254, .unset, .unset, .unset, .unset, .unset, .unset, .unset, .unset, .unset, .unset, .unset, .unset, .unset, .unset] [(.int (3 : Int32)), (.int v11_252), (.int v10_250), (.int (1 : Int32))])) rfl (by rw [hml]; rfl) (argsL := [(.int (1 : Int32)), (.int v10_250), (.int v11_252), (.int (3 : Int32))]) (rest := []) (lenOf pd__28_IIII_29_I rfl) rfl (by show 2 * 0 + _ ≤ _; exact Nat.le_of_eq rfl) (hb hby at_60) (fun _ hv => ⟨rfl, e253, (by decide : 0 + 0 ≤ _), (by decide : 0 + 0 ≤ _)⟩)
    dsimp only [Pt.U, Pt.locs, Pt.cells, Pt.slots] at X255 l255 y255 z255 st255 hQ255
    subst l255 y255 z255
    obtain ⟨rfl, Nq255, e255⟩ := hQ255
    refine own_by st255 ?_
    have N255 := Fr.app N253 Nq255
    show own_Fin _ _ _ _ (T255.setTop (mkF m 63 #[iv p1, .val (.long q2), .second, iv p3, iv p4, iv p5, iv p6, iv (3 : Int32), iv v8_247, iv v9_248, iv v10_250, iv v11_252, iv v12_254, .unset, .unset, .unset, .unset, .unset, .unset, .unset, .unset, .unset, .unset, .unset, .unset, .unset, .unset] [(.int (own_sl (1 : Int32) v10_250 v11_252 (3 : Int32)))]))
    refine own_go (XS.istore X255.here hx rfl (hb hby at_63) rfl rfl (Steps.refl _)) ?_
    show own_Fin _ _ _ _ (T255.setTop (mkF m 65 #[iv p1, .val (.long q2), .second, iv p3, iv p4, iv p5, iv p6, iv (3 : Int32), iv v8_247, iv v9_248, iv v10_250, iv v11_252, iv v12_254, iv (own_sl (1 : Int32) v10_250 v11_252 (3 : Int32)), .unset, .unset, .unset, .unset, .unset, .unset, .unset, .unset, .unset, .unset, .unset, .unset, .unset] []))
    generalize hz_v13_256 : (own_sl (1 : Int32) v10_250 v11_252 (3 : Int32)) = v13_256
    refine own_go (XS.iconst X255.here hx rfl (hb hby at_65) (Steps.refl _)) ?_
    show own_Fin _ _ _ _ (T255.setTop (mkF m 66 #[iv p1, .val (.long q2), .second, iv p3, iv p4, iv p5, iv p6, iv (3 : Int32), iv v8_247, iv v9_248, iv v10_250, iv v11_252, iv v12_254, iv v13_256, .unset, .unset, .unset, .unset, .unset, .unset, .unset, .unset, .unset, .unset, .unset, .unset, .unset] [(.int (2 : Int32))]))
    refine own_go (XS.iload X255.here hx rfl (hb hby at_66) rfl (Steps.refl _)) ?_
    show own_Fin _ _ _ _ (T255.setTop (mkF m 68 #[iv p1, .val (.long q2), .second, iv p3, iv p4, iv p5, iv p6, iv (3 : Int32), iv v8_247, iv v9_248, iv v10_250, iv v11_252, iv v12_254, iv v13_256, .unset, .unset, .unset, .unset, .unset, .unset, .unset, .unset, .unset, .unset, .unset, .unset, .unset] [(.int v10_250), (.int (2 : Int32))]))
    refine own_go (XS.iload X255.here hx rfl (hb hby at_68) rfl (Steps.refl _)) ?_
    show own_Fin _ _ _ _ (T255.setTop (mkF m 70 #[iv p1, .val (.long q2), .second, iv p3, iv p4, iv p5, iv p6, iv (3 : Int32), iv v8_247, iv v9_248, iv v10_250, iv v11_252, iv v12_254, iv v13_256, .unset, .unset, .unset, .unset, .unset, .unset, .unset, .unset, .unset, .unset, .unset, .unset, .unset] [(.int v11_252), (.int v10_250), (.int (2 : Int32))]))
    refine own_go (XS.iload X255.here hx rfl (hb hby at_70) rfl (Steps.refl _)) ?_
    show own_Fin _ _ _ _ (T255.setTop (mkF m 72 #[iv p1, .val (.long q2), .second, iv p3, iv p4, iv p5, iv p6, iv (3 : Int32), iv v8_247, iv v9_248, iv v10_250, iv v11_252, iv v12_254, iv v13_256, .unset, .unset, .unset, .unset, .unset, .unset, .unset, .unset, .unset, .unset, .unset, .unset, .unset] [(.int (3 : Int32)), (.int v11_252), (.int v10_250), (.int (2 : Int32))]))
    obtain ⟨_, _, ⟨T257, L257, k257, n257⟩, -, X257, ⟨Lc257, hQ257, l257, y257, z257⟩, st257⟩ := Jvm.LawKit.callS X255 hx (y := (⟨"com/example/tidewalk/tidewalk/problems/RunMeasuresBestErrorBeforeChangePinLaw", "slot", "(IIII)I"⟩ : MethodName)) hown (mvT hZ (hw _ (List.mem_of_getElem? (i := 7) rfl))) (mvT hZ (hw _ (List.mem_of_getElem? (i := 8) rfl))) (mvT hZ (hw _ (List.mem_of_getElem? (i := 9) rfl))) (mvT hZ (hw _ (List.mem_of_getElem? (i := 10) rfl))) (by decide) (backOf (W := 0) (rmsl l Z a0 hw [] (2 : Int32) v10_250 v11_252 (3 : Int32) h0 n0 Z0) hZ (hw _ (List.mem_of_getElem? (i := 10) rfl)) (hw _ (List.mem_of_getElem? (i := 9) rfl)) (by decide) (by decide)) (g := (mkF m 72 #[iv p1, .val (.long q2), .second, iv p3, iv p4, iv p5, iv p6, iv (3 : Int32), iv v8_247, iv v9_248, iv v10_250, iv v11_252, iv v12_254, iv v13_256, .unset, .unset, .unset, .unset, .unset, .unset, .unset, .unset, .unset, .unset, .unset, .unset, .unset] [(.int (3 : Int32)), (.int v11_252), (.int v10_250), (.int (2 : Int32))])) rfl (by rw [hml]; rfl) (argsL := [(.int (2 : Int32)), (.int v10_250), (.int v11_252), (.int (3 : Int32))]) (rest := []) (lenOf pd__28_IIII_29_I rfl) rfl (by show 2 * 0 + _ ≤ _; exact Nat.le_of_eq rfl) (hb hby at_72) (fun _ hv => ⟨rfl, e255, (by decide : 0 + 0 ≤ _), (by decide : 0 + 0 ≤ _)⟩)
    dsimp only [Pt.U, Pt.locs, Pt.cells, Pt.slots] at X257 l257 y257 z257 st257 hQ257
    subst l257 y257 z257
    obtain ⟨rfl, Nq257, e257⟩ := hQ257
    refine own_by st257 ?_
    have N257 := Fr.app N255 Nq257
    show own_Fin _ _ _ _ (T257.setTop (mkF m 75 #[iv p1, .val (.long q2), .second, iv p3, iv p4, iv p5, iv p6, iv (3 : Int32), iv v8_247, iv v9_248, iv v10_250, iv v11_252, iv v12_254, iv v13_256, .unset, .unset, .unset, .unset, .unset, .unset, .unset, .unset, .unset, .unset, .unset, .unset, .unset] [(.int (own_sl (2 : Int32) v10_250 v11_252 (3 : Int32)))]))
    refine own_go (XS.istore X257.here hx rfl (hb hby at_75) rfl rfl (Steps.refl _)) ?_
    show own_Fin _ _ _ _ (T257.setTop (mkF m 77 #[iv p1, .val (.long q2), .second, iv p3, iv p4, iv p5, iv p6, iv (3 : Int32), iv v8_247, iv v9_248, iv v10_250, iv v11_252, iv v12_254, iv v13_256, iv (own_sl (2 : Int32) v10_250 v11_252 (3 : Int32)), .unset, .unset, .unset, .unset, .unset, .unset, .unset, .unset, .unset, .unset, .unset, .unset] []))
    generalize hz_v14_258 : (own_sl (2 : Int32) v10_250 v11_252 (3 : Int32)) = v14_258
    refine own_go (XS.lloadN X257.here hx rfl (hb hby at_77) rfl (Steps.refl _)) ?_
    show own_Fin _ _ _ _ (T257.setTop (mkF m 78 #[iv p1, .val (.long q2), .second, iv p3, iv p4, iv p5, iv p6, iv (3 : Int32), iv v8_247, iv v9_248, iv v10_250, iv v11_252, iv v12_254, iv v13_256, iv v14_258, .unset, .unset, .unset, .unset, .unset, .unset, .unset, .unset, .unset, .unset, .unset, .unset] [(.long q2)]))
    refine own_go (XS.l2i X257.here hx rfl (hb hby at_78) rfl (Steps.refl _)) ?_
    show own_Fin _ _ _ _ (T257.setTop (mkF m 79 #[iv p1, .val (.long q2), .second, iv p3, iv p4, iv p5, iv p6, iv (3 : Int32), iv v8_247, iv v9_248, iv v10_250, iv v11_252, iv v12_254, iv v13_256, iv v14_258, .unset, .unset, .unset, .unset, .unset, .unset, .unset, .unset, .unset, .unset, .unset, .unset] [(.int (q2.toInt32))]))
    refine own_go (XS.istore X257.here hx rfl (hb hby at_79) rfl rfl (Steps.refl _)) ?_
    show own_Fin _ _ _ _ (T257.setTop (mkF m 81 #[iv p1, .val (.long q2), .second, iv p3, iv p4, iv p5, iv p6, iv (3 : Int32), iv v8_247, iv v9_248, iv v10_250, iv v11_252, iv v12_254, iv v13_256, iv v14_258, iv (q2.toInt32), .unset, .unset, .unset, .unset, .unset, .unset, .unset, .unset, .unset, .unset, .unset] []))
    generalize hz_v15_259 : (q2.toInt32) = v15_259
    refine own_go (XS.lloadN X257.here hx rfl (hb hby at_81) rfl (Steps.refl _)) ?_
    show own_Fin _ _ _ _ (T257.setTop (mkF m 82 #[iv p1, .val (.long q2), .second, iv p3, iv p4, iv p5, iv p6, iv (3 : Int32), iv v8_247, iv v9_248, iv v10_250, iv v11_252, iv v12_254, iv v13_256, iv v14_258, iv v15_259, .unset, .unset, .unset, .unset, .unset, .unset, .unset, .unset, .unset, .unset, .unset] [(.long q2)]))
    refine own_go (XS.bipush X257.here hx rfl (hb hby at_82) (Steps.refl _)) ?_
    show own_Fin _ _ _ _ (T257.setTop (mkF m 84 #[iv p1, .val (.long q2), .second, iv p3, iv p4, iv p5, iv p6, iv (3 : Int32), iv v8_247, iv v9_248, iv v10_250, iv v11_252, iv v12_254, iv v13_256, iv v14_258, iv v15_259, .unset, .unset, .unset, .unset, .unset, .unset, .unset, .unset, .unset, .unset, .unset] [(.int (32 : Int32)), (.long q2)]))
    refine own_go (XS.lushr X257.here hx rfl (hb hby at_84) rfl (Steps.refl _)) ?_
    show own_Fin _ _ _ _ (T257.setTop (mkF m 85 #[iv p1, .val (.long q2), .second, iv p3, iv p4, iv p5, iv p6, iv (3 : Int32), iv v8_247, iv v9_248, iv v10_250, iv v11_252, iv v12_254, iv v13_256, iv v14_258, iv v15_259, .unset, .unset, .unset, .unset, .unset, .unset, .unset, .unset, .unset, .unset, .unset] [(.long ((q2.toUInt64 >>> ((32 : Int32) &&& 0x3f).toInt64.toUInt64).toInt64))]))
    refine own_go (XS.l2i X257.here hx rfl (hb hby at_85) rfl (Steps.refl _)) ?_
    show own_Fin _ _ _ _ (T257.setTop (mkF m 86 #[iv p1, .val (.long q2), .second, iv p3, iv p4, iv p5, iv p6, iv (3 : Int32), iv v8_247, iv v9_248, iv v10_250, iv v11_252, iv v12_254, iv v13_256, iv v14_258, iv v15_259, .unset, .unset, .unset, .unset, .unset, .unset, .unset, .unset, .unset, .unset, .unset] [(.int (((q2.toUInt64 >>> ((32 : Int32) &&& 0x3f).toInt64.toUInt64).toInt64).toInt32))]))
    refine own_go (XS.istore X257.here hx rfl (hb hby at_86) rfl rfl (Steps.refl _)) ?_
    show own_Fin _ _ _ _ (T257.setTop (mkF m 88 #[iv p1, .val (.long q2), .second, iv p3, iv p4, iv p5, iv p6, iv (3 : Int32), iv v8_247, iv v9_248, iv v10_250, iv v11_252, iv v12_254, iv v13_256, iv v14_258, iv v15_259, iv (((q2.toUInt64 >>> ((32 : Int32) &&& 0x3f).toInt64.toUInt64).toInt64).toInt32), .unset, .unset, .unset, .unset, .unset, .unset, .unset, .unset, .unset, .unset] []))
    generalize hz_v16_260 : (((q2.toUInt64 >>> ((32 : Int32) &&& 0x3f).toInt64.toUInt64).toInt64).toInt32) = v16_260
    obtain ⟨T261, h261, X261, e261, E261, A261, D261, U261, st261⟩ := newO X257 hx hZ hown (hw _ (List.mem_of_getElem? (i := 11) rfl)) (hw _ (List.mem_of_getElem? (i := 12) rfl)) (hw _ (List.mem_of_getElem? (i := 13) rfl)) e257 (g := (mkF m 88 #[iv p1, .val (.long q2), .second, iv p3, iv p4, iv p5, iv p6, iv (3 : Int32), iv v8_247, iv v9_248, iv v10_250, iv v11_252, iv v12_254, iv v13_256, iv v14_258, iv v15_259, iv v16_260, .unset, .unset, .unset, .unset, .unset, .unset, .unset, .unset, .unset, .unset] [])) rfl (hb hby at_88) (by decide) (by decide)
    obtain ⟨b261, g261⟩ : ∃ z, z = h0.size := ⟨_, rfl⟩
    rw [← g261] at A261 D261 U261 st261
    refine own_by st261 ?_
    have g_b261 : n0 ≤ b261 := Nat.le_trans Z0 (Nat.le_of_eq g261.symm)
    have Z261 : n0 ≤ h261.size := Nat.le_trans Z0 E261.1
    have E_b261 := A261
    have F_optimum_b261 : Fld Z h261 b261 "com/example/tidewalk/tidewalk/problems/RunMeasures" "optimum" "D" (.double (0 : UInt64)) := D261 (Or.inl (hw _ (List.mem_of_getElem? (i := 22) rfl))) (ty := .double) (by decide)
    have F_optimumKnown_b261 : Fld Z h261 b261 "com/example/tidewalk/tidewalk/problems/RunMeasures" "optimumKnown" "Z" (.int (0 : Int32)) := D261 (Or.inl (hw _ (List.mem_of_getElem? (i := 24) rfl))) (ty := .boolean) (by decide)
    have F_best_b261 : Fld Z h261 b261 "com/example/tidewalk/tidewalk/problems/RunMeasures" "best" "D" (.double (0 : UInt64)) := D261 (Or.inl (hw _ (List.mem_of_getElem? (i := 27) rfl))) (ty := .double) (by decide)
    have F_periods_b261 : Fld Z h261 b261 "com/example/tidewalk/tidewalk/problems/RunMeasures" "periods" "I" (.int (0 : Int32)) := D261 (Or.inl (hw _ (List.mem_of_getElem? (i := 37) rfl))) (ty := .int) (by decide)
    have F_evaluations_b261 : Fld Z h261 b261 "com/example/tidewalk/tidewalk/problems/RunMeasures" "evaluations" "J" (.long (0 : Int64)) := D261 (Or.inl (hw _ (List.mem_of_getElem? (i := 55) rfl))) (ty := .long) (by decide)
    have F_performanceSum_b261 : Fld Z h261 b261 "com/example/tidewalk/tidewalk/problems/RunMeasures" "performanceSum" "D" (.double (0 : UInt64)) := D261 (Or.inl (hw _ (List.mem_of_getElem? (i := 60) rfl))) (ty := .double) (by decide)
    have F_errorSum_b261 : Fld Z h261 b261 "com/example/tidewalk/tidewalk/problems/RunMeasures" "errorSum" "D" (.double (0 : UInt64)) := D261 (Or.inl (hw _ (List.mem_of_getElem? (i := 62) rfl))) (ty := .double) (by decide)
    have F_optimumSum_b261 : Fld Z h261 b261 "com/example/tidewalk/tidewalk/problems/RunMeasures" "optimumSum" "D" (.double (0 : UInt64)) := D261 (Or.inl (hw _ (List.mem_of_getElem? (i := 64) rfl))) (ty := .double) (by decide)
    have F_closedBestErrorSum_b261 : Fld Z h261 b261 "com/example/tidewalk/tidewalk/problems/RunMeasures" "closedBestErrorSum" "D" (.double (0 : UInt64)) := D261 (Or.inl (hw _ (List.mem_of_getElem? (i := 71) rfl))) (ty := .double) (by decide)
    show own_Fin _ _ _ _ (T261.setTop (mkF m 91 #[iv p1, .val (.long q2), .second, iv p3, iv p4, iv p5, iv p6, iv (3 : Int32), iv v8_247, iv v9_248, iv v10_250, iv v11_252, iv v12_254, iv v13_256, iv v14_258, iv v15_259, iv v16_260, .unset, .unset, .unset, .unset, .unset, .unset, .unset, .unset, .unset, .unset] [(.ref b261)]))
    refine own_go (XS.dup X261.here hx rfl (hb hby at_91) rfl rfl (Steps.refl _)) ?_
    show own_Fin _ _ _ _ (T261.setTop (mkF m 92 #[iv p1, .val (.long q2), .second, iv p3, iv p4, iv p5, iv p6, iv (3 : Int32), iv v8_247, iv v9_248, iv v10_250, iv v11_252, iv v12_254, iv v13_256, iv v14_258, iv v15_259, iv v16_260, .unset, .unset, .unset, .unset, .unset, .unset, .unset, .unset, .unset, .unset] [(.ref b261), (.ref b261)]))
    obtain ⟨_, _, ⟨T262, L262, k262, n262⟩, -, X262, ⟨Lc262, hQ262, l262, y262, z262⟩, st262⟩ := X261.specialBack hx (y := (⟨"com/example/tidewalk/tidewalk/problems/RunMeasures", "<init>", "()V"⟩ : MethodName)) rfl hown (mvT hZ (hw _ (List.mem_of_getElem? (i := 14) rfl))) (mvT hZ (hw _ (List.mem_of_getElem? (i := 15) rfl))) (mvT hZ (hw _ (List.mem_of_getElem? (i := 16) rfl))) (by decide) (backOf (W := 1) (rmini l Z a0 hw [] b261 h261 n0 Z261 E_b261 F_periods_b261 F_closedBestErrorSum_b261 F_optimum_b261 F_best_b261 F_optimumKnown_b261 F_evaluations_b261 F_performanceSum_b261 F_errorSum_b261 F_optimumSum_b261 g_b261) hZ (hw _ (List.mem_of_getElem? (i := 16) rfl)) (hw _ (List.mem_of_getElem? (i := 13) rfl)) (by decide) (by decide)) (g := (mkF m 92 #[iv p1, .val (.long q2), .second, iv p3, iv p4, iv p5, iv p6, iv (3 : Int32), iv v8_247, iv v9_248, iv v10_250, iv v11_252, iv v12_254, iv v13_256, iv v14_258, iv v15_259, iv v16_260, .unset, .unset, .unset, .unset, .unset, .unset, .unset, .unset, .unset, .unset] [(.ref b261), (.ref b261)])) rfl (by rw [hml]; rfl) (Steps.refl _) (a := b261) (argsL := []) (rest := [(.ref b261)]) (lenOf pd__28__29_V rfl) rfl (by show 2 * 0 + _ ≤ _; exact Nat.le_of_eq rfl) (hb hby at_92) (fun _ hv => ⟨rfl, e261, (by decide : 1 + 0 ≤ _), (by decide : 9 + 0 ≤ _)⟩)
    dsimp only [Pt.U, Pt.locs, Pt.cells, Pt.slots] at X262 l262 y262 z262 st262 hQ262
    subst l262 y262 z262
    refine own_go st262 ?_
    obtain ⟨rfl, Nq262, K262, r262_0, r262_1, r262_2, r262_3, r262_4, r262_5, r262_6, r262_7, r262_8, r262_9⟩ := hQ262
    have E_b261_262 := E_b261.keep K262
    have Z262 : n0 ≤ T262.heap.size := Nat.le_trans Z261 K262.1
    have N262 := Fr.app N257 Nq262
    show own_Fin _ _ _ _ (T262.setTop (mkF m 95 #[iv p1, .val (.long q2), .second, iv p3, iv p4, iv p5, iv p6, iv (3 : Int32), iv v8_247, iv v9_248, iv v10_250, iv v11_252, iv v12_254, iv v13_256, iv v14_258, iv v15_259, iv v16_260, .unset, .unset, .unset, .unset, .unset, .unset, .unset, .unset, .unset, .unset] [(.ref b261)]))
    refine own_go (XS.astore X262.here hx rfl (hb hby at_95) rfl rfl rfl (Steps.refl _)) ?_
    show own_Fin _ _ _ _ (T262.setTop (mkF m 97 #[iv p1, .val (.long q2), .second, iv p3, iv p4, iv p5, iv p6, iv (3 : Int32), iv v8_247, iv v9_248, iv v10_250, iv v11_252, iv v12_254, iv v13_256, iv v14_258, iv v15_259, iv v16_260, rv b261, .unset, .unset, .unset, .unset, .unset, .unset, .unset, .unset, .unset] []))
    refine own_go (XS.aload X262.here hx rfl (hb hby at_97) rfl rfl (Steps.refl _)) ?_
    show own_Fin _ _ _ _ (T262.setTop (mkF m 99 #[iv p1, .val (.long q2), .second, iv p3, iv p4, iv p5, iv p6, iv (3 : Int32), iv v8_247, iv v9_248, iv v10_250, iv v11_252, iv v12_254, iv v13_256, iv v14_258, iv v15_259, iv v16_260, rv b261, .unset, .unset, .unset, .unset, .unset, .unset, .unset, .unset, .unset] [(.ref b261)]))
    refine own_go (XS.iconst X262.here hx rfl (hb hby at_99) (Steps.refl _)) ?_
    show own_Fin _ _ _ _ (T262.setTop (mkF m 100 #[iv p1, .val (.long q2), .second, iv p3, iv p4, iv p5, iv p6, iv (3 : Int32), iv v8_247, iv v9_248, iv v10_250, iv v11_252, iv v12_254, iv v13_256, iv v14_258, iv v15_259, iv v16_260, rv b261, .unset, .unset, .unset, .unset, .unset, .unset, .unset, .unset, .unset] [(.int (1 : Int32)), (.ref b261)]))
    refine own_go (XS.iload X262.here hx rfl (hb hby at_100) rfl (Steps.refl _)) ?_
    show own_Fin _ _ _ _ (T262.setTop (mkF m 102 #[iv p1, .val (.long q2), .second, iv p3, iv p4, iv p5, iv p6, iv (3 : Int32), iv v8_247, iv v9_248, iv v10_250, iv v11_252, iv v12_254, iv v13_256, iv v14_258, iv v15_259, iv v16_260, rv b261, .unset, .unset, .unset, .unset, .unset, .unset, .unset, .unset, .unset] [(.int v15_259), (.int (1 : Int32)), (.ref b261)]))
    refine own_go (XS.iload X262.here hx rfl (hb hby at_102) rfl (Steps.refl _)) ?_
    show own_Fin _ _ _ _ (T262.setTop (mkF m 104 #[iv p1, .val (.long q2), .second, iv p3, iv p4, iv p5, iv p6, iv (3 : Int32), iv v8_247, iv v9_248, iv v10_250, iv v11_252, iv v12_254, iv v13_256, iv v14_258, iv v15_259, iv v16_260, rv b261, .unset, .unset, .unset, .unset, .unset, .unset, .unset, .unset, .unset] [(.int v12_254), (.int v15_259), (.int (1 : Int32)), (.ref b261)]))
    refine own_go (XS.iload X262.here hx rfl (hb hby at_104) rfl (Steps.refl _)) ?_
    show own_Fin _ _ _ _ (T262.setTop (mkF m 106 #[iv p1, .val (.long q2), .second, iv p3, iv p4, iv p5, iv p6, iv (3 : Int32), iv v8_247, iv v9_248, iv v10_250, iv v11_252, iv v12_254, iv v13_256, iv v14_258, iv v15_259, iv v16_260, rv b261, .unset, .unset, .unset, .unset, .unset, .unset, .unset, .unset, .unset] [(.int v13_256), (.int v12_254), (.int v15_259), (.int (1 : Int32)), (.ref b261)]))
    refine own_go (XS.iload X262.here hx rfl (hb hby at_106) rfl (Steps.refl _)) ?_
    show own_Fin _ _ _ _ (T262.setTop (mkF m 108 #[iv p1, .val (.long q2), .second, iv p3, iv p4, iv p5, iv p6, iv (3 : Int32), iv v8_247, iv v9_248, iv v10_250, iv v11_252, iv v12_254, iv v13_256, iv v14_258, iv v15_259, iv v16_260, rv b261, .unset, .unset, .unset, .unset, .unset, .unset, .unset, .unset, .unset] [(.int v14_258), (.int v13_256), (.int v12_254), (.int v15_259), (.int (1 : Int32)), (.ref b261)]))
    refine own_go (XS.iload X262.here hx rfl (hb hby at_108) rfl (Steps.refl _)) ?_
    show own_Fin _ _ _ _ (T262.setTop (mkF m 110 #[iv p1, .val (.long q2), .second, iv p3, iv p4, iv p5, iv p6, iv (3 : Int32), iv v8_247, iv v9_248, iv v10_250, iv v11_252, iv v12_254, iv v13_256, iv v14_258, iv v15_259, iv v16_260, rv b261, .unset, .unset, .unset, .unset, .unset, .unset, .unset, .unset, .unset] [(.int p4), (.int v14_258), (.int v13_256), (.int v12_254), (.int v15_259), (.int (1 : Int32)), (.ref b261)]))
    refine own_go (XS.iload X262.here hx rfl (hb hby at_110) rfl (Steps.refl _)) ?_
    show own_Fin _ _ _ _ (T262.setTop (mkF m 112 #[iv p1, .val (.long q2), .second, iv p3, iv p4, iv p5, iv p6, iv (3 : Int32), iv v8_247, iv v9_248, iv v10_250, iv v11_252, iv v12_254, iv v13_256, iv v14_258, iv v15_259, iv v16_260, rv b261, .unset, .unset, .unset, .unset, .unset, .unset, .unset, .unset, .unset] [(.int p5), (.int p4), (.int v14_258), (.int v13_256), (.int v12_254), (.int v15_259), (.int (1 : Int32)), (.ref b261)]))
    refine own_go (XS.iload X262.here hx rfl (hb hby at_112) rfl (Steps.refl _)) ?_
    show own_Fin _ _ _ _ (T262.setTop (mkF m 114 #[iv p1, .val (.long q2), .second, iv p3, iv p4, iv p5, iv p6, iv (3 : Int32), iv v8_247, iv v9_248, iv v10_250, iv v11_252, iv v12_254, iv v13_256, iv v14_258, iv v15_259, iv v16_260, rv b261, .unset, .unset, .unset, .unset, .unset, .unset, .unset, .unset, .unset] [(.int p6), (.int p5), (.int p4), (.int v14_258), (.int v13_256), (.int v12_254), (.int v15_259), (.int (1 : Int32)), (.ref b261)]))
    obtain ⟨_, _, ⟨T263, L263, k263, n263⟩, -, X263, ⟨Lc263, hQ263, l263, y263, z263⟩, st263⟩ := Jvm.LawKit.callS X262 hx (y := (⟨"com/example/tidewalk/tidewalk/problems/RunMeasuresBestErrorBeforeChangePinLaw", "phase", "(Lcom/example/tidewalk/tidewalk/problems/RunMeasures;IIIIIIII)V"⟩ : MethodName)) hown (mvT hZ (hw _ (List.mem_of_getElem? (i := 28) rfl))) (mvT hZ (hw _ (List.mem_of_getElem? (i := 29) rfl))) (mvT hZ (hw _ (List.mem_of_getElem? (i := 9) rfl))) (mvT hZ (hw _ (List.mem_of_getElem? (i := 30) rfl))) (by decide) (backOf (W := 0) (rmph_0 l Z a0 hw [] b261 (1 : Int32) v15_259 v12_254 v13_256 v14_258 p4 p5 p6 (9221120237041090560 : UInt64) (0 : Int64) (0 : UInt64) (0 : UInt64) (0 : UInt64) T262.heap n0 Z262 r262_0 r262_1 r262_2 r262_3 r262_4 r262_5 r262_6 r262_7 r262_8 r262_9 g_b261 (by decide +kernel) (by decide +kernel) (by decide +kernel)) hZ (hw _ (List.mem_of_getElem? (i := 30) rfl)) (hw _ (List.mem_of_getElem? (i := 9) rfl)) (by decide) (by decide)) (g := (mkF m 114 #[iv p1, .val (.long q2), .second, iv p3, iv p4, iv p5, iv p6, iv (3 : Int32), iv v8_247, iv v9_248, iv v10_250, iv v11_252, iv v12_254, iv v13_256, iv v14_258, iv v15_259, iv v16_260, rv b261, .unset, .unset, .unset, .unset, .unset, .unset, .unset, .unset, .unset] [(.int p6), (.int p5), (.int p4), (.int v14_258), (.int v13_256), (.int v12_254), (.int v15_259), (.int (1 : Int32)), (.ref b261)])) rfl (by rw [hml]; rfl) (argsL := [(.ref b261), (.int (1 : Int32)), (.int v15_259), (.int v12_254), (.int v13_256), (.int v14_258), (.int p4), (.int p5), (.int p6)]) (rest := []) (lenOf pd__28_Lcom_2f_example_2f_tidewalk_2f_tidewalk_2f_problems_2f_RunMeasures_3b_IIIIIIII_29_V rfl) rfl (by show 2 * 0 + _ ≤ _; exact Nat.le_of_eq rfl) (hb hby at_114) (fun _ hv => ⟨rfl, rfl, (by decide : 1 + 0 ≤ _), (by decide : 9 + 0 ≤ _)⟩)
    dsimp only [Pt.U, Pt.locs, Pt.cells, Pt.slots] at X263 l263 y263 z263 st263 hQ263
    subst l263 y263 z263
    refine own_by st263 ?_
    obtain ⟨ps2_263, es2_263, os2_263, ev2_263, rfl, Nq263, K263, r263_0, r263_1, r263_2, r263_3, r263_4, r263_5, r263_6, r263_7, r263_8, r263_9, r263_10, r263_11, r263_12⟩ := hQ263
    have r262_0_263 := r262_0.keep K263
    have Z263 : n0 ≤ T263.heap.size := Nat.le_trans Z262 K263.1
    have N263 := Fr.app N262 Nq263
    show own_Fin _ _ _ _ (T263.setTop (mkF m 117 #[iv p1, .val (.long q2), .second, iv p3, iv p4, iv p5, iv p6, iv (3 : Int32), iv v8_247, iv v9_248, iv v10_250, iv v11_252, iv v12_254, iv v13_256, iv v14_258, iv v15_259, iv v16_260, rv b261, .unset, .unset, .unset, .unset, .unset, .unset, .unset, .unset, .unset] []))
    refine own_go (XS.iload X263.here hx rfl (hb hby at_117) rfl (Steps.refl _)) ?_
    show own_Fin _ _ _ _ (T263.setTop (mkF m 119 #[iv p1, .val (.long q2), .second, iv p3, iv p4, iv p5, iv p6, iv (3 : Int32), iv v8_247, iv v9_248, iv v10_250, iv v11_252, iv v12_254, iv v13_256, iv v14_258, iv v15_259, iv v16_260, rv b261, .unset, .unset, .unset, .unset, .unset, .unset, .unset, .unset, .unset] [(.int (3 : Int32))]))
    refine own_go (XS.iconst X263.here hx rfl (hb hby at_119) (Steps.refl _)) ?_
    show own_Fin _ _ _ _ (T263.setTop (mkF m 120 #[iv p1, .val (.long q2), .second, iv p3, iv p4, iv p5, iv p6, iv (3 : Int32), iv v8_247, iv v9_248, iv v10_250, iv v11_252, iv v12_254, iv v13_256, iv v14_258, iv v15_259, iv v16_260, rv b261, .unset, .unset, .unset, .unset, .unset, .unset, .unset, .unset, .unset] [(.int (2 : Int32)), (.int (3 : Int32))]))
    refine own_go (XS.icmpNo X263.here hx rfl (hb hby at_120) rfl (flt (by decide : ¬ ((3 : Int32) < (2 : Int32)))).1 (Steps.refl _)) ?_
    show own_Fin _ _ _ _ (T263.setTop (mkF m 123 #[iv p1, .val (.long q2), .second, iv p3, iv p4, iv p5, iv p6, iv (3 : Int32), iv v8_247, iv v9_248, iv v10_250, iv v11_252, iv v12_254, iv v13_256, iv v14_258, iv v15_259, iv v16_260, rv b261, .unset, .unset, .unset, .unset, .unset, .unset, .unset, .unset, .unset] []))
    refine own_go (XS.aload X263.here hx rfl (hb hby at_123) rfl rfl (Steps.refl _)) ?_
    show own_Fin _ _ _ _ (T263.setTop (mkF m 125 #[iv p1, .val (.long q2), .second, iv p3, iv p4, iv p5, iv p6, iv (3 : Int32), iv v8_247, iv v9_248, iv v10_250, iv v11_252, iv v12_254, iv v13_256, iv v14_258, iv v15_259, iv v16_260, rv b261, .unset, .unset, .unset, .unset, .unset, .unset, .unset, .unset, .unset] [(.ref b261)]))
    refine own_go (XS.iconst X263.here hx rfl (hb hby at_125) (Steps.refl _)) ?_
    show own_Fin _ _ _ _ (T263.setTop (mkF m 126 #[iv p1, .val (.long q2), .second, iv p3, iv p4, iv p5, iv p6, iv (3 : Int32), iv v8_247, iv v9_248, iv v10_250, iv v11_252, iv v12_254, iv v13_256, iv v14_258, iv v15_259, iv v16_260, rv b261, .unset, .unset, .unset, .unset, .unset, .unset, .unset, .unset, .unset] [(.int (2 : Int32)), (.ref b261)]))
    refine own_go (XS.iload X263.here hx rfl (hb hby at_126) rfl (Steps.refl _)) ?_
    show own_Fin _ _ _ _ (T263.setTop (mkF m 128 #[iv p1, .val (.long q2), .second, iv p3, iv p4, iv p5, iv p6, iv (3 : Int32), iv v8_247, iv v9_248, iv v10_250, iv v11_252, iv v12_254, iv v13_256, iv v14_258, iv v15_259, iv v16_260, rv b261, .unset, .unset, .unset, .unset, .unset, .unset, .unset, .unset, .unset] [(.int v16_260), (.int (2 : Int32)), (.ref b261)]))
    refine own_go (XS.iload X263.here hx rfl (hb hby at_128) rfl (Steps.refl _)) ?_
    show own_Fin _ _ _ _ (T263.setTop (mkF m 130 #[iv p1, .val (.long q2), .second, iv p3, iv p4, iv p5, iv p6, iv (3 : Int32), iv v8_247, iv v9_248, iv v10_250, iv v11_252, iv v12_254, iv v13_256, iv v14_258, iv v15_259, iv v16_260, rv b261, .unset, .unset, .unset, .unset, .unset, .unset, .unset, .unset, .unset] [(.int v12_254), (.int v16_260), (.int (2 : Int32)), (.ref b261)]))
    refine own_go (XS.iload X263.here hx rfl (hb hby at_130) rfl (Steps.refl _)) ?_
    show own_Fin _ _ _ _ (T263.setTop (mkF m 132 #[iv p1, .val (.long q2), .second, iv p3, iv p4, iv p5, iv p6, iv (3 : Int32), iv v8_247, iv v9_248, iv v10_250, iv v11_252, iv v12_254, iv v13_256, iv v14_258, iv v15_259, iv v16_260, rv b261, .unset, .unset, .unset, .unset, .unset, .unset, .unset, .unset, .unset] [(.int v13_256), (.int v12_254), (.int v16_260), (.int (2 : Int32)), (.ref b261)]))
    refine own_go (XS.iload X263.here hx rfl (hb hby at_132) rfl (Steps.refl _)) ?_
    show own_Fin _ _ _ _ (T263.setTop (mkF m 134 #[iv p1, .val (.long q2), .second, iv p3, iv p4, iv p5, iv p6, iv (3 : Int32), iv v8_247, iv v9_248, iv v10_250, iv v11_252, iv v12_254, iv v13_256, iv v14_258, iv v15_259, iv v16_260, rv b261, .unset, .unset, .unset, .unset, .unset, .unset, .unset, .unset, .unset] [(.int v14_258), (.int v13_256), (.int v12_254), (.int v16_260), (.int (2 : Int32)), (.ref b261)]))
    refine own_go (XS.iload X263.here hx rfl (hb hby at_134) rfl (Steps.refl _)) ?_
    show own_Fin _ _ _ _ (T263.setTop (mkF m 136 #[iv p1, .val (.long q2), .second, iv p3, iv p4, iv p5, iv p6, iv (3 : Int32), iv v8_247, iv v9_248, iv v10_250, iv v11_252, iv v12_254, iv v13_256, iv v14_258, iv v15_259, iv v16_260, rv b261, .unset, .unset, .unset, .unset, .unset, .unset, .unset, .unset, .unset] [(.int p4), (.int v14_258), (.int v13_256), (.int v12_254), (.int v16_260), (.int (2 : Int32)), (.ref b261)]))
    refine own_go (XS.iload X263.here hx rfl (hb hby at_136) rfl (Steps.refl _)) ?_
    show own_Fin _ _ _ _ (T263.setTop (mkF m 138 #[iv p1, .val (.long q2), .second, iv p3, iv p4, iv p5, iv p6, iv (3 : Int32), iv v8_247, iv v9_248, iv v10_250, iv v11_252, iv v12_254, iv v13_256, iv v14_258, iv v15_259, iv v16_260, rv b261, .unset, .unset, .unset, .unset, .unset, .unset, .unset, .unset, .unset] [(.int p5), (.int p4), (.int v14_258), (.int v13_256), (.int v12_254), (.int v16_260), (.int (2 : Int32)), (.ref b261)]))
    refine own_go (XS.iload X263.here hx rfl (hb hby at_138) rfl (Steps.refl _)) ?_
    show own_Fin _ _ _ _ (T263.setTop (mkF m 140 #[iv p1, .val (.long q2), .second, iv p3, iv p4, iv p5, iv p6, iv (3 : Int32), iv v8_247, iv v9_248, iv v10_250, iv v11_252, iv v12_254, iv v13_256, iv v14_258, iv v15_259, iv v16_260, rv b261, .unset, .unset, .unset, .unset, .unset, .unset, .unset, .unset, .unset] [(.int p6), (.int p5), (.int p4), (.int v14_258), (.int v13_256), (.int v12_254), (.int v16_260), (.int (2 : Int32)), (.ref b261)]))
    obtain ⟨_, _, ⟨T264, L264, k264, n264⟩, -, X264, ⟨Lc264, hQ264, l264, y264, z264⟩, st264⟩ := Jvm.LawKit.callS X263 hx (y := (⟨"com/example/tidewalk/tidewalk/problems/RunMeasuresBestErrorBeforeChangePinLaw", "phase", "(Lcom/example/tidewalk/tidewalk/problems/RunMeasures;IIIIIIII)V"⟩ : MethodName)) hown (mvT hZ (hw _ (List.mem_of_getElem? (i := 28) rfl))) (mvT hZ (hw _ (List.mem_of_getElem? (i := 29) rfl))) (mvT hZ (hw _ (List.mem_of_getElem? (i := 9) rfl))) (mvT hZ (hw _ (List.mem_of_getElem? (i := 30) rfl))) (by decide) (backOf (W := 0) (rmph_1 l Z a0 hw [] b261 (2 : Int32) v16_260 v12_254 v13_256 v14_258 p4 p5 p6 (some 0) v15_259 (own_b3 (1 : Int32) v12_254 v13_256 v14_258 p4 p5 p6) ev2_263 ps2_263 es2_263 os2_263 T263.heap n0 Z263 r263_0 r263_1 r263_2 r263_3 r263_4 r263_5 r263_6 r263_7 r263_8 r263_9 g_b261 (own_W3 _ _ _ _ _ _ _) (own_Wm own_W0 (by decide)) r263_10 r263_11 r263_12) hZ (hw _ (List.mem_of_getElem? (i := 30) rfl)) (hw _ (List.mem_of_getElem? (i := 9) rfl)) (by decide) (by decide)) (g := (mkF m 140 #[iv p1, .val (.long q2), .second, iv p3, iv p4, iv p5, iv p6, iv (3 : Int32), iv v8_247, iv v9_248, iv v10_250, iv v11_252, iv v12_254, iv v13_256, iv v14_258, iv v15_259, iv v16_260, rv b261, .unset, .unset, .unset, .unset, .unset, .unset, .unset, .unset, .unset] [(.int p6), (.int p5), (.int p4), (.int v14_258), (.int v13_256), (.int v12_254), (.int v16_260), (.int (2 : Int32)), (.ref b261)])) rfl (by rw [hml]; rfl) (argsL := [(.ref b261), (.int (2 : Int32)), (.int v16_260), (.int v12_254), (.int v13_256), (.int v14_258), (.int p4), (.int p5), (.int p6)]) (rest := []) (lenOf pd__28_Lcom_2f_example_2f_tidewalk_2f_tidewalk_2f_problems_2f_RunMeasures_3b_IIIIIIII_29_V rfl) rfl (by show 2 * 0 + _ ≤ _; exact Nat.le_of_eq rfl) (hb hby at_140) (fun _ hv => ⟨rfl, rfl, (by decide : 1 + 0 ≤ _), (by decide : 9 + 0 ≤ _)⟩)
    dsimp only [Pt.U, Pt.locs, Pt.cells, Pt.slots] at X264 l264 y264 z264 st264 hQ264
    subst l264 y264 z264
    refine own_by st264 ?_
    obtain ⟨ps2_264, es2_264, os2_264, ev2_264, rfl, Nq264, K264, r264_0, r264_1, r264_2, r264_3, r264_4, r264_5, r264_6, r264_7, r264_8, r264_9, r264_10, r264_11, r264_12⟩ := hQ264
    have r263_0_264 := r263_0.keep K264
    have Z264 : n0 ≤ T264.heap.size := Nat.le_trans Z263 K264.1
    have N264 := Fr.app N263 Nq264
    show own_Fin _ _ _ _ (T264.setTop (mkF m 143 #[iv p1, .val (.long q2), .second, iv p3, iv p4, iv p5, iv p6, iv (3 : Int32), iv v8_247, iv v9_248, iv v10_250, iv v11_252, iv v12_254, iv v13_256, iv v14_258, iv v15_259, iv v16_260, rv b261, .unset, .unset, .unset, .unset, .unset, .unset, .unset, .unset, .unset] []))
    refine own_go (XS.iload X264.here hx rfl (hb hby at_143) rfl (Steps.refl _)) ?_
    show own_Fin _ _ _ _ (T264.setTop (mkF m 145 #[iv p1, .val (.long q2), .second, iv p3, iv p4, iv p5, iv p6, iv (3 : Int32), iv v8_247, iv v9_248, iv v10_250, iv v11_252, iv v12_254, iv v13_256, iv v14_258, iv v15_259, iv v16_260, rv b261, .unset, .unset, .unset, .unset, .unset, .unset, .unset, .unset, .unset] [(.int (3 : Int32))]))
    refine own_go (XS.iconst X264.here hx rfl (hb hby at_145) (Steps.refl _)) ?_
    show own_Fin _ _ _ _ (T264.setTop (mkF m 146 #[iv p1, .val (.long q2), .second, iv p3, iv p4, iv p5, iv p6, iv (3 : Int32), iv v8_247, iv v9_248, iv v10_250, iv v11_252, iv v12_254, iv v13_256, iv v14_258, iv v15_259, iv v16_260, rv b261, .unset, .unset, .unset, .unset, .unset, .unset, .unset, .unset, .unset] [(.int (3 : Int32)), (.int (3 : Int32))]))
    refine own_go (XS.icmpNo X264.here hx rfl (hb hby at_146) rfl (flt (by decide : ¬ ((3 : Int32) < (3 : Int32)))).1 (Steps.refl _)) ?_
    show own_Fin _ _ _ _ (T264.setTop (mkF m 149 #[iv p1, .val (.long q2), .second, iv p3, iv p4, iv p5, iv p6, iv (3 : Int32), iv v8_247, iv v9_248, iv v10_250, iv v11_252, iv v12_254, iv v13_256, iv v14_258, iv v15_259, iv v16_260, rv b261, .unset, .unset, .unset, .unset, .unset, .unset, .unset, .unset, .unset] []))
    refine own_go (XS.aload X264.here hx rfl (hb hby at_149) rfl rfl (Steps.refl _)) ?_
    show own_Fin _ _ _ _ (T264.setTop (mkF m 151 #[iv p1, .val (.long q2), .second, iv p3, iv p4, iv p5, iv p6, iv (3 : Int32), iv v8_247, iv v9_248, iv v10_250, iv v11_252, iv v12_254, iv v13_256, iv v14_258, iv v15_259, iv v16_260, rv b261, .unset, .unset, .unset, .unset, .unset, .unset, .unset, .unset, .unset] [(.ref b261)]))
    refine own_go (XS.iconst X264.here hx rfl (hb hby at_151) (Steps.refl _)) ?_
    show own_Fin _ _ _ _ (T264.setTop (mkF m 152 #[iv p1, .val (.long q2), .second, iv p3, iv p4, iv p5, iv p6, iv (3 : Int32), iv v8_247, iv v9_248, iv v10_250, iv v11_252, iv v12_254, iv v13_256, iv v14_258, iv v15_259, iv v16_260, rv b261, .unset, .unset, .unset, .unset, .unset, .unset, .unset, .unset, .unset] [(.int (3 : Int32)), (.ref b261)]))
    refine own_go (XS.iloadN X264.here hx rfl (hb hby at_152) rfl (Steps.refl _)) ?_
    show own_Fin _ _ _ _ (T264.setTop (mkF m 153 #[iv p1, .val (.long q2), .second, iv p3, iv p4, iv p5, iv p6, iv (3 : Int32), iv v8_247, iv v9_248, iv v10_250, iv v11_252, iv v12_254, iv v13_256, iv v14_258, iv v15_259, iv v16_260, rv b261, .unset, .unset, .unset, .unset, .unset, .unset, .unset, .unset, .unset] [(.int p3), (.int (3 : Int32)), (.ref b261)]))
    refine own_go (XS.iload X264.here hx rfl (hb hby at_153) rfl (Steps.refl _)) ?_
    show own_Fin _ _ _ _ (T264.setTop (mkF m 155 #[iv p1, .val (.long q2), .second, iv p3, iv p4, iv p5, iv p6, iv (3 : Int32), iv v8_247, iv v9_248, iv v10_250, iv v11_252, iv v12_254, iv v13_256, iv v14_258, iv v15_259, iv v16_260, rv b261, .unset, .unset, .unset, .unset, .unset, .unset, .unset, .unset, .unset] [(.int v12_254), (.int p3), (.int (3 : Int32)), (.ref b261)]))
    refine own_go (XS.iload X264.here hx rfl (hb hby at_155) rfl (Steps.refl _)) ?_
    show own_Fin _ _ _ _ (T264.setTop (mkF m 157 #[iv p1, .val (.long q2), .second, iv p3, iv p4, iv p5, iv p6, iv (3 : Int32), iv v8_247, iv v9_248, iv v10_250, iv v11_252, iv v12_254, iv v13_256, iv v14_258, iv v15_259, iv v16_260, rv b261, .unset, .unset, .unset, .unset, .unset, .unset, .unset, .unset, .unset] [(.int v13_256), (.int v12_254), (.int p3), (.int (3 : Int32)), (.ref b261)]))
    refine own_go (XS.iload X264.here hx rfl (hb hby at_157) rfl (Steps.refl _)) ?_
    show own_Fin _ _ _ _ (T264.setTop (mkF m 159 #[iv p1, .val (.long q2), .second, iv p3, iv p4, iv p5, iv p6, iv (3 : Int32), iv v8_247, iv v9_248, iv v10_250, iv v11_252, iv v12_254, iv v13_256, iv v14_258, iv v15_259, iv v16_260, rv b261, .unset, .unset, .unset, .unset, .unset, .unset, .unset, .unset, .unset] [(.int v14_258), (.int v13_256), (.int v12_254), (.int p3), (.int (3 : Int32)), (.ref b261)]))
    refine own_go (XS.iload X264.here hx rfl (hb hby at_159) rfl (Steps.refl _)) ?_
    show own_Fin _ _ _ _ (T264.setTop (mkF m 161 #[iv p1, .val (.long q2), .second, iv p3, iv p4, iv p5, iv p6, iv (3 : Int32), iv v8_247, iv v9_248, iv v10_250, iv v11_252, iv v12_254, iv v13_256, iv v14_258, iv v15_259, iv v16_260, rv b261, .unset, .unset, .unset, .unset, .unset, .unset, .unset, .unset, .unset] [(.int p4), (.int v14_258), (.int v13_256), (.int v12_254), (.int p3), (.int (3 : Int32)), (.ref b261)]))
    refine own_go (XS.iload X264.here hx rfl (hb hby at_161) rfl (Steps.refl _)) ?_
    show own_Fin _ _ _ _ (T264.setTop (mkF m 163 #[iv p1, .val (.long q2), .second, iv p3, iv p4, iv p5, iv p6, iv (3 : Int32), iv v8_247, iv v9_248, iv v10_250, iv v11_252, iv v12_254, iv v13_256, iv v14_258, iv v15_259, iv v16_260, rv b261, .unset, .unset, .unset, .unset, .unset, .unset, .unset, .unset, .unset] [(.int p5), (.int p4), (.int v14_258), (.int v13_256), (.int v12_254), (.int p3), (.int (3 : Int32)), (.ref b261)]))
    refine own_go (XS.iload X264.here hx rfl (hb hby at_163) rfl (Steps.refl _)) ?_
    show own_Fin _ _ _ _ (T264.setTop (mkF m 165 #[iv p1, .val (.long q2), .second, iv p3, iv p4, iv p5, iv p6, iv (3 : Int32), iv v8_247, iv v9_248, iv v10_250, iv v11_252, iv v12_254, iv v13_256, iv v14_258, iv v15_259, iv v16_260, rv b261, .unset, .unset, .unset, .unset, .unset, .unset, .unset, .unset, .unset] [(.int p6), (.int p5), (.int p4), (.int v14_258), (.int v13_256), (.int v12_254), (.int p3), (.int (3 : Int32)), (.ref b261)]))
    obtain ⟨_, _, ⟨T265, L265, k265, n265⟩, -, X265, ⟨Lc265, hQ265, l265, y265, z265⟩, st265⟩ := Jvm.LawKit.callS X264 hx (y := (⟨"com/example/tidewalk/tidewalk/problems/RunMeasuresBestErrorBeforeChangePinLaw", "phase", "(Lcom/example/tidewalk/tidewalk/problems/RunMeasures;IIIIIIII)V"⟩ : MethodName)) hown (mvT hZ (hw _ (List.mem_of_getElem? (i := 28) rfl))) (mvT hZ (hw _ (List.mem_of_getElem? (i := 29) rfl))) (mvT hZ (hw _ (List.mem_of_getElem? (i := 9) rfl))) (mvT hZ (hw _ (List.mem_of_getElem? (i := 30) rfl))) (by decide) (backOf (W := 0) (rmph_2 l Z a0 hw [] b261 (3 : Int32) p3 v12_254 v13_256 v14_258 p4 p5 p6 (own_pl (some 0) (own_er v15_259.toInt64 (own_b3 (1 : Int32) v12_254 v13_256 v14_258 p4 p5 p6))) v16_260 (own_b3 (2 : Int32) v12_254 v13_256 v14_258 p4 p5 p6) ev2_264 ps2_264 es2_264 os2_264 T264.heap n0 Z264 r264_0 r264_1 r264_2 r264_3 r264_4 r264_5 r264_6 r264_7 r264_8 r264_9 g_b261 (own_W3 _ _ _ _ _ _ _) (own_Wm (own_Wpl own_W0 (own_Wer (own_W3 _ _ _ _ _ _ _)) (by decide) (by decide)) (by decide)) r264_10 r264_11 r264_12) hZ (hw _ (List.mem_of_getElem? (i := 30) rfl)) (hw _ (List.mem_of_getElem? (i := 9) rfl)) (by decide) (by decide)) (g := (mkF m 165 #[iv p1, .val (.long q2), .second, iv p3, iv p4, iv p5, iv p6, iv (3 : Int32), iv v8_247, iv v9_248, iv v10_250, iv v11_252, iv v12_254, iv v13_256, iv v14_258, iv v15_259, iv v16_260, rv b261, .unset, .unset, .unset, .unset, .unset, .unset, .unset, .unset, .unset] [(.int p6), (.int p5), (.int p4), (.int v14_258), (.int v13_256), (.int v12_254), (.int p3), (.int (3 : Int32)), (.ref b261)])) rfl (by rw [hml]; rfl) (argsL := [(.ref b261), (.int (3 : Int32)), (.int p3), (.int v12_254), (.int v13_256), (.int v14_258), (.int p4), (.int p5), (.int p6)]) (rest := []) (lenOf pd__28_Lcom_2f_example_2f_tidewalk_2f_tidewalk_2f_problems_2f_RunMeasures_3b_IIIIIIII_29_V rfl) rfl (by show 2 * 0 + _ ≤ _; exact Nat.le_of_eq rfl) (hb hby at_165) (fun _ hv => ⟨rfl, rfl, (by decide : 1 + 0 ≤ _), (by decide : 9 + 0 ≤ _)⟩)
    dsimp only [Pt.U, Pt.locs, Pt.cells, Pt.slots] at X265 l265 y265 z265 st265 hQ265
    subst l265 y265 z265
    refine own_by st265 ?_
    obtain ⟨ps2_265, es2_265, os2_265, ev2_265, rfl, Nq265, K265, r265_0, r265_1, r265_2, r265_3, r265_4, r265_5, r265_6, r265_7, r265_8, r265_9, r265_10, r265_11, r265_12⟩ := hQ265
    have r264_0_265 := r264_0.keep K265
    have Z265 : n0 ≤ T265.heap.size := Nat.le_trans Z264 K265.1
    have N265 := Fr.app N264 Nq265
    show own_Fin _ _ _ _ (T265.setTop (mkF m 168 #[iv p1, .val (.long q2), .second, iv p3, iv p4, iv p5, iv p6, iv (3 : Int32), iv v8_247, iv v9_248, iv v10_250, iv v11_252, iv v12_254, iv v13_256, iv v14_258, iv v15_259, iv v16_260, rv b261, .unset, .unset, .unset, .unset, .unset, .unset, .unset, .unset, .unset] []))
    refine own_go (XS.aload X265.here hx rfl (hb hby at_168) rfl rfl (Steps.refl _)) ?_
    show own_Fin _ _ _ _ (T265.setTop (mkF m 170 #[iv p1, .val (.long q2), .second, iv p3, iv p4, iv p5, iv p6, iv (3 : Int32), iv v8_247, iv v9_248, iv v10_250, iv v11_252, iv v12_254, iv v13_256, iv v14_258, iv v15_259, iv v16_260, rv b261, .unset, .unset, .unset, .unset, .unset, .unset, .unset, .unset, .unset] [(.ref b261)]))
    obtain ⟨cq266, kq266, q266a, q266b, q266c⟩ := isOf hZ rfl r265_0
    obtain ⟨_, _, ⟨T266, L266, k266, n266⟩, -, X266, ⟨Lc266, hQ266, l266, y266, z266⟩, st266⟩ := X265.virtualBack hx (y := (⟨"com/example/tidewalk/tidewalk/problems/RunMeasures", "bestErrorBeforeChange", "()D"⟩ : MethodName)) (z := (⟨"com/example/tidewalk/tidewalk/problems/RunMeasures", "bestErrorBeforeChange", "()D"⟩ : MethodName)) hown (mvT hZ (hw _ (List.mem_of_getElem? (i := 65) rfl))) (mvT hZ (hw _ (List.mem_of_getElem? (i := 66) rfl))) (notFace_of_selects (args := #[]) (mvT hZ (hw _ (List.mem_of_getElem? (i := 68) rfl)))) (mvT hZ (hw _ (List.mem_of_getElem? (i := 68) rfl))) (mvT hZ (hw _ (List.mem_of_getElem? (i := 67) rfl))) (by decide) (backOf (W := 0) (rmbe_3 l Z a0 hw [] b261 (own_pl (own_pl (some 0) (own_er v15_259.toInt64 (own_b3 (1 : Int32) v12_254 v13_256 v14_258 p4 p5 p6))) (own_er v16_260.toInt64 (own_b3 (2 : Int32) v12_254 v13_256 v14_258 p4 p5 p6))) p3 (own_b3 (3 : Int32) v12_254 v13_256 v14_258 p4 p5 p6) T265.heap n0 Z265 r265_1 r265_2 r265_3 r265_4 (own_W3 _ _ _ _ _ _ _) (own_Wm (own_Wpl (own_Wpl own_W0 (own_Wer (own_W3 _ _ _ _ _ _ _)) (by decide) (by decide)) (own_Wer (own_W3 _ _ _ _ _ _ _)) (by decide) (by decide)) (by decide))) hZ (hw _ (List.mem_of_getElem? (i := 69) rfl)) (hw _ (List.mem_of_getElem? (i := 13) rfl)) (by decide) (by decide)) q266a q266c (g := (mkF m 170 #[iv p1, .val (.long q2), .second, iv p3, iv p4, iv p5, iv p6, iv (3 : Int32), iv v8_247, iv v9_248, iv v10_250, iv v11_252, iv v12_254, iv v13_256, iv v14_258, iv v15_259, iv v16_260, rv b261, .unset, .unset, .unset, .unset, .unset, .unset, .unset, .unset, .unset] [(.ref b261)])) rfl (by rw [hml]; rfl) (Steps.refl _) (argsL := []) (rest := []) (lenOf pd__28__29_D rfl) rfl (by show 2 * 0 + _ ≤ _; exact Nat.le_of_eq rfl) (hb hby at_170) (fun _ hv => ⟨rfl, rfl, (by decide : 1 + 0 ≤ _), (by decide : 9 + 0 ≤ _)⟩)
    dsimp only [Pt.U, Pt.locs, Pt.cells, Pt.slots] at X266 l266 y266 z266 st266 hQ266
    subst l266 y266 z266
    obtain ⟨rfl, Nq266, e266⟩ := hQ266
    refine own_go st266 ?_
    have N266 := Fr.app N265 Nq266
    show own_Fin _ _ _ _ (T266.setTop (mkF m 173 #[iv p1, .val (.long q2), .second, iv p3, iv p4, iv p5, iv p6, iv (3 : Int32), iv v8_247, iv v9_248, iv v10_250, iv v11_252, iv v12_254, iv v13_256, iv v14_258, iv v15_259, iv v16_260, rv b261, .unset, .unset, .unset, .unset, .unset, .unset, .unset, .unset, .unset] [(.double (FP.ddiv (own_cl (own_pl (own_pl (own_pl (some 0) (own_er v15_259.toInt64 (own_b3 (1 : Int32) v12_254 v13_256 v14_258 p4 p5 p6))) (own_er v16_260.toInt64 (own_b3 (2 : Int32) v12_254 v13_256 v14_258 p4 p5 p6))) (own_er p3.toInt64 (own_b3 (3 : Int32) v12_254 v13_256 v14_258 p4 p5 p6)))) (FP.l2d (3 : Int32).toInt64)))]))
    refine own_go (XS.dstore X266.here hx rfl (hb hby at_173) rfl rfl (Steps.refl _)) ?_
    show own_Fin _ _ _ _ (T266.setTop (mkF m 175 #[iv p1, .val (.long q2), .second, iv p3, iv p4, iv p5, iv p6, iv (3 : Int32), iv v8_247, iv v9_248, iv v10_250, iv v11_252, iv v12_254, iv v13_256, iv v14_258, iv v15_259, iv v16_260, rv b261, .val (.double (FP.ddiv (own_cl (own_pl (own_pl (own_pl (some 0) (own_er v15_259.toInt64 (own_b3 (1 : Int32) v12_254 v13_256 v14_258 p4 p5 p6))) (own_er v16_260.toInt64 (own_b3 (2 : Int32) v12_254 v13_256 v14_258 p4 p5 p6))) (own_er p3.toInt64 (own_b3 (3 : Int32) v12_254 v13_256 v14_258 p4 p5 p6)))) (FP.l2d (3 : Int32).toInt64))), .second, .unset, .unset, .unset, .unset, .unset, .unset, .unset] []))
    generalize hz_r18_267 : (FP.ddiv (own_cl (own_pl (own_pl (own_pl (some 0) (own_er v15_259.toInt64 (own_b3 (1 : Int32) v12_254 v13_256 v14_258 p4 p5 p6))) (own_er v16_260.toInt64 (own_b3 (2 : Int32) v12_254 v13_256 v14_258 p4 p5 p6))) (own_er p3.toInt64 (own_b3 (3 : Int32) v12_254 v13_256 v14_258 p4 p5 p6)))) (FP.l2d (3 : Int32).toInt64)) = r18_267
    refine own_go (XS.iconst X266.here hx rfl (hb hby at_175) (Steps.refl _)) ?_
    show own_Fin _ _ _ _ (T266.setTop (mkF m 176 #[iv p1, .val (.long q2), .second, iv p3, iv p4, iv p5, iv p6, iv (3 : Int32), iv v8_247, iv v9_248, iv v10_250, iv v11_252, iv v12_254, iv v13_256, iv v14_258, iv v15_259, iv v16_260, rv b261, .val (.double r18_267), .second, .unset, .unset, .unset, .unset, .unset, .unset, .unset] [(.int (0 : Int32))]))
    refine own_go (XS.istore X266.here hx rfl (hb hby at_176) rfl rfl (Steps.refl _)) ?_
    show own_Fin _ _ _ _ (T266.setTop (mkF m 178 #[iv p1, .val (.long q2), .second, iv p3, iv p4, iv p5, iv p6, iv (3 : Int32), iv v8_247, iv v9_248, iv v10_250, iv v11_252, iv v12_254, iv v13_256, iv v14_258, iv v15_259, iv v16_260, rv b261, .val (.double r18_267), .second, iv (0 : Int32), .unset, .unset, .unset, .unset, .unset, .unset] []))
    refine own_go (XS.lconst X266.here hx rfl (hb hby at_178) (Steps.refl _)) ?_
    show own_Fin _ _ _ _ (T266.setTop (mkF m 179 #[iv p1, .val (.long q2), .second, iv p3, iv p4, iv p5, iv p6, iv (3 : Int32), iv v8_247, iv v9_248, iv v10_250, iv v11_252, iv v12_254, iv v13_256, iv v14_258, iv v15_259, iv v16_260, rv b261, .val (.double r18_267), .second, iv (0 : Int32), .unset, .unset, .unset, .unset, .unset, .unset] [(.long (0 : Int64))]))
    refine own_go (XS.lstore X266.here hx rfl (hb hby at_179) rfl rfl (Steps.refl _)) ?_
    show own_Fin _ _ _ _ (T266.setTop (mkF m 181 #[iv p1, .val (.long q2), .second, iv p3, iv p4, iv p5, iv p6, iv (3 : Int32), iv v8_247, iv v9_248, iv v10_250, iv v11_252, iv v12_254, iv v13_256, iv v14_258, iv v15_259, iv v16_260, rv b261, .val (.double r18_267), .second, iv (0 : Int32), .val (.long (0 : Int64)), .second, .unset, .unset, .unset, .unset] []))
    refine own_go (XS.iconst X266.here hx rfl (hb hby at_181) (Steps.refl _)) ?_
    show own_Fin _ _ _ _ (T266.setTop (mkF m 182 #[iv p1, .val (.long q2), .second, iv p3, iv p4, iv p5, iv p6, iv (3 : Int32), iv v8_247, iv v9_248, iv v10_250, iv v11_252, iv v12_254, iv v13_256, iv v14_258, iv v15_259, iv v16_260, rv b261, .val (.double r18_267), .second, iv (0 : Int32), .val (.long (0 : Int64)), .second, .unset, .unset, .unset, .unset] [(.int (1 : Int32))]))
    refine own_go (XS.iload X266.here hx rfl (hb hby at_182) rfl (Steps.refl _)) ?_
    show own_Fin _ _ _ _ (T266.setTop (mkF m 184 #[iv p1, .val (.long q2), .second, iv p3, iv p4, iv p5, iv p6, iv (3 : Int32), iv v8_247, iv v9_248, iv v10_250, iv v11_252, iv v12_254, iv v13_256, iv v14_258, iv v15_259, iv v16_260, rv b261, .val (.double r18_267), .second, iv (0 : Int32), .val (.long (0 : Int64)), .second, .unset, .unset, .unset, .unset] [(.int v12_254), (.int (1 : Int32))]))
    refine own_go (XS.iload X266.here hx rfl (hb hby at_184) rfl (Steps.refl _)) ?_
    show own_Fin _ _ _ _ (T266.setTop (mkF m 186 #[iv p1, .val (.long q2), .second, iv p3, iv p4, iv p5, iv p6, iv (3 : Int32), iv v8_247, iv v9_248, iv v10_250, iv v11_252, iv v12_254, iv v13_256, iv v14_258, iv v15_259, iv v16_260, rv b261, .val (.double r18_267), .second, iv (0 : Int32), .val (.long (0 : Int64)), .second, .unset, .unset, .unset, .unset] [(.int v13_256), (.int v12_254), (.int (1 : Int32))]))
    refine own_go (XS.iload X266.here hx rfl (hb hby at_186) rfl (Steps.refl _)) ?_
    show own_Fin _ _ _ _ (T266.setTop (mkF m 188 #[iv p1, .val (.long q2), .second, iv p3, iv p4, iv p5, iv p6, iv (3 : Int32), iv v8_247, iv v9_248, iv v10_250, iv v11_252, iv v12_254, iv v13_256, iv v14_258, iv v15_259, iv v16_260, rv b261, .val (.double r18_267), .second, iv (0 : Int32), .val (.long (0 : Int64)), .second, .unset, .unset, .unset, .unset] [(.int v14_258), (.int v13_256), (.int v12_254), (.int (1 : Int32))]))
    refine own_go (XS.iload X266.here hx rfl (hb hby at_188) rfl (Steps.refl _)) ?_
    show own_Fin _ _ _ _ (T266.setTop (mkF m 190 #[iv p1, .val (.long q2), .second, iv p3, iv p4, iv p5, iv p6, iv (3 : Int32), iv v8_247, iv v9_248, iv v10_250, iv v11_252, iv v12_254, iv v13_256, iv v14_258, iv v15_259, iv v16_260, rv b261, .val (.double r18_267), .second, iv (0 : Int32), .val (.long (0 : Int64)), .second, .unset, .unset, .unset, .unset] [(.int p4), (.int v14_258), (.int v13_256), (.int v12_254), (.int (1 : Int32))]))
    refine own_go (XS.iload X266.here hx rfl (hb hby at_190) rfl (Steps.refl _)) ?_
    show own_Fin _ _ _ _ (T266.setTop (mkF m 192 #[iv p1, .val (.long q2), .second, iv p3, iv p4, iv p5, iv p6, iv (3 : Int32), iv v8_247, iv v9_248, iv v10_250, iv v11_252, iv v12_254, iv v13_256, iv v14_258, iv v15_259, iv v16_260, rv b261, .val (.double r18_267), .second, iv (0 : Int32), .val (.long (0 : Int64)), .second, .unset, .unset, .unset, .unset] [(.int p5), (.int p4), (.int v14_258), (.int v13_256), (.int v12_254), (.int (1 : Int32))]))
    refine own_go (XS.iload X266.here hx rfl (hb hby at_192) rfl (Steps.refl _)) ?_
    show own_Fin _ _ _ _ (T266.setTop (mkF m 194 #[iv p1, .val (.long q2), .second, iv p3, iv p4, iv p5, iv p6, iv (3 : Int32), iv v8_247, iv v9_248, iv v10_250, iv v11_252, iv v12_254, iv v13_256, iv v14_258, iv v15_259, iv v16_260, rv b261, .val (.double r18_267), .second, iv (0 : Int32), .val (.long (0 : Int64)), .second, .unset, .unset, .unset, .unset] [(.int p6), (.int p5), (.int p4), (.int v14_258), (.int v13_256), (.int v12_254), (.int (1 : Int32))]))
    obtain ⟨_, _, ⟨T268, L268, k268, n268⟩, -, X268, ⟨Lc268, hQ268, l268, y268, z268⟩, st268⟩ := Jvm.LawKit.callS X266 hx (y := (⟨"com/example/tidewalk/tidewalk/problems/RunMeasuresBestErrorBeforeChangePinLaw", "best", "(IIIIIII)J"⟩ : MethodName)) hown (mvT hZ (hw _ (List.mem_of_getElem? (i := 72) rfl))) (mvT hZ (hw _ (List.mem_of_getElem? (i := 73) rfl))) (mvT hZ (hw _ (List.mem_of_getElem? (i := 9) rfl))) (mvT hZ (hw _ (List.mem_of_getElem? (i := 74) rfl))) (by decide) (backOf (W := 0) (rmbs l Z a0 hw [] (1 : Int32) v12_254 v13_256 v14_258 p4 p5 p6 T265.heap n0 Z265) hZ (hw _ (List.mem_of_getElem? (i := 74) rfl)) (hw _ (List.mem_of_getElem? (i := 9) rfl)) (by decide) (by decide)) (g := (mkF m 194 #[iv p1, .val (.long q2), .second, iv p3, iv p4, iv p5, iv p6, iv (3 : Int32), iv v8_247, iv v9_248, iv v10_250, iv v11_252, iv v12_254, iv v13_256, iv v14_258, iv v15_259, iv v16_260, rv b261, .val (.double r18_267), .second, iv (0 : Int32), .val (.long (0 : Int64)), .second, .unset, .unset, .unset, .unset] [(.int p6), (.int p5), (.int p4), (.int v14_258), (.int v13_256), (.int v12_254), (.int (1 : Int32))])) rfl (by rw [hml]; rfl) (argsL := [(.int (1 : Int32)), (.int v12_254), (.int v13_256), (.int v14_258), (.int p4), (.int p5), (.int p6)]) (rest := []) (lenOf pd__28_IIIIIII_29_J rfl) rfl (by show 2 * 0 + _ ≤ _; exact Nat.le_of_eq rfl) (hb hby at_194) (fun _ hv => ⟨rfl, e266, (by decide : 1 + 0 ≤ _), (by decide : 9 + 0 ≤ _)⟩)
    dsimp only [Pt.U, Pt.locs, Pt.cells, Pt.slots] at X268 l268 y268 z268 st268 hQ268
    subst l268 y268 z268
    obtain ⟨rfl, Nq268, e268⟩ := hQ268
    refine own_by st268 ?_
    have N268 := Fr.app N266 Nq268
    show own_Fin _ _ _ _ (T268.setTop (mkF m 197 #[iv p1, .val (.long q2), .second, iv p3, iv p4, iv p5, iv p6, iv (3 : Int32), iv v8_247, iv v9_248, iv v10_250, iv v11_252, iv v12_254, iv v13_256, iv v14_258, iv v15_259, iv v16_260, rv b261, .val (.double r18_267), .second, iv (0 : Int32), .val (.long (0 : Int64)), .second, .unset, .unset, .unset, .unset] [(.long (own_lv (own_b3 (1 : Int32) v12_254 v13_256 v14_258 p4 p5 p6)))]))
    refine own_go (XS.lstore X268.here hx rfl (hb hby at_197) rfl rfl (Steps.refl _)) ?_
    show own_Fin _ _ _ _ (T268.setTop (mkF m 199 #[iv p1, .val (.long q2), .second, iv p3, iv p4, iv p5, iv p6, iv (3 : Int32), iv v8_247, iv v9_248, iv v10_250, iv v11_252, iv v12_254, iv v13_256, iv v14_258, iv v15_259, iv v16_260, rv b261, .val (.double r18_267), .second, iv (0 : Int32), .val (.long (0 : Int64)), .second, .val (.long (own_lv (own_b3 (1 : Int32) v12_254 v13_256 v14_258 p4 p5 p6))), .second, .unset, .unset] []))
    generalize hz_v23_269 : (own_lv (own_b3 (1 : Int32) v12_254 v13_256 v14_258 p4 p5 p6)) = v23_269
    refine own_go (XS.lload X268.here hx rfl (hb hby at_199) rfl (Steps.refl _)) ?_
    show own_Fin _ _ _ _ (T268.setTop (mkF m 201 #[iv p1, .val (.long q2), .second, iv p3, iv p4, iv p5, iv p6, iv (3 : Int32), iv v8_247, iv v9_248, iv v10_250, iv v11_252, iv v12_254, iv v13_256, iv v14_258, iv v15_259, iv v16_260, rv b261, .val (.double r18_267), .second, iv (0 : Int32), .val (.long (0 : Int64)), .second, .val (.long v23_269), .second, .unset, .unset] [(.long v23_269)]))
    refine own_by (X268.ldc2Long hx hown (mvT hZ (hw _ (List.mem_of_getElem? (i := 75) rfl))) (g := (mkF m 201 #[iv p1, .val (.long q2), .second, iv p3, iv p4, iv p5, iv p6, iv (3 : Int32), iv v8_247, iv v9_248, iv v10_250, iv v11_252, iv v12_254, iv v13_256, iv v14_258, iv v15_259, iv v16_260, rv b261, .val (.double r18_267), .second, iv (0 : Int32), .val (.long (0 : Int64)), .second, .val (.long v23_269), .second, .unset, .unset] [(.long v23_269)])) rfl (hb hby at_201)) ?_
    show own_Fin _ _ _ _ (T268.setTop (mkF m 204 #[iv p1, .val (.long q2), .second, iv p3, iv p4, iv p5, iv p6, iv (3 : Int32), iv v8_247, iv v9_248, iv v10_250, iv v11_252, iv v12_254, iv v13_256, iv v14_258, iv v15_259, iv v16_260, rv b261, .val (.double r18_267), .second, iv (0 : Int32), .val (.long (0 : Int64)), .second, .val (.long v23_269), .second, .unset, .unset] [(.long (-9223372036854775808 : Int64)), (.long v23_269)]))
    refine own_go (XS.lcmp X268.here hx rfl (hb hby at_204) rfl (Steps.refl _)) ?_
    show own_Fin _ _ _ _ (T268.setTop (mkF m 205 #[iv p1, .val (.long q2), .second, iv p3, iv p4, iv p5, iv p6, iv (3 : Int32), iv v8_247, iv v9_248, iv v10_250, iv v11_252, iv v12_254, iv v13_256, iv v14_258, iv v15_259, iv v16_260, rv b261, .val (.double r18_267), .second, iv (0 : Int32), .val (.long (0 : Int64)), .second, .val (.long v23_269), .second, .unset, .unset] [(.int (lcmpW v23_269 (-9223372036854775808 : Int64)))]))
    by_cases cb270 : (own_b3 (1 : Int32) v12_254 v13_256 v14_258 p4 p5 p6) = none
    · refine own_go (XS.ifNo X268.here hx rfl (hb hby at_205) rfl ((if0 _ _).trans (teq (show (lcmpW v23_269 (-9223372036854775808 : Int64)) = (0 : Int32) from (by rw [← hz_v23_269]; exact own_lvz cb270))).2) (Steps.refl _)) ?_
      show own_Fin _ _ _ _ (T268.setTop (mkF m 208 #[iv p1, .val (.long q2), .second, iv p3, iv p4, iv p5, iv p6, iv (3 : Int32), iv v8_247, iv v9_248, iv v10_250, iv v11_252, iv v12_254, iv v13_256, iv v14_258, iv v15_259, iv v16_260, rv b261, .val (.double r18_267), .second, iv (0 : Int32), .val (.long (0 : Int64)), .second, .val (.long v23_269), .second, .unset, .unset] []))
      refine own_go (XS.iconst X268.here hx rfl (hb hby at_208) (Steps.refl _)) ?_
      show own_Fin _ _ _ _ (T268.setTop (mkF m 209 #[iv p1, .val (.long q2), .second, iv p3, iv p4, iv p5, iv p6, iv (3 : Int32), iv v8_247, iv v9_248, iv v10_250, iv v11_252, iv v12_254, iv v13_256, iv v14_258, iv v15_259, iv v16_260, rv b261, .val (.double r18_267), .second, iv (0 : Int32), .val (.long (0 : Int64)), .second, .val (.long v23_269), .second, .unset, .unset] [(.int (1 : Int32))]))
      refine own_go (XS.istore X268.here hx rfl (hb hby at_209) rfl rfl (Steps.refl _)) ?_
      show own_Fin _ _ _ _ (T268.setTop (mkF m 211 #[iv p1, .val (.long q2), .second, iv p3, iv p4, iv p5, iv p6, iv (3 : Int32), iv v8_247, iv v9_248, iv v10_250, iv v11_252, iv v12_254, iv v13_256, iv v14_258, iv v15_259, iv v16_260, rv b261, .val (.double r18_267), .second, iv (1 : Int32), .val (.long (0 : Int64)), .second, .val (.long v23_269), .second, .unset, .unset] []))
      refine own_go (XS.goto X268.here hx rfl (pc0 := 211) (pc' := 225) rfl (hb hby at_211) (by decide) (by decide) (Steps.refl _)) ?_
      show own_Fin _ _ _ _ (T268.setTop (mkF m 225 #[iv p1, .val (.long q2), .second, iv p3, iv p4, iv p5, iv p6, iv (3 : Int32), iv v8_247, iv v9_248, iv v10_250, iv v11_252, iv v12_254, iv v13_256, iv v14_258, iv v15_259, iv v16_260, rv b261, .val (.double r18_267), .second, iv (1 : Int32), .val (.long (0 : Int64)), .second, .val (.long v23_269), .second, .unset, .unset] []))
      refine own_go (XS.iload X268.here hx rfl (hb hby at_225) rfl (Steps.refl _)) ?_
      show own_Fin _ _ _ _ (T268.setTop (mkF m 227 #[iv p1, .val (.long q2), .second, iv p3, iv p4, iv p5, iv p6, iv (3 : Int32), iv v8_247, iv v9_248, iv v10_250, iv v11_252, iv v12_254, iv v13_256, iv v14_258, iv v15_259, iv v16_260, rv b261, .val (.double r18_267), .second, iv (1 : Int32), .val (.long (0 : Int64)), .second, .val (.long v23_269), .second, .unset, .unset] [(.int (3 : Int32))]))
      refine own_go (XS.iconst X268.here hx rfl (hb hby at_227) (Steps.refl _)) ?_
      show own_Fin _ _ _ _ (T268.setTop (mkF m 228 #[iv p1, .val (.long q2), .second, iv p3, iv p4, iv p5, iv p6, iv (3 : Int32), iv v8_247, iv v9_248, iv v10_250, iv v11_252, iv v12_254, iv v13_256, iv v14_258, iv v15_259, iv v16_260, rv b261, .val (.double r18_267), .second, iv (1 : Int32), .val (.long (0 : Int64)), .second, .val (.long v23_269), .second, .unset, .unset] [(.int (2 : Int32)), (.int (3 : Int32))]))
      refine own_go (XS.icmpNo X268.here hx rfl (hb hby at_228) rfl (flt (by decide : ¬ ((3 : Int32) < (2 : Int32)))).1 (Steps.refl _)) ?_
      show own_Fin _ _ _ _ (T268.setTop (mkF m 231 #[iv p1, .val (.long q2), .second, iv p3, iv p4, iv p5, iv p6, iv (3 : Int32), iv v8_247, iv v9_248, iv v10_250, iv v11_252, iv v12_254, iv v13_256, iv v14_258, iv v15_259, iv v16_260, rv b261, .val (.double r18_267), .second, iv (1 : Int32), .val (.long (0 : Int64)), .second, .val (.long v23_269), .second, .unset, .unset] []))
      refine own_go (XS.iconst X268.here hx rfl (hb hby at_231) (Steps.refl _)) ?_
      show own_Fin _ _ _ _ (T268.setTop (mkF m 232 #[iv p1, .val (.long q2), .second, iv p3, iv p4, iv p5, iv p6, iv (3 : Int32), iv v8_247, iv v9_248, iv v10_250, iv v11_252, iv v12_254, iv v13_256, iv v14_258, iv v15_259, iv v16_260, rv b261, .val (.double r18_267), .second, iv (1 : Int32), .val (.long (0 : Int64)), .second, .val (.long v23_269), .second, .unset, .unset] [(.int (2 : Int32))]))
      refine own_go (XS.iload X268.here hx rfl (hb hby at_232) rfl (Steps.refl _)) ?_
      show own_Fin _ _ _ _ (T268.setTop (mkF m 234 #[iv p1, .val (.long q2), .second, iv p3, iv p4, iv p5, iv p6, iv (3 : Int32), iv v8_247, iv v9_248, iv v10_250, iv v11_252, iv v12_254, iv v13_256, iv v14_258, iv v15_259, iv v16_260, rv b261, .val (.double r18_267), .second, iv (1 : Int32), .val (.long (0 : Int64)), .second, .val (.long v23_269), .second, .unset, .unset] [(.int v12_254), (.int (2 : Int32))]))
      refine own_go (XS.iload X268.here hx rfl (hb hby at_234) rfl (Steps.refl _)) ?_
      show own_Fin _ _ _ _ (T268.setTop (mkF m 236 #[iv p1, .val (.long q2), .second, iv p3, iv p4, iv p5, iv p6, iv (3 : Int32), iv v8_247, iv v9_248, iv v10_250, iv v11_252, iv v12_254, iv v13_256, iv v14_258, iv v15_259, iv v16_260, rv b261, .val (.double r18_267), .second, iv (1 : Int32), .val (.long (0 : Int64)), .second, .val (.long v23_269), .second, .unset, .unset] [(.int v13_256), (.int v12_254), (.int (2 : Int32))]))
      refine own_go (XS.iload X268.here hx rfl (hb hby at_236) rfl (Steps.refl _)) ?_
      show own_Fin _ _ _ _ (T268.setTop (mkF m 238 #[iv p1, .val (.long q2), .second, iv p3, iv p4, iv p5, iv p6, iv (3 : Int32), iv v8_247, iv v9_248, iv v10_250, iv v11_252, iv v12_254, iv v13_256, iv v14_258, iv v15_259, iv v16_260, rv b261, .val (.double r18_267), .second, iv (1 : Int32), .val (.long (0 : Int64)), .second, .val (.long v23_269), .second, .unset, .unset] [(.int v14_258), (.int v13_256), (.int v12_254), (.int (2 : Int32))]))
      refine own_go (XS.iload X268.here hx rfl (hb hby at_238) rfl (Steps.refl _)) ?_
      show own_Fin _ _ _ _ (T268.setTop (mkF m 240 #[iv p1, .val (.long q2), .second, iv p3, iv p4, iv p5, iv p6, iv (3 : Int32), iv v8_247, iv v9_248, iv v10_250, iv v11_252, iv v12_254, iv v13_256, iv v14_258, iv v15_259, iv v16_260, rv b261, .val (.double r18_267), .second, iv (1 : Int32), .val (.long (0 : Int64)), .second, .val (.long v23_269), .second, .unset, .unset] [(.int p4), (.int v14_258), (.int v13_256), (.int v12_254), (.int (2 : Int32))]))
      refine own_go (XS.iload X268.here hx rfl (hb hby at_240) rfl (Steps.refl _)) ?_
      show own_Fin _ _ _ _ (T268.setTop (mkF m 242 #[iv p1, .val (.long q2), .second, iv p3, iv p4, iv p5, iv p6, iv (3 : Int32), iv v8_247, iv v9_248, iv v10_250, iv v11_252, iv v12_254, iv v13_256, iv v14_258, iv v15_259, iv v16_260, rv b261, .val (.double r18_267), .second, iv (1 : Int32), .val (.long (0 : Int64)), .second, .val (.long v23_269), .second, .unset, .unset] [(.int p5), (.int p4), (.int v14_258), (.int v13_256), (.int v12_254), (.int (2 : Int32))]))
      refine own_go (XS.iload X268.here hx rfl (hb hby at_242) rfl (Steps.refl _)) ?_
      show own_Fin _ _ _ _ (T268.setTop (mkF m 244 #[iv p1, .val (.long q2), .second, iv p3, iv p4, iv p5, iv p6, iv (3 : Int32), iv v8_247, iv v9_248, iv v10_250, iv v11_252, iv v12_254, iv v13_256, iv v14_258, iv v15_259, iv v16_260, rv b261, .val (.double r18_267), .second, iv (1 : Int32), .val (.long (0 : Int64)), .second, .val (.long v23_269), .second, .unset, .unset] [(.int p6), (.int p5), (.int p4), (.int v14_258), (.int v13_256), (.int v12_254), (.int (2 : Int32))]))
      obtain ⟨_, _, ⟨T271, L271, k271, n271⟩, -, X271, ⟨Lc271, hQ271, l271, y271, z271⟩, st271⟩ := Jvm.LawKit.callS X268 hx (y := (⟨"com/example/tidewalk/tidewalk/problems/RunMeasuresBestErrorBeforeChangePinLaw", "best", "(IIIIIII)J"⟩ : MethodName)) hown (mvT hZ (hw _ (List.mem_of_getElem? (i := 72) rfl))) (mvT hZ (hw _ (List.mem_of_getElem? (i := 73) rfl))) (mvT hZ (hw _ (List.mem_of_getElem? (i := 9) rfl))) (mvT hZ (hw _ (List.mem_of_getElem? (i := 74) rfl))) (by decide) (backOf (W := 0) (rmbs l Z a0 hw [] (2 : Int32) v12_254 v13_256 v14_258 p4 p5 p6 T265.heap n0 Z265) hZ (hw _ (List.mem_of_getElem? (i := 74) rfl)) (hw _ (List.mem_of_getElem? (i := 9) rfl)) (by decide) (by decide)) (g := (mkF m 244 #[iv p1, .val (.long q2), .second, iv p3, iv p4, iv p5, iv p6, iv (3 : Int32), iv v8_247, iv v9_248, iv v10_250, iv v11_252, iv v12_254, iv v13_256, iv v14_258, iv v15_259, iv v16_260, rv b261, .val (.double r18_267), .second, iv (1 : Int32), .val (.long (0 : Int64)), .second, .val (.long v23_269), .second, .unset, .unset] [(.int p6), (.int p5), (.int p4), (.int v14_258), (.int v13_256), (.int v12_254), (.int (2 : Int32))])) rfl (by rw [hml]; rfl) (argsL := [(.int (2 : Int32)), (.int v12_254), (.int v13_256), (.int v14_258), (.int p4), (.int p5), (.int p6)]) (rest := []) (lenOf pd__28_IIIIIII_29_J rfl) rfl (by show 2 * 0 + _ ≤ _; exact Nat.le_of_eq rfl) (hb hby at_244) (fun _ hv => ⟨rfl, e268, (by decide : 1 + 0 ≤ _), (by decide : 9 + 0 ≤ _)⟩)
      dsimp only [Pt.U, Pt.locs, Pt.cells, Pt.slots] at X271 l271 y271 z271 st271 hQ271
      subst l271 y271 z271
      obtain ⟨rfl, Nq271, e271⟩ := hQ271
      refine own_by st271 ?_
      have N271 := Fr.app N268 Nq271
      show own_Fin _ _ _ _ (T271.setTop (mkF m 247 #[iv p1, .val (.long q2), .second, iv p3, iv p4, iv p5, iv p6, iv (3 : Int32), iv v8_247, iv v9_248, iv v10_250, iv v11_252, iv v12_254, iv v13_256, iv v14_258, iv v15_259, iv v16_260, rv b261, .val (.double r18_267), .second, iv (1 : Int32), .val (.long (0 : Int64)), .second, .val (.long v23_269), .second, .unset, .unset] [(.long (own_lv (own_b3 (2 : Int32) v12_254 v13_256 v14_258 p4 p5 p6)))]))
      refine own_go (XS.lstore X271.here hx rfl (hb hby at_247) rfl rfl (Steps.refl _)) ?_
      show own_Fin _ _ _ _ (T271.setTop (mkF m 249 #[iv p1, .val (.long q2), .second, iv p3, iv p4, iv p5, iv p6, iv (3 : Int32), iv v8_247, iv v9_248, iv v10_250, iv v11_252, iv v12_254, iv v13_256, iv v14_258, iv v15_259, iv v16_260, rv b261, .val (.double r18_267), .second, iv (1 : Int32), .val (.long (0 : Int64)), .second, .val (.long v23_269), .second, .val (.long (own_lv (own_b3 (2 : Int32) v12_254 v13_256 v14_258 p4 p5 p6))), .second] []))
      generalize hz_v25_272 : (own_lv (own_b3 (2 : Int32) v12_254 v13_256 v14_258 p4 p5 p6)) = v25_272
      refine own_go (XS.lload X271.here hx rfl (hb hby at_249) rfl (Steps.refl _)) ?_
      show own_Fin _ _ _ _ (T271.setTop (mkF m 251 #[iv p1, .val (.long q2), .second, iv p3, iv p4, iv p5, iv p6, iv (3 : Int32), iv v8_247, iv v9_248, iv v10_250, iv v11_252, iv v12_254, iv v13_256, iv v14_258, iv v15_259, iv v16_260, rv b261, .val (.double r18_267), .second, iv (1 : Int32), .val (.long (0 : Int64)), .second, .val (.long v23_269), .second, .val (.long v25_272), .second] [(.long v25_272)]))
      refine own_by (X271.ldc2Long hx hown (mvT hZ (hw _ (List.mem_of_getElem? (i := 75) rfl))) (g := (mkF m 251 #[iv p1, .val (.long q2), .second, iv p3, iv p4, iv p5, iv p6, iv (3 : Int32), iv v8_247, iv v9_248, iv v10_250, iv v11_252, iv v12_254, iv v13_256, iv v14_258, iv v15_259, iv v16_260, rv b261, .val (.double r18_267), .second, iv (1 : Int32), .val (.long (0 : Int64)), .second, .val (.long v23_269), .second, .val (.long v25_272), .second] [(.long v25_272)])) rfl (hb hby at_251)) ?_
      show own_Fin _ _ _ _ (T271.setTop (mkF m 254 #[iv p1, .val (.long q2), .second, iv p3, iv p4, iv p5, iv p6, iv (3 : Int32), iv v8_247, iv v9_248, iv v10_250, iv v11_252, iv v12_254, iv v13_256, iv v14_258, iv v15_259, iv v16_260, rv b261, .val (.double r18_267), .second, iv (1 : Int32), .val (.long (0 : Int64)), .second, .val (.long v23_269), .second, .val (.long v25_272), .second] [(.long (-9223372036854775808 : Int64)), (.long v25_272)]))
      refine own_go (XS.lcmp X271.here hx rfl (hb hby at_254) rfl (Steps.refl _)) ?_
      show own_Fin _ _ _ _ (T271.setTop (mkF m 255 #[iv p1, .val (.long q2), .second, iv p3, iv p4, iv p5, iv p6, iv (3 : Int32), iv v8_247, iv v9_248, iv v10_250, iv v11_252, iv v12_254, iv v13_256, iv v14_258, iv v15_259, iv v16_260, rv b261, .val (.double r18_267), .second, iv (1 : Int32), .val (.long (0 : Int64)), .second, .val (.long v23_269), .second, .val (.long v25_272), .second] [(.int (lcmpW v25_272 (-9223372036854775808 : Int64)))]))
      by_cases cb273 : (own_b3 (2 : Int32) v12_254 v13_256 v14_258 p4 p5 p6) = none
      · refine own_go (XS.ifNo X271.here hx rfl (hb hby at_255) rfl ((if0 _ _).trans (teq (show (lcmpW v25_272 (-9223372036854775808 : Int64)) = (0 : Int32) from (by rw [← hz_v25_272]; exact own_lvz cb273))).2) (Steps.refl _)) ?_
        show own_Fin _ _ _ _ (T271.setTop (mkF m 258 #[iv p1, .val (.long q2), .second, iv p3, iv p4, iv p5, iv p6, iv (3 : Int32), iv v8_247, iv v9_248, iv v10_250, iv v11_252, iv v12_254, iv v13_256, iv v14_258, iv v15_259, iv v16_260, rv b261, .val (.double r18_267), .second, iv (1 : Int32), .val (.long (0 : Int64)), .second, .val (.long v23_269), .second, .val (.long v25_272), .second] []))
        refine own_go (XS.iconst X271.here hx rfl (hb hby at_258) (Steps.refl _)) ?_
        show own_Fin _ _ _ _ (T271.setTop (mkF m 259 #[iv p1, .val (.long q2), .second, iv p3, iv p4, iv p5, iv p6, iv (3 : Int32), iv v8_247, iv v9_248, iv v10_250, iv v11_252, iv v12_254, iv v13_256, iv v14_258, iv v15_259, iv v16_260, rv b261, .val (.double r18_267), .second, iv (1 : Int32), .val (.long (0 : Int64)), .second, .val (.long v23_269), .second, .val (.long v25_272), .second] [(.int (1 : Int32))]))
        refine own_go (XS.istore X271.here hx rfl (hb hby at_259) rfl rfl (Steps.refl _)) ?_
        show own_Fin _ _ _ _ (T271.setTop (mkF m 261 #[iv p1, .val (.long q2), .second, iv p3, iv p4, iv p5, iv p6, iv (3 : Int32), iv v8_247, iv v9_248, iv v10_250, iv v11_252, iv v12_254, iv v13_256, iv v14_258, iv v15_259, iv v16_260, rv b261, .val (.double r18_267), .second, iv (1 : Int32), .val (.long (0 : Int64)), .second, .val (.long v23_269), .second, .val (.long v25_272), .second] []))
        refine own_go (XS.goto X271.here hx rfl (pc0 := 261) (pc' := 275) rfl (hb hby at_261) (by decide) (by decide) (Steps.refl _)) ?_
        show own_Fin _ _ _ _ (T271.setTop (mkF m 275 #[iv p1, .val (.long q2), .second, iv p3, iv p4, iv p5, iv p6, iv (3 : Int32), iv v8_247, iv v9_248, iv v10_250, iv v11_252, iv v12_254, iv v13_256, iv v14_258, iv v15_259, iv v16_260, rv b261, .val (.double r18_267), .second, iv (1 : Int32), .val (.long (0 : Int64)), .second, .val (.long v23_269), .second, .val (.long v25_272), .second] []))
        refine own_go (XS.iload X271.here hx rfl (hb hby at_275) rfl (Steps.refl _)) ?_
        show own_Fin _ _ _ _ (T271.setTop (mkF m 277 #[iv p1, .val (.long q2), .second, iv p3, iv p4, iv p5, iv p6, iv (3 : Int32), iv v8_247, iv v9_248, iv v10_250, iv v11_252, iv v12_254, iv v13_256, iv v14_258, iv v15_259, iv v16_260, rv b261, .val (.double r18_267), .second, iv (1 : Int32), .val (.long (0 : Int64)), .second, .val (.long v23_269), .second, .val (.long v25_272), .second] [(.int (3 : Int32))]))
        refine own_go (XS.iconst X271.here hx rfl (hb hby at_277) (Steps.refl _)) ?_
        show own_Fin _ _ _ _ (T271.setTop (mkF m 278 #[iv p1, .val (.long q2), .second, iv p3, iv p4, iv p5, iv p6, iv (3 : Int32), iv v8_247, iv v9_248, iv v10_250, iv v11_252, iv v12_254, iv v13_256, iv v14_258, iv v15_259, iv v16_260, rv b261, .val (.double r18_267), .second, iv (1 : Int32), .val (.long (0 : Int64)), .second, .val (.long v23_269), .second, .val (.long v25_272), .second] [(.int (3 : Int32)), (.int (3 : Int32))]))
        refine own_go (XS.icmpNo X271.here hx rfl (hb hby at_278) rfl (flt (by decide : ¬ ((3 : Int32) < (3 : Int32)))).1 (Steps.refl _)) ?_
        show own_Fin _ _ _ _ (T271.setTop (mkF m 281 #[iv p1, .val (.long q2), .second, iv p3, iv p4, iv p5, iv p6, iv (3 : Int32), iv v8_247, iv v9_248, iv v10_250, iv v11_252, iv v12_254, iv v13_256, iv v14_258, iv v15_259, iv v16_260, rv b261, .val (.double r18_267), .second, iv (1 : Int32), .val (.long (0 : Int64)), .second, .val (.long v23_269), .second, .val (.long v25_272), .second] []))
        refine own_go (XS.iconst X271.here hx rfl (hb hby at_281) (Steps.refl _)) ?_
        show own_Fin _ _ _ _ (T271.setTop (mkF m 282 #[iv p1, .val (.long q2), .second, iv p3, iv p4, iv p5, iv p6, iv (3 : Int32), iv v8_247, iv v9_248, iv v10_250, iv v11_252, iv v12_254, iv v13_256, iv v14_258, iv v15_259, iv v16_260, rv b261, .val (.double r18_267), .second, iv (1 : Int32), .val (.long (0 : Int64)), .second, .val (.long v23_269), .second, .val (.long v25_272), .second] [(.int (3 : Int32))]))
        refine own_go (XS.iload X271.here hx rfl (hb hby at_282) rfl (Steps.refl _)) ?_
        show own_Fin _ _ _ _ (T271.setTop (mkF m 284 #[iv p1, .val (.long q2), .second, iv p3, iv p4, iv p5, iv p6, iv (3 : Int32), iv v8_247, iv v9_248, iv v10_250, iv v11_252, iv v12_254, iv v13_256, iv v14_258, iv v15_259, iv v16_260, rv b261, .val (.double r18_267), .second, iv (1 : Int32), .val (.long (0 : Int64)), .second, .val (.long v23_269), .second, .val (.long v25_272), .second] [(.int v12_254), (.int (3 : Int32))]))
        refine own_go (XS.iload X271.here hx rfl (hb hby at_284) rfl (Steps.refl _)) ?_
        show own_Fin _ _ _ _ (T271.setTop (mkF m 286 #[iv p1, .val (.long q2), .second, iv p3, iv p4, iv p5, iv p6, iv (3 : Int32), iv v8_247, iv v9_248, iv v10_250, iv v11_252, iv v12_254, iv v13_256, iv v14_258, iv v15_259, iv v16_260, rv b261, .val (.double r18_267), .second, iv (1 : Int32), .val (.long (0 : Int64)), .second, .val (.long v23_269), .second, .val (.long v25_272), .second] [(.int v13_256), (.int v12_254), (.int (3 : Int32))]))
        refine own_go (XS.iload X271.here hx rfl (hb hby at_286) rfl (Steps.refl _)) ?_
        show own_Fin _ _ _ _ (T271.setTop (mkF m 288 #[iv p1, .val (.long q2), .second, iv p3, iv p4, iv p5, iv p6, iv (3 : Int32), iv v8_247, iv v9_248, iv v10_250, iv v11_252, iv v12_254, iv v13_256, iv v14_258, iv v15_259, iv v16_260, rv b261, .val (.double r18_267), .second, iv (1 : Int32), .val (.long (0 : Int64)), .second, .val (.long v23_269), .second, .val (.long v25_272), .second] [(.int v14_258), (.int v13_256), (.int v12_254), (.int (3 : Int32))]))
        refine own_go (XS.iload X271.here hx rfl (hb hby at_288) rfl (Steps.refl _)) ?_
        show own_Fin _ _ _ _ (T271.setTop (mkF m 290 #[iv p1, .val (.long q2), .second, iv p3, iv p4, iv p5, iv p6, iv (3 : Int32), iv v8_247, iv v9_248, iv v10_250, iv v11_252, iv v12_254, iv v13_256, iv v14_258, iv v15_259, iv v16_260, rv b261, .val (.double r18_267), .second, iv (1 : Int32), .val (.long (0 : Int64)), .second, .val (.long v23_269), .second, .val (.long v25_272), .second] [(.int p4), (.int v14_258), (.int v13_256), (.int v12_254), (.int (3 : Int32))]))
        refine own_go (XS.iload X271.here hx rfl (hb hby at_290) rfl (Steps.refl _)) ?_
        show own_Fin _ _ _ _ (T271.setTop (mkF m 292 #[iv p1, .val (.long q2), .second, iv p3, iv p4, iv p5, iv p6, iv (3 : Int32), iv v8_247, iv v9_248, iv v10_250, iv v11_252, iv v12_254, iv v13_256, iv v14_258, iv v15_259, iv v16_260, rv b261, .val (.double r18_267), .second, iv (1 : Int32), .val (.long (0 : Int64)), .second, .val (.long v23_269), .second, .val (.long v25_272), .second] [(.int p5), (.int p4), (.int v14_258), (.int v13_256), (.int v12_254), (.int (3 : Int32))]))
        refine own_go (XS.iload X271.here hx rfl (hb hby at_292) rfl (Steps.refl _)) ?_
        show own_Fin _ _ _ _ (T271.setTop (mkF m 294 #[iv p1, .val (.long q2), .second, iv p3, iv p4, iv p5, iv p6, iv (3 : Int32), iv v8_247, iv v9_248, iv v10_250, iv v11_252, iv v12_254, iv v13_256, iv v14_258, iv v15_259, iv v16_260, rv b261, .val (.double r18_267), .second, iv (1 : Int32), .val (.long (0 : Int64)), .second, .val (.long v23_269), .second, .val (.long v25_272), .second] [(.int p6), (.int p5), (.int p4), (.int v14_258), (.int v13_256), (.int v12_254), (.int (3 : Int32))]))
        obtain ⟨_, _, ⟨T274, L274, k274, n274⟩, -, X274, ⟨Lc274, hQ274, l274, y274, z274⟩, st274⟩ := Jvm.LawKit.callS X271 hx (y := (⟨"com/example/tidewalk/tidewalk/problems/RunMeasuresBestErrorBeforeChangePinLaw", "best", "(IIIIIII)J"⟩ : MethodName)) hown (mvT hZ (hw _ (List.mem_of_getElem? (i := 72) rfl))) (mvT hZ (hw _ (List.mem_of_getElem? (i := 73) rfl))) (mvT hZ (hw _ (List.mem_of_getElem? (i := 9) rfl))) (mvT hZ (hw _ (List.mem_of_getElem? (i := 74) rfl))) (by decide) (backOf (W := 0) (rmbs l Z a0 hw [] (3 : Int32) v12_254 v13_256 v14_258 p4 p5 p6 T265.heap n0 Z265) hZ (hw _ (List.mem_of_getElem? (i := 74) rfl)) (hw _ (List.mem_of_getElem? (i := 9) rfl)) (by decide) (by decide)) (g := (mkF m 294 #[iv p1, .val (.long q2), .second, iv p3, iv p4, iv p5, iv p6, iv (3 : Int32), iv v8_247, iv v9_248, iv v10_250, iv v11_252, iv v12_254, iv v13_256, iv v14_258, iv v15_259, iv v16_260, rv b261, .val (.double r18_267), .second, iv (1 : Int32), .val (.long (0 : Int64)), .second, .val (.long v23_269), .second, .val (.long v25_272), .second] [(.int p6), (.int p5), (.int p4), (.int v14_258), (.int v13_256), (.int v12_254), (.int (3 : Int32))])) rfl (by rw [hml]; rfl) (argsL := [(.int (3 : Int32)), (.int v12_254), (.int v13_256), (.int v14_258), (.int p4), (.int p5), (.int p6)]) (rest := []) (lenOf pd__28_IIIIIII_29_J rfl) rfl (by show 2 * 0 + _ ≤ _; exact Nat.le_of_eq rfl) (hb hby at_294) (fun _ hv => ⟨rfl, e271, (by decide : 1 + 0 ≤ _), (by decide : 9 + 0 ≤ _)⟩)
        dsimp only [Pt.U, Pt.locs, Pt.cells, Pt.slots] at X274 l274 y274 z274 st274 hQ274
        subst l274 y274 z274
        obtain ⟨rfl, Nq274, e274⟩ := hQ274
        refine own_by st274 ?_
        have N274 := Fr.app N271 Nq274
        show own_Fin _ _ _ _ (T274.setTop (mkF m 297 #[iv p1, .val (.long q2), .second, iv p3, iv p4, iv p5, iv p6, iv (3 : Int32), iv v8_247, iv v9_248, iv v10_250, iv v11_252, iv v12_254, iv v13_256, iv v14_258, iv v15_259, iv v16_260, rv b261, .val (.double r18_267), .second, iv (1 : Int32), .val (.long (0 : Int64)), .second, .val (.long v23_269), .second, .val (.long v25_272), .second] [(.long (own_lv (own_b3 (3 : Int32) v12_254 v13_256 v14_258 p4 p5 p6)))]))
        refine own_go (XS.lstore X274.here hx rfl (hb hby at_297) rfl rfl (Steps.refl _)) ?_
        show own_Fin _ _ _ _ (T274.setTop (mkF m 299 #[iv p1, .val (.long q2), .second, iv p3, iv p4, iv p5, iv p6, iv (3 : Int32), iv v8_247, iv v9_248, iv v10_250, iv v11_252, iv v12_254, iv v13_256, iv v14_258, iv v15_259, iv v16_260, rv b261, .val (.double r18_267), .second, iv (1 : Int32), .val (.long (0 : Int64)), .second, .val (.long v23_269), .second, .val (.long (own_lv (own_b3 (3 : Int32) v12_254 v13_256 v14_258 p4 p5 p6))), .second] []))
        generalize hz_v25_275 : (own_lv (own_b3 (3 : Int32) v12_254 v13_256 v14_258 p4 p5 p6)) = v25_275
        refine own_go (XS.lload X274.here hx rfl (hb hby at_299) rfl (Steps.refl _)) ?_
        show own_Fin _ _ _ _ (T274.setTop (mkF m 301 #[iv p1, .val (.long q2), .second, iv p3, iv p4, iv p5, iv p6, iv (3 : Int32), iv v8_247, iv v9_248, iv v10_250, iv v11_252, iv v12_254, iv v13_256, iv v14_258, iv v15_259, iv v16_260, rv b261, .val (.double r18_267), .second, iv (1 : Int32), .val (.long (0 : Int64)), .second, .val (.long v23_269), .second, .val (.long v25_275), .second] [(.long v25_275)]))
        refine own_by (X274.ldc2Long hx hown (mvT hZ (hw _ (List.mem_of_getElem? (i := 75) rfl))) (g := (mkF m 301 #[iv p1, .val (.long q2), .second, iv p3, iv p4, iv p5, iv p6, iv (3 : Int32), iv v8_247, iv v9_248, iv v10_250, iv v11_252, iv v12_254, iv v13_256, iv v14_258, iv v15_259, iv v16_260, rv b261, .val (.double r18_267), .second, iv (1 : Int32), .val (.long (0 : Int64)), .second, .val (.long v23_269), .second, .val (.long v25_275), .second] [(.long v25_275)])) rfl (hb hby at_301)) ?_
        show own_Fin _ _ _ _ (T274.setTop (mkF m 304 #[iv p1, .val (.long q2), .second, iv p3, iv p4, iv p5, iv p6, iv (3 : Int32), iv v8_247, iv v9_248, iv v10_250, iv v11_252, iv v12_254, iv v13_256, iv v14_258, iv v15_259, iv v16_260, rv b261, .val (.double r18_267), .second, iv (1 : Int32), .val (.long (0 : Int64)), .second, .val (.long v23_269), .second, .val (.long v25_275), .second] [(.long (-9223372036854775808 : Int64)), (.long v25_275)]))
        refine own_go (XS.lcmp X274.here hx rfl (hb hby at_304) rfl (Steps.refl _)) ?_
        show own_Fin _ _ _ _ (T274.setTop (mkF m 305 #[iv p1, .val (.long q2), .second, iv p3, iv p4, iv p5, iv p6, iv (3 : Int32), iv v8_247, iv v9_248, iv v10_250, iv v11_252, iv v12_254, iv v13_256, iv v14_258, iv v15_259, iv v16_260, rv b261, .val (.double r18_267), .second, iv (1 : Int32), .val (.long (0 : Int64)), .second, .val (.long v23_269), .second, .val (.long v25_275), .second] [(.int (lcmpW v25_275 (-9223372036854775808 : Int64)))]))
        by_cases cb276 : (own_b3 (3 : Int32) v12_254 v13_256 v14_258 p4 p5 p6) = none
        · refine own_go (XS.ifNo X274.here hx rfl (hb hby at_305) rfl ((if0 _ _).trans (teq (show (lcmpW v25_275 (-9223372036854775808 : Int64)) = (0 : Int32) from (by rw [← hz_v25_275]; exact own_lvz cb276))).2) (Steps.refl _)) ?_
          show own_Fin _ _ _ _ (T274.setTop (mkF m 308 #[iv p1, .val (.long q2), .second, iv p3, iv p4, iv p5, iv p6, iv (3 : Int32), iv v8_247, iv v9_248, iv v10_250, iv v11_252, iv v12_254, iv v13_256, iv v14_258, iv v15_259, iv v16_260, rv b261, .val (.double r18_267), .second, iv (1 : Int32), .val (.long (0 : Int64)), .second, .val (.long v23_269), .second, .val (.long v25_275), .second] []))
          refine own_go (XS.iconst X274.here hx rfl (hb hby at_308) (Steps.refl _)) ?_
          show own_Fin _ _ _ _ (T274.setTop (mkF m 309 #[iv p1, .val (.long q2), .second, iv p3, iv p4, iv p5, iv p6, iv (3 : Int32), iv v8_247, iv v9_248, iv v10_250, iv v11_252, iv v12_254, iv v13_256, iv v14_258, iv v15_259, iv v16_260, rv b261, .val (.double r18_267), .second, iv (1 : Int32), .val (.long (0 : Int64)), .second, .val (.long v23_269), .second, .val (.long v25_275), .second] [(.int (1 : Int32))]))
          refine own_go (XS.istore X274.here hx rfl (hb hby at_309) rfl rfl (Steps.refl _)) ?_
          show own_Fin _ _ _ _ (T274.setTop (mkF m 311 #[iv p1, .val (.long q2), .second, iv p3, iv p4, iv p5, iv p6, iv (3 : Int32), iv v8_247, iv v9_248, iv v10_250, iv v11_252, iv v12_254, iv v13_256, iv v14_258, iv v15_259, iv v16_260, rv b261, .val (.double r18_267), .second, iv (1 : Int32), .val (.long (0 : Int64)), .second, .val (.long v23_269), .second, .val (.long v25_275), .second] []))
          refine own_go (XS.goto X274.here hx rfl (pc0 := 311) (pc' := 324) rfl (hb hby at_311) (by decide) (by decide) (Steps.refl _)) ?_
          show own_Fin _ _ _ _ (T274.setTop (mkF m 324 #[iv p1, .val (.long q2), .second, iv p3, iv p4, iv p5, iv p6, iv (3 : Int32), iv v8_247, iv v9_248, iv v10_250, iv v11_252, iv v12_254, iv v13_256, iv v14_258, iv v15_259, iv v16_260, rv b261, .val (.double r18_267), .second, iv (1 : Int32), .val (.long (0 : Int64)), .second, .val (.long v23_269), .second, .val (.long v25_275), .second] []))
          refine own_go (XS.iload X274.here hx rfl (hb hby at_324) rfl (Steps.refl _)) ?_
          show own_Fin _ _ _ _ (T274.setTop (mkF m 326 #[iv p1, .val (.long q2), .second, iv p3, iv p4, iv p5, iv p6, iv (3 : Int32), iv v8_247, iv v9_248, iv v10_250, iv v11_252, iv v12_254, iv v13_256, iv v14_258, iv v15_259, iv v16_260, rv b261, .val (.double r18_267), .second, iv (1 : Int32), .val (.long (0 : Int64)), .second, .val (.long v23_269), .second, .val (.long v25_275), .second] [(.int (1 : Int32))]))
          refine own_go (XS.ifNo X274.here hx rfl (hb hby at_326) rfl ((if0 _ _).trans (feq (by decide : ¬ ((1 : Int32) = (0 : Int32)))).1) (Steps.refl _)) ?_
          show own_Fin _ _ _ _ (T274.setTop (mkF m 329 #[iv p1, .val (.long q2), .second, iv p3, iv p4, iv p5, iv p6, iv (3 : Int32), iv v8_247, iv v9_248, iv v10_250, iv v11_252, iv v12_254, iv v13_256, iv v14_258, iv v15_259, iv v16_260, rv b261, .val (.double r18_267), .second, iv (1 : Int32), .val (.long (0 : Int64)), .second, .val (.long v23_269), .second, .val (.long v25_275), .second] []))
          refine own_go (XS.dload X274.here hx rfl (hb hby at_329) rfl (Steps.refl _)) ?_
          show own_Fin _ _ _ _ (T274.setTop (mkF m 331 #[iv p1, .val (.long q2), .second, iv p3, iv p4, iv p5, iv p6, iv (3 : Int32), iv v8_247, iv v9_248, iv v10_250, iv v11_252, iv v12_254, iv v13_256, iv v14_258, iv v15_259, iv v16_260, rv b261, .val (.double r18_267), .second, iv (1 : Int32), .val (.long (0 : Int64)), .second, .val (.long v23_269), .second, .val (.long v25_275), .second] [(.double r18_267)]))
          refine own_by (X274.ldc2DoubleC hx hown (mvT hZ (hw _ (List.mem_of_getElem? (i := 79) rfl))) (g := (mkF m 331 #[iv p1, .val (.long q2), .second, iv p3, iv p4, iv p5, iv p6, iv (3 : Int32), iv v8_247, iv v9_248, iv v10_250, iv v11_252, iv v12_254, iv v13_256, iv v14_258, iv v15_259, iv v16_260, rv b261, .val (.double r18_267), .second, iv (1 : Int32), .val (.long (0 : Int64)), .second, .val (.long v23_269), .second, .val (.long v25_275), .second] [(.double r18_267)])) rfl (hb hby at_331)) ?_
          show own_Fin _ _ _ _ (T274.setTop (mkF m 334 #[iv p1, .val (.long q2), .second, iv p3, iv p4, iv p5, iv p6, iv (3 : Int32), iv v8_247, iv v9_248, iv v10_250, iv v11_252, iv v12_254, iv v13_256, iv v14_258, iv v15_259, iv v16_260, rv b261, .val (.double r18_267), .second, iv (1 : Int32), .val (.long (0 : Int64)), .second, .val (.long v23_269), .second, .val (.long v25_275), .second] [(.double (9218868437227405312 : UInt64)), (.double r18_267)]))
          refine own_go (XS.dcmpS X274.here hx rfl (hb hby at_334) rfl (show cmpValue (FP.dcmp r18_267 (9218868437227405312 : UInt64)) .l = (0 : Int32) from (by rw [← hz_r18_267]; exact own_ci (own_z3 (Or.inl cb270)) (by decide))) (Steps.refl _)) ?_
          show own_Fin _ _ _ _ (T274.setTop (mkF m 335 #[iv p1, .val (.long q2), .second, iv p3, iv p4, iv p5, iv p6, iv (3 : Int32), iv v8_247, iv v9_248, iv v10_250, iv v11_252, iv v12_254, iv v13_256, iv v14_258, iv v15_259, iv v16_260, rv b261, .val (.double r18_267), .second, iv (1 : Int32), .val (.long (0 : Int64)), .second, .val (.long v23_269), .second, .val (.long v25_275), .second] [(.int (0 : Int32))]))
          refine own_go (XS.ifNo X274.here hx rfl (hb hby at_335) rfl ((if0 _ _).trans (teq (by decide : (0 : Int32) = (0 : Int32))).2) (Steps.refl _)) ?_
          show own_Fin _ _ _ _ (T274.setTop (mkF m 338 #[iv p1, .val (.long q2), .second, iv p3, iv p4, iv p5, iv p6, iv (3 : Int32), iv v8_247, iv v9_248, iv v10_250, iv v11_252, iv v12_254, iv v13_256, iv v14_258, iv v15_259, iv v16_260, rv b261, .val (.double r18_267), .second, iv (1 : Int32), .val (.long (0 : Int64)), .second, .val (.long v23_269), .second, .val (.long v25_275), .second] []))
          refine own_go (XS.iconst X274.here hx rfl (hb hby at_338) (Steps.refl _)) ?_
          show own_Fin _ _ _ _ (T274.setTop (mkF m 339 #[iv p1, .val (.long q2), .second, iv p3, iv p4, iv p5, iv p6, iv (3 : Int32), iv v8_247, iv v9_248, iv v10_250, iv v11_252, iv v12_254, iv v13_256, iv v14_258, iv v15_259, iv v16_260, rv b261, .val (.double r18_267), .second, iv (1 : Int32), .val (.long (0 : Int64)), .second, .val (.long v23_269), .second, .val (.long v25_275), .second] [(.int (1 : Int32))]))
          refine own_go (XS.goto X274.here hx rfl (pc0 := 339) (pc' := 343) rfl (hb hby at_339) (by decide) (by decide) (Steps.refl _)) ?_
          show own_Fin _ _ _ _ (T274.setTop (mkF m 343 #[iv p1, .val (.long q2), .second, iv p3, iv p4, iv p5, iv p6, iv (3 : Int32), iv v8_247, iv v9_248, iv v10_250, iv v11_252, iv v12_254, iv v13_256, iv v14_258, iv v15_259, iv v16_260, rv b261, .val (.double r18_267), .second, iv (1 : Int32), .val (.long (0 : Int64)), .second, .val (.long v23_269), .second, .val (.long v25_275), .second] [(.int (1 : Int32))]))
          obtain ⟨fs277, hr277, hrun277, hended277, hW277, hsame277⟩ := X274.leave (v := some (.int (1 : Int32))) (fun h => by rw [Bd.returns] at h; cases h)
          refine own_done (retN X274 hx (t := .boolean) Bd.returns (by simp) (hb hby at_343) hr277) hrun277 hended277 ⟨_, _, rfl, ?_, ⟨_, rfl⟩, hW277, hsame277.mono (by decide) (by decide)⟩
          show Q0 Z p1 q2 p3 p4 p5 p6 h0 n0 _ T274.heap _
          rw [e274]
          exact ⟨rfl, N274⟩
        · refine own_go (XS.ifYes X274.here hx rfl (pc0 := 305) (pc' := 314) rfl (hb hby at_305) rfl ((if0 _ _).trans (feq (show ¬ ((lcmpW v25_275 (-9223372036854775808 : Int64)) = (0 : Int32)) from (by rw [← hz_v25_275]; exact own_lvne (own_W3 _ _ _ _ _ _ _) cb276))).2) (by decide) (by decide) (Steps.refl _)) ?_
          show own_Fin _ _ _ _ (T274.setTop (mkF m 314 #[iv p1, .val (.long q2), .second, iv p3, iv p4, iv p5, iv p6, iv (3 : Int32), iv v8_247, iv v9_248, iv v10_250, iv v11_252, iv v12_254, iv v13_256, iv v14_258, iv v15_259, iv v16_260, rv b261, .val (.double r18_267), .second, iv (1 : Int32), .val (.long (0 : Int64)), .second, .val (.long v23_269), .second, .val (.long v25_275), .second] []))
          refine own_go (XS.lload X274.here hx rfl (hb hby at_314) rfl (Steps.refl _)) ?_
          show own_Fin _ _ _ _ (T274.setTop (mkF m 316 #[iv p1, .val (.long q2), .second, iv p3, iv p4, iv p5, iv p6, iv (3 : Int32), iv v8_247, iv v9_248, iv v10_250, iv v11_252, iv v12_254, iv v13_256, iv v14_258, iv v15_259, iv v16_260, rv b261, .val (.double r18_267), .second, iv (1 : Int32), .val (.long (0 : Int64)), .second, .val (.long v23_269), .second, .val (.long v25_275), .second] [(.long (0 : Int64))]))
          refine own_go (XS.iloadN X274.here hx rfl (hb hby at_316) rfl (Steps.refl _)) ?_
          show own_Fin _ _ _ _ (T274.setTop (mkF m 317 #[iv p1, .val (.long q2), .second, iv p3, iv p4, iv p5, iv p6, iv (3 : Int32), iv v8_247, iv v9_248, iv v10_250, iv v11_252, iv v12_254, iv v13_256, iv v14_258, iv v15_259, iv v16_260, rv b261, .val (.double r18_267), .second, iv (1 : Int32), .val (.long (0 : Int64)), .second, .val (.long v23_269), .second, .val (.long v25_275), .second] [(.int p3), (.long (0 : Int64))]))
          refine own_go (XS.i2l X274.here hx rfl (hb hby at_317) rfl (Steps.refl _)) ?_
          show own_Fin _ _ _ _ (T274.setTop (mkF m 318 #[iv p1, .val (.long q2), .second, iv p3, iv p4, iv p5, iv p6, iv (3 : Int32), iv v8_247, iv v9_248, iv v10_250, iv v11_252, iv v12_254, iv v13_256, iv v14_258, iv v15_259, iv v16_260, rv b261, .val (.double r18_267), .second, iv (1 : Int32), .val (.long (0 : Int64)), .second, .val (.long v23_269), .second, .val (.long v25_275), .second] [(.long (p3.toInt64)), (.long (0 : Int64))]))
          refine own_go (XS.lload X274.here hx rfl (hb hby at_318) rfl (Steps.refl _)) ?_
          show own_Fin _ _ _ _ (T274.setTop (mkF m 320 #[iv p1, .val (.long q2), .second, iv p3, iv p4, iv p5, iv p6, iv (3 : Int32), iv v8_247, iv v9_248, iv v10_250, iv v11_252, iv v12_254, iv v13_256, iv v14_258, iv v15_259, iv v16_260, rv b261, .val (.double r18_267), .second, iv (1 : Int32), .val (.long (0 : Int64)), .second, .val (.long v23_269), .second, .val (.long v25_275), .second] [(.long v25_275), (.long (p3.toInt64)), (.long (0 : Int64))]))
          refine own_go (XS.lsub X274.here hx rfl (hb hby at_320) rfl (Steps.refl _)) ?_
          show own_Fin _ _ _ _ (T274.setTop (mkF m 321 #[iv p1, .val (.long q2), .second, iv p3, iv p4, iv p5, iv p6, iv (3 : Int32), iv v8_247, iv v9_248, iv v10_250, iv v11_252, iv v12_254, iv v13_256, iv v14_258, iv v15_259, iv v16_260, rv b261, .val (.double r18_267), .second, iv (1 : Int32), .val (.long (0 : Int64)), .second, .val (.long v23_269), .second, .val (.long v25_275), .second] [(.long ((p3.toInt64) - v25_275)), (.long (0 : Int64))]))
          refine own_go (XS.ladd X274.here hx rfl (hb hby at_321) rfl (Steps.refl _)) ?_
          show own_Fin _ _ _ _ (T274.setTop (mkF m 322 #[iv p1, .val (.long q2), .second, iv p3, iv p4, iv p5, iv p6, iv (3 : Int32), iv v8_247, iv v9_248, iv v10_250, iv v11_252, iv v12_254, iv v13_256, iv v14_258, iv v15_259, iv v16_260, rv b261, .val (.double r18_267), .second, iv (1 : Int32), .val (.long (0 : Int64)), .second, .val (.long v23_269), .second, .val (.long v25_275), .second] [(.long ((0 : Int64) + ((p3.toInt64) - v25_275)))]))
          refine own_go (XS.lstore X274.here hx rfl (hb hby at_322) rfl rfl (Steps.refl _)) ?_
          show own_Fin _ _ _ _ (T274.setTop (mkF m 324 #[iv p1, .val (.long q2), .second, iv p3, iv p4, iv p5, iv p6, iv (3 : Int32), iv v8_247, iv v9_248, iv v10_250, iv v11_252, iv v12_254, iv v13_256, iv v14_258, iv v15_259, iv v16_260, rv b261, .val (.double r18_267), .second, iv (1 : Int32), .val (.long ((0 : Int64) + ((p3.toInt64) - v25_275))), .second, .val (.long v23_269), .second, .val (.long v25_275), .second] []))
          generalize hz_v21_278 : ((0 : Int64) + ((p3.toInt64) - v25_275)) = v21_278
          refine own_go (XS.iload X274.here hx rfl (hb hby at_324) rfl (Steps.refl _)) ?_
          show own_Fin _ _ _ _ (T274.setTop (mkF m 326 #[iv p1, .val (.long q2), .second, iv p3, iv p4, iv p5, iv p6, iv (3 : Int32), iv v8_247, iv v9_248, iv v10_250, iv v11_252, iv v12_254, iv v13_256, iv v14_258, iv v15_259, iv v16_260, rv b261, .val (.double r18_267), .second, iv (1 : Int32), .val (.long v21_278), .second, .val (.long v23_269), .second, .val (.long v25_275), .second] [(.int (1 : Int32))]))
          refine own_go (XS.ifNo X274.here hx rfl (hb hby at_326) rfl ((if0 _ _).trans (feq (by decide : ¬ ((1 : Int32) = (0 : Int32)))).1) (Steps.refl _)) ?_
          show own_Fin _ _ _ _ (T274.setTop (mkF m 329 #[iv p1, .val (.long q2), .second, iv p3, iv p4, iv p5, iv p6, iv (3 : Int32), iv v8_247, iv v9_248, iv v10_250, iv v11_252, iv v12_254, iv v13_256, iv v14_258, iv v15_259, iv v16_260, rv b261, .val (.double r18_267), .second, iv (1 : Int32), .val (.long v21_278), .second, .val (.long v23_269), .second, .val (.long v25_275), .second] []))
          refine own_go (XS.dload X274.here hx rfl (hb hby at_329) rfl (Steps.refl _)) ?_
          show own_Fin _ _ _ _ (T274.setTop (mkF m 331 #[iv p1, .val (.long q2), .second, iv p3, iv p4, iv p5, iv p6, iv (3 : Int32), iv v8_247, iv v9_248, iv v10_250, iv v11_252, iv v12_254, iv v13_256, iv v14_258, iv v15_259, iv v16_260, rv b261, .val (.double r18_267), .second, iv (1 : Int32), .val (.long v21_278), .second, .val (.long v23_269), .second, .val (.long v25_275), .second] [(.double r18_267)]))
          refine own_by (X274.ldc2DoubleC hx hown (mvT hZ (hw _ (List.mem_of_getElem? (i := 79) rfl))) (g := (mkF m 331 #[iv p1, .val (.long q2), .second, iv p3, iv p4, iv p5, iv p6, iv (3 : Int32), iv v8_247, iv v9_248, iv v10_250, iv v11_252, iv v12_254, iv v13_256, iv v14_258, iv v15_259, iv v16_260, rv b261, .val (.double r18_267), .second, iv (1 : Int32), .val (.long v21_278), .second, .val (.long v23_269), .second, .val (.long v25_275), .second] [(.double r18_267)])) rfl (hb hby at_331)) ?_
          show own_Fin _ _ _ _ (T274.setTop (mkF m 334 #[iv p1, .val (.long q2), .second, iv p3, iv p4, iv p5, iv p6, iv (3 : Int32), iv v8_247, iv v9_248, iv v10_250, iv v11_252, iv v12_254, iv v13_256, iv v14_258, iv v15_259, iv v16_260, rv b261, .val (.double r18_267), .second, iv (1 : Int32), .val (.long v21_278), .second, .val (.long v23_269), .second, .val (.long v25_275), .second] [(.double (9218868437227405312 : UInt64)), (.double r18_267)]))
          refine own_go (XS.dcmpS X274.here hx rfl (hb hby at_334) rfl (show cmpValue (FP.dcmp r18_267 (9218868437227405312 : UInt64)) .l = (0 : Int32) from (by rw [← hz_r18_267]; exact own_ci (own_z3 (Or.inl cb270)) (by decide))) (Steps.refl _)) ?_
          show own_Fin _ _ _ _ (T274.setTop (mkF m 335 #[iv p1, .val (.long q2), .second, iv p3, iv p4, iv p5, iv p6, iv (3 : Int32), iv v8_247, iv v9_248, iv v10_250, iv v11_252, iv v12_254, iv v13_256, iv v14_258, iv v15_259, iv v16_260, rv b261, .val (.double r18_267), .second, iv (1 : Int32), .val (.long v21_278), .second, .val (.long v23_269), .second, .val (.long v25_275), .second] [(.int (0 : Int32))]))
          refine own_go (XS.ifNo X274.here hx rfl (hb hby at_335) rfl ((if0 _ _).trans (teq (by decide : (0 : Int32) = (0 : Int32))).2) (Steps.refl _)) ?_
          show own_Fin _ _ _ _ (T274.setTop (mkF m 338 #[iv p1, .val (.long q2), .second, iv p3, iv p4, iv p5, iv p6, iv (3 : Int32), iv v8_247, iv v9_248, iv v10_250, iv v11_252, iv v12_254, iv v13_256, iv v14_258, iv v15_259, iv v16_260, rv b261, .val (.double r18_267), .second, iv (1 : Int32), .val (.long v21_278), .second, .val (.long v23_269), .second, .val (.long v25_275), .second] []))
          refine own_go (XS.iconst X274.here hx rfl (hb hby at_338) (Steps.refl _)) ?_
          show own_Fin _ _ _ _ (T274.setTop (mkF m 339 #[iv p1, .val (.long q2), .second, iv p3, iv p4, iv p5, iv p6, iv (3 : Int32), iv v8_247, iv v9_248, iv v10_250, iv v11_252, iv v12_254, iv v13_256, iv v14_258, iv v15_259, iv v16_260, rv b261, .val (.double r18_267), .second, iv (1 : Int32), .val (.long v21_278), .second, .val (.long v23_269), .second, .val (.long v25_275), .second] [(.int (1 : Int32))]))
          refine own_go (XS.goto X274.here hx rfl (pc0 := 339) (pc' := 343) rfl (hb hby at_339) (by decide) (by decide) (Steps.refl _)) ?_
          show own_Fin _ _ _ _ (T274.setTop (mkF m 343 #[iv p1, .val (.long q2), .second, iv p3, iv p4, iv p5, iv p6, iv (3 : Int32), iv v8_247, iv v9_248, iv v10_250, iv v11_252, iv v12_254, iv v13_256, iv v14_258, iv v15_259, iv v16_260, rv b261, .val (.double r18_267), .second, iv (1 : Int32), .val (.long v21_278), .second, .val (.long v23_269), .second, .val (.long v25_275), .second] [(.int (1 : Int32))]))
          obtain ⟨fs279, hr279, hrun279, hended279, hW279, hsame279⟩ := X274.leave (v := some (.int (1 : Int32))) (fun h => by rw [Bd.returns] at h; cases h)
          refine own_done (retN X274 hx (t := .boolean) Bd.returns (by simp) (hb hby at_343) hr279) hrun279 hended279 ⟨_, _, rfl, ?_, ⟨_, rfl⟩, hW279, hsame279.mono (by decide) (by decide)⟩
          show Q0 Z p1 q2 p3 p4 p5 p6 h0 n0 _ T274.heap _
          rw [e274]
          exact ⟨rfl, N274⟩
      · refine own_go (XS.ifYes X271.here hx rfl (pc0 := 255) (pc' := 264) rfl (hb hby at_255) rfl ((if0 _ _).trans (feq (show ¬ ((lcmpW v25_272 (-9223372036854775808 : Int64)) = (0 : Int32)) from (by rw [← hz_v25_272]; exact own_lvne (own_W3 _ _ _ _ _ _ _) cb273))).2) (by decide) (by decide) (Steps.refl _)) ?_
        show own_Fin _ _ _ _ (T271.setTop (mkF m 264 #[iv p1, .val (.long q2), .second, iv p3, iv p4, iv p5, iv p6, iv (3 : Int32), iv v8_247, iv v9_248, iv v10_250, iv v11_252, iv v12_254, iv v13_256, iv v14_258, iv v15_259, iv v16_260, rv b261, .val (.double r18_267), .second, iv (1 : Int32), .val (.long (0 : Int64)), .second, .val (.long v23_269), .second, .val (.long v25_272), .second] []))
        refine own_go (XS.lload X271.here hx rfl (hb hby at_264) rfl (Steps.refl _)) ?_
        show own_Fin _ _ _ _ (T271.setTop (mkF m 266 #[iv p1, .val (.long q2), .second, iv p3, iv p4, iv p5, iv p6, iv (3 : Int32), iv v8_247, iv v9_248, iv v10_250, iv v11_252, iv v12_254, iv v13_256, iv v14_258, iv v15_259, iv v16_260, rv b261, .val (.double r18_267), .second, iv (1 : Int32), .val (.long (0 : Int64)), .second, .val (.long v23_269), .second, .val (.long v25_272), .second] [(.long (0 : Int64))]))
        refine own_go (XS.iload X271.here hx rfl (hb hby at_266) rfl (Steps.refl _)) ?_
        show own_Fin _ _ _ _ (T271.setTop (mkF m 268 #[iv p1, .val (.long q2), .second, iv p3, iv p4, iv p5, iv p6, iv (3 : Int32), iv v8_247, iv v9_248, iv v10_250, iv v11_252, iv v12_254, iv v13_256, iv v14_258, iv v15_259, iv v16_260, rv b261, .val (.double r18_267), .second, iv (1 : Int32), .val (.long (0 : Int64)), .second, .val (.long v23_269), .second, .val (.long v25_272), .second] [(.int v16_260), (.long (0 : Int64))]))
        refine own_go (XS.i2l X271.here hx rfl (hb hby at_268) rfl (Steps.refl _)) ?_
        show own_Fin _ _ _ _ (T271.setTop (mkF m 269 #[iv p1, .val (.long q2), .second, iv p3, iv p4, iv p5, iv p6, iv (3 : Int32), iv v8_247, iv v9_248, iv v10_250, iv v11_252, iv v12_254, iv v13_256, iv v14_258, iv v15_259, iv v16_260, rv b261, .val (.double r18_267), .second, iv (1 : Int32), .val (.long (0 : Int64)), .second, .val (.long v23_269), .second, .val (.long v25_272), .second] [(.long (v16_260.toInt64)), (.long (0 : Int64))]))
        refine own_go (XS.lload X271.here hx rfl (hb hby at_269) rfl (Steps.refl _)) ?_
        show own_Fin _ _ _ _ (T271.setTop (mkF m 271 #[iv p1, .val (.long q2), .second, iv p3, iv p4, iv p5, iv p6, iv (3 : Int32), iv v8_247, iv v9_248, iv v10_250, iv v11_252, iv v12_254, iv v13_256, iv v14_258, iv v15_259, iv v16_260, rv b261, .val (.double r18_267), .second, iv (1 : Int32), .val (.long (0 : Int64)), .second, .val (.long v23_269), .second, .val (.long v25_272), .second] [(.long v25_272), (.long (v16_260.toInt64)), (.long (0 : Int64))]))
        refine own_go (XS.lsub X271.here hx rfl (hb hby at_271) rfl (Steps.refl _)) ?_
        show own_Fin _ _ _ _ (T271.setTop (mkF m 272 #[iv p1, .val (.long q2), .second, iv p3, iv p4, iv p5, iv p6, iv (3 : Int32), iv v8_247, iv v9_248, iv v10_250, iv v11_252, iv v12_254, iv v13_256, iv v14_258, iv v15_259, iv v16_260, rv b261, .val (.double r18_267), .second, iv (1 : Int32), .val (.long (0 : Int64)), .second, .val (.long v23_269), .second, .val (.long v25_272), .second] [(.long ((v16_260.toInt64) - v25_272)), (.long (0 : Int64))]))
        refine own_go (XS.ladd X271.here hx rfl (hb hby at_272) rfl (Steps.refl _)) ?_
        show own_Fin _ _ _ _ (T271.setTop (mkF m 273 #[iv p1, .val (.long q2), .second, iv p3, iv p4, iv p5, iv p6, iv (3 : Int32), iv v8_247, iv v9_248, iv v10_250, iv v11_252, iv v12_254, iv v13_256, iv v14_258, iv v15_259, iv v16_260, rv b261, .val (.double r18_267), .second, iv (1 : Int32), .val (.long (0 : Int64)), .second, .val (.long v23_269), .second, .val (.long v25_272), .second] [(.long ((0 : Int64) + ((v16_260.toInt64) - v25_272)))]))
        refine own_go (XS.lstore X271.here hx rfl (hb hby at_273) rfl rfl (Steps.refl _)) ?_
        show own_Fin _ _ _ _ (T271.setTop (mkF m 275 #[iv p1, .val (.long q2), .second, iv p3, iv p4, iv p5, iv p6, iv (3 : Int32), iv v8_247, iv v9_248, iv v10_250, iv v11_252, iv v12_254, iv v13_256, iv v14_258, iv v15_259, iv v16_260, rv b261, .val (.double r18_267), .second, iv (1 : Int32), .val (.long ((0 : Int64) + ((v16_260.toInt64) - v25_272))), .second, .val (.long v23_269), .second, .val (.long v25_272), .second] []))
        generalize hz_v21_280 : ((0 : Int64) + ((v16_260.toInt64) - v25_272)) = v21_280
        refine own_go (XS.iload X271.here hx rfl (hb hby at_275) rfl (Steps.refl _)) ?_
        show own_Fin _ _ _ _ (T271.setTop (mkF m 277 #[iv p1, .val (.long q2), .second, iv p3, iv p4, iv p5, iv p6, iv (3 : Int32), iv v8_247, iv v9_248, iv v10_250, iv v11_252, iv v12_254, iv v13_256, iv v14_258, iv v15_259, iv v16_260, rv b261, .val (.double r18_267), .second, iv (1 : Int32), .val (.long v21_280), .second, .val (.long v23_269), .second, .val (.long v25_272), .second] [(.int (3 : Int32))]))
        refine own_go (XS.iconst X271.here hx rfl (hb hby at_277) (Steps.refl _)) ?_
        show own_Fin _ _ _ _ (T271.setTop (mkF m 278 #[iv p1, .val (.long q2), .second, iv p3, iv p4, iv p5, iv p6, iv (3 : Int32), iv v8_247, iv v9_248, iv v10_250, iv v11_252, iv v12_254, iv v13_256, iv v14_258, iv v15_259, iv v16_260, rv b261, .val (.double r18_267), .second, iv (1 : Int32), .val (.long v21_280), .second, .val (.long v23_269), .second, .val (.long v25_272), .second] [(.int (3 : Int32)), (.int (3 : Int32))]))
        refine own_go (XS.icmpNo X271.here hx rfl (hb hby at_278) rfl (flt (by decide : ¬ ((3 : Int32) < (3 : Int32)))).1 (Steps.refl _)) ?_
        show own_Fin _ _ _ _ (T271.setTop (mkF m 281 #[iv p1, .val (.long q2), .second, iv p3, iv p4, iv p5, iv p6, iv (3 : Int32), iv v8_247, iv v9_248, iv v10_250, iv v11_252, iv v12_254, iv v13_256, iv v14_258, iv v15_259, iv v16_260, rv b261, .val (.double r18_267), .second, iv (1 : Int32), .val (.long v21_280), .second, .val (.long v23_269), .second, .val (.long v25_272), .second] []))
        refine own_go (XS.iconst X271.here hx rfl (hb hby at_281) (Steps.refl _)) ?_
        show own_Fin _ _ _ _ (T271.setTop (mkF m 282 #[iv p1, .val (.long q2), .second, iv p3, iv p4, iv p5, iv p6, iv (3 : Int32), iv v8_247, iv v9_248, iv v10_250, iv v11_252, iv v12_254, iv v13_256, iv v14_258, iv v15_259, iv v16_260, rv b261, .val (.double r18_267), .second, iv (1 : Int32), .val (.long v21_280), .second, .val (.long v23_269), .second, .val (.long v25_272), .second] [(.int (3 : Int32))]))
        refine own_go (XS.iload X271.here hx rfl (hb hby at_282) rfl (Steps.refl _)) ?_
        show own_Fin _ _ _ _ (T271.setTop (mkF m 284 #[iv p1, .val (.long q2), .second, iv p3, iv p4, iv p5, iv p6, iv (3 : Int32), iv v8_247, iv v9_248, iv v10_250, iv v11_252, iv v12_254, iv v13_256, iv v14_258, iv v15_259, iv v16_260, rv b261, .val (.double r18_267), .second, iv (1 : Int32), .val (.long v21_280), .second, .val (.long v23_269), .second, .val (.long v25_272), .second] [(.int v12_254), (.int (3 : Int32))]))
        refine own_go (XS.iload X271.here hx rfl (hb hby at_284) rfl (Steps.refl _)) ?_
        show own_Fin _ _ _ _ (T271.setTop (mkF m 286 #[iv p1, .val (.long q2), .second, iv p3, iv p4, iv p5, iv p6, iv (3 : Int32), iv v8_247, iv v9_248, iv v10_250, iv v11_252, iv v12_254, iv v13_256, iv v14_258, iv v15_259, iv v16_260, rv b261, .val (.double r18_267), .second, iv (1 : Int32), .val (.long v21_280), .second, .val (.long v23_269), .second, .val (.long v25_272), .second] [(.int v13_256), (.int v12_254), (.int (3 : Int32))]))
        refine own_go (XS.iload X271.here hx rfl (hb hby at_286) rfl (Steps.refl _)) ?_
        show own_Fin _ _ _ _ (T271.setTop (mkF m 288 #[iv p1, .val (.long q2), .second, iv p3, iv p4, iv p5, iv p6, iv (3 : Int32), iv v8_247, iv v9_248, iv v10_250, iv v11_252, iv v12_254, iv v13_256, iv v14_258, iv v15_259, iv v16_260, rv b261, .val (.double r18_267), .second, iv (1 : Int32), .val (.long v21_280), .second, .val (.long v23_269), .second, .val (.long v25_272), .second] [(.int v14_258), (.int v13_256), (.int v12_254), (.int (3 : Int32))]))
        refine own_go (XS.iload X271.here hx rfl (hb hby at_288) rfl (Steps.refl _)) ?_
        show own_Fin _ _ _ _ (T271.setTop (mkF m 290 #[iv p1, .val (.long q2), .second, iv p3, iv p4, iv p5, iv p6, iv (3 : Int32), iv v8_247, iv v9_248, iv v10_250, iv v11_252, iv v12_254, iv v13_256, iv v14_258, iv v15_259, iv v16_260, rv b261, .val (.double r18_267), .second, iv (1 : Int32), .val (.long v21_280), .second, .val (.long v23_269), .second, .val (.long v25_272), .second] [(.int p4), (.int v14_258), (.int v13_256), (.int v12_254), (.int (3 : Int32))]))
        refine own_go (XS.iload X271.here hx rfl (hb hby at_290) rfl (Steps.refl _)) ?_
        show own_Fin _ _ _ _ (T271.setTop (mkF m 292 #[iv p1, .val (.long q2), .second, iv p3, iv p4, iv p5, iv p6, iv (3 : Int32), iv v8_247, iv v9_248, iv v10_250, iv v11_252, iv v12_254, iv v13_256, iv v14_258, iv v15_259, iv v16_260, rv b261, .val (.double r18_267), .second, iv (1 : Int32), .val (.long v21_280), .second, .val (.long v23_269), .second, .val (.long v25_272), .second] [(.int p5), (.int p4), (.int v14_258), (.int v13_256), (.int v12_254), (.int (3 : Int32))]))
        refine own_go (XS.iload X271.here hx rfl (hb hby at_292) rfl (Steps.refl _)) ?_
        show own_Fin _ _ _ _ (T271.setTop (mkF m 294 #[iv p1, .val (.long q2), .second, iv p3, iv p4, iv p5, iv p6, iv (3 : Int32), iv v8_247, iv v9_248, iv v10_250, iv v11_252, iv v12_254, iv v13_256, iv v14_258, iv v15_259, iv v16_260, rv b261, .val (.double r18_267), .second, iv (1 : Int32), .val (.long v21_280), .second, .val (.long v23_269), .second, .val (.long v25_272), .second] [(.int p6), (.int p5), (.int p4), (.int v14_258), (.int v13_256), (.int v12_254), (.int (3 : Int32))]))
        obtain ⟨_, _, ⟨T281, L281, k281, n281⟩, -, X281, ⟨Lc281, hQ281, l281, y281, z281⟩, st281⟩ := Jvm.LawKit.callS X271 hx (y := (⟨"com/example/tidewalk/tidewalk/problems/RunMeasuresBestErrorBeforeChangePinLaw", "best", "(IIIIIII)J"⟩ : MethodName)) hown (mvT hZ (hw _ (List.mem_of_getElem? (i := 72) rfl))) (mvT hZ (hw _ (List.mem_of_getElem? (i := 73) rfl))) (mvT hZ (hw _ (List.mem_of_getElem? (i := 9) rfl))) (mvT hZ (hw _ (List.mem_of_getElem? (i := 74) rfl))) (by decide) (backOf (W := 0) (rmbs l Z a0 hw [] (3 : Int32) v12_254 v13_256 v14_258 p4 p5 p6 T265.heap n0 Z265) hZ (hw _ (List.mem_of_getElem? (i := 74) rfl)) (hw _ (List.mem_of_getElem? (i := 9) rfl)) (by decide) (by decide)) (g := (mkF m 294 #[iv p1, .val (.long q2), .second, iv p3, iv p4, iv p5, iv p6, iv (3 : Int32), iv v8_247, iv v9_248, iv v10_250, iv v11_252, iv v12_254, iv v13_256, iv v14_258, iv v15_259, iv v16_260, rv b261, .val (.double r18_267), .second, iv (1 : Int32), .val (.long v21_280), .second, .val (.long v23_269), .second, .val (.long v25_272), .second] [(.int p6), (.int p5), (.int p4), (.int v14_258), (.int v13_256), (.int v12_254), (.int (3 : Int32))])) rfl (by rw [hml]; rfl) (argsL := [(.int (3 : Int32)), (.int v12_254), (.int v13_256), (.int v14_258), (.int p4), (.int p5), (.int p6)]) (rest := []) (lenOf pd__28_IIIIIII_29_J rfl) rfl (by show 2 * 0 + _ ≤ _; exact Nat.le_of_eq rfl) (hb hby at_294) (fun _ hv => ⟨rfl, e271, (by decide : 1 + 0 ≤ _), (by decide : 9 + 0 ≤ _)⟩)
        dsimp only [Pt.U, Pt.locs, Pt.cells, Pt.slots] at X281 l281 y281 z281 st281 hQ281
        subst l281 y281 z281
        obtain ⟨rfl, Nq281, e281⟩ := hQ281
        refine own_by st281 ?_
        have N281 := Fr.app N271 Nq281
        show own_Fin _ _ _ _ (T281.setTop (mkF m 297 #[iv p1, .val (.long q2), .second, iv p3, iv p4, iv p5, iv p6, iv (3 : Int32), iv v8_247, iv v9_248, iv v10_250, iv v11_252, iv v12_254, iv v13_256, iv v14_258, iv v15_259, iv v16_260, rv b261, .val (.double r18_267), .second, iv (1 : Int32), .val (.long v21_280), .second, .val (.long v23_269), .second, .val (.long v25_272), .second] [(.long (own_lv (own_b3 (3 : Int32) v12_254 v13_256 v14_258 p4 p5 p6)))]))
        refine own_go (XS.lstore X281.here hx rfl (hb hby at_297) rfl rfl (Steps.refl _)) ?_
        show own_Fin _ _ _ _ (T281.setTop (mkF m 299 #[iv p1, .val (.long q2), .second, iv p3, iv p4, iv p5, iv p6, iv (3 : Int32), iv v8_247, iv v9_248, iv v10_250, iv v11_252, iv v12_254, iv v13_256, iv v14_258, iv v15_259, iv v16_260, rv b261, .val (.double r18_267), .second, iv (1 : Int32), .val (.long v21_280), .second, .val (.long v23_269), .second, .val (.long (own_lv (own_b3 (3 : Int32) v12_254 v13_256 v14_258 p4 p5 p6))), .second] []))
        generalize hz_v25_282 : (own_lv (own_b3 (3 : Int32) v12_254 v13_256 v14_258 p4 p5 p6)) = v25_282
        refine own_go (XS.lload X281.here hx rfl (hb hby at_299) rfl (Steps.refl _)) ?_
        show own_Fin _ _ _ _ (T281.setTop (mkF m 301 #[iv p1, .val (.long q2), .second, iv p3, iv p4, iv p5, iv p6, iv (3 : Int32), iv v8_247, iv v9_248, iv v10_250, iv v11_252, iv v12_254, iv v13_256, iv v14_258, iv v15_259, iv v16_260, rv b261, .val (.double r18_267), .second, iv (1 : Int32), .val (.long v21_280), .second, .val (.long v23_269), .second, .val (.long v25_282), .second] [(.long v25_282)]))
        refine own_by (X281.ldc2Long hx hown (mvT hZ (hw _ (List.mem_of_getElem? (i := 75) rfl))) (g := (mkF m 301 #[iv p1, .val (.long q2), .second, iv p3, iv p4, iv p5, iv p6, iv (3 : Int32), iv v8_247, iv v9_248, iv v10_250, iv v11_252, iv v12_254, iv v13_256, iv v14_258, iv v15_259, iv v16_260, rv b261, .val (.double r18_267), .second, iv (1 : Int32), .val (.long v21_280), .second, .val (.long v23_269), .second, .val (.long v25_282), .second] [(.long v25_282)])) rfl (hb hby at_301)) ?_
        show own_Fin _ _ _ _ (T281.setTop (mkF m 304 #[iv p1, .val (.long q2), .second, iv p3, iv p4, iv p5, iv p6, iv (3 : Int32), iv v8_247, iv v9_248, iv v10_250, iv v11_252, iv v12_254, iv v13_256, iv v14_258, iv v15_259, iv v16_260, rv b261, .val (.double r18_267), .second, iv (1 : Int32), .val (.long v21_280), .second, .val (.long v23_269), .second, .val (.long v25_282), .second] [(.long (-9223372036854775808 : Int64)), (.long v25_282)]))
        refine own_go (XS.lcmp X281.here hx rfl (hb hby at_304) rfl (Steps.refl _)) ?_
        show own_Fin _ _ _ _ (T281.setTop (mkF m 305 #[iv p1, .val (.long q2), .second, iv p3, iv p4, iv p5, iv p6, iv (3 : Int32), iv v8_247, iv v9_248, iv v10_250, iv v11_252, iv v12_254, iv v13_256, iv v14_258, iv v15_259, iv v16_260, rv b261, .val (.double r18_267), .second, iv (1 : Int32), .val (.long v21_280), .second, .val (.long v23_269), .second, .val (.long v25_282), .second] [(.int (lcmpW v25_282 (-9223372036854775808 : Int64)))]))
        by_cases cb283 : (own_b3 (3 : Int32) v12_254 v13_256 v14_258 p4 p5 p6) = none
        · refine own_go (XS.ifNo X281.here hx rfl (hb hby at_305) rfl ((if0 _ _).trans (teq (show (lcmpW v25_282 (-9223372036854775808 : Int64)) = (0 : Int32) from (by rw [← hz_v25_282]; exact own_lvz cb283))).2) (Steps.refl _)) ?_
          show own_Fin _ _ _ _ (T281.setTop (mkF m 308 #[iv p1, .val (.long q2), .second, iv p3, iv p4, iv p5, iv p6, iv (3 : Int32), iv v8_247, iv v9_248, iv v10_250, iv v11_252, iv v12_254, iv v13_256, iv v14_258, iv v15_259, iv v16_260, rv b261, .val (.double r18_267), .second, iv (1 : Int32), .val (.long v21_280), .second, .val (.long v23_269), .second, .val (.long v25_282), .second] []))
          refine own_go (XS.iconst X281.here hx rfl (hb hby at_308) (Steps.refl _)) ?_
          show own_Fin _ _ _ _ (T281.setTop (mkF m 309 #[iv p1, .val (.long q2), .second, iv p3, iv p4, iv p5, iv p6, iv (3 : Int32), iv v8_247, iv v9_248, iv v10_250, iv v11_252, iv v12_254, iv v13_256, iv v14_258, iv v15_259, iv v16_260, rv b261, .val (.double r18_267), .second, iv (1 : Int32), .val (.long v21_280), .second, .val (.long v23_269), .second, .val (.long v25_282), .second] [(.int (1 : Int32))]))
          refine own_go (XS.istore X281.here hx rfl (hb hby at_309) rfl rfl (Steps.refl _)) ?_
          show own_Fin _ _ _ _ (T281.setTop (mkF m 311 #[iv p1, .val (.long q2), .second, iv p3, iv p4, iv p5, iv p6, iv (3 : Int32), iv v8_247, iv v9_248, iv v10_250, iv v11_252, iv v12_254, iv v13_256, iv v14_258, iv v15_259, iv v16_260, rv b261, .val (.double r18_267), .second, iv (1 : Int32), .val (.long v21_280), .second, .val (.long v23_269), .second, .val (.long v25_282), .second] []))
          refine own_go (XS.goto X281.here hx rfl (pc0 := 311) (pc' := 324) rfl (hb hby at_311) (by decide) (by decide) (Steps.refl _)) ?_
          show own_Fin _ _ _ _ (T281.setTop (mkF m 324 #[iv p1, .val (.long q2), .second, iv p3, iv p4, iv p5, iv p6, iv (3 : Int32), iv v8_247, iv v9_248, iv v10_250, iv v11_252, iv v12_254, iv v13_256, iv v14_258, iv v15_259, iv v16_260, rv b261, .val (.double r18_267), .second, iv (1 : Int32), .val (.long v21_280), .second, .val (.long v23_269), .second, .val (.long v25_282), .second] []))
          refine own_go (XS.iload X281.here hx rfl (hb hby at_324) rfl (Steps.refl _)) ?_
          show own_Fin _ _ _ _ (T281.setTop (mkF m 326 #[iv p1, .val (.long q2), .second, iv p3, iv p4, iv p5, iv p6, iv (3 : Int32), iv v8_247, iv v9_248, iv v10_250, iv v11_252, iv v12_254, iv v13_256, iv v14_258, iv v15_259, iv v16_260, rv b261, .val (.double r18_267), .second, iv (1 : Int32), .val (.long v21_280), .second, .val (.long v23_269), .second, .val (.long v25_282), .second] [(.int (1 : Int32))]))
          refine own_go (XS.ifNo X281.here hx rfl (hb hby at_326) rfl ((if0 _ _).trans (feq (by decide : ¬ ((1 : Int32) = (0 : Int32)))).1) (Steps.refl _)) ?_
          show own_Fin _ _ _ _ (T281.setTop (mkF m 329 #[iv p1, .val (.long q2), .second, iv p3, iv p4, iv p5, iv p6, iv (3 : Int32), iv v8_247, iv v9_248, iv v10_250, iv v11_252, iv v12_254, iv v13_256, iv v14_258, iv v15_259, iv v16_260, rv b261, .val (.double r18_267), .second, iv (1 : Int32), .val (.long v21_280), .second, .val (.long v23_269), .second, .val (.long v25_282), .second] []))
          refine own_go (XS.dload X281.here hx rfl (hb hby at_329) rfl (Steps.refl _)) ?_
          show own_Fin _ _ _ _ (T281.setTop (mkF m 331 #[iv p1, .val (.long q2), .second, iv p3, iv p4, iv p5, iv p6, iv (3 : Int32), iv v8_247, iv v9_248, iv v10_250, iv v11_252, iv v12_254, iv v13_256, iv v14_258, iv v15_259, iv v16_260, rv b261, .val (.double r18_267), .second, iv (1 : Int32), .val (.long v21_280), .second, .val (.long v23_269), .second, .val (.long v25_282), .second] [(.double r18_267)]))
          refine own_by (X281.ldc2DoubleC hx hown (mvT hZ (hw _ (List.mem_of_getElem? (i := 79) rfl))) (g := (mkF m 331 #[iv p1, .val (.long q2), .second, iv p3, iv p4, iv p5, iv p6, iv (3 : Int32), iv v8_247, iv v9_248, iv v10_250, iv v11_252, iv v12_254, iv v13_256, iv v14_258, iv v15_259, iv v16_260, rv b261, .val (.double r18_267), .second, iv (1 : Int32), .val (.long v21_280), .second, .val (.long v23_269), .second, .val (.long v25_282), .second] [(.double r18_267)])) rfl (hb hby at_331)) ?_
          show own_Fin _ _ _ _ (T281.setTop (mkF m 334 #[iv p1, .val (.long q2), .second, iv p3, iv p4, iv p5, iv p6, iv (3 : Int32), iv v8_247, iv v9_248, iv v10_250, iv v11_252, iv v12_254, iv v13_256, iv v14_258, iv v15_259, iv v16_260, rv b261, .val (.double r18_267), .second, iv (1 : Int32), .val (.long v21_280), .second, .val (.long v23_269), .second, .val (.long v25_282), .second] [(.double (9218868437227405312 : UInt64)), (.double r18_267)]))
          refine own_go (XS.dcmpS X281.here hx rfl (hb hby at_334) rfl (show cmpValue (FP.dcmp r18_267 (9218868437227405312 : UInt64)) .l = (0 : Int32) from (by rw [← hz_r18_267]; exact own_ci (own_z3 (Or.inl cb270)) (by decide))) (Steps.refl _)) ?_
          show own_Fin _ _ _ _ (T281.setTop (mkF m 335 #[iv p1, .val (.long q2), .second, iv p3, iv p4, iv p5, iv p6, iv (3 : Int32), iv v8_247, iv v9_248, iv v10_250, iv v11_252, iv v12_254, iv v13_256, iv v14_258, iv v15_259, iv v16_260, rv b261, .val (.double r18_267), .second, iv (1 : Int32), .val (.long v21_280), .second, .val (.long v23_269), .second, .val (.long v25_282), .second] [(.int (0 : Int32))]))
          refine own_go (XS.ifNo X281.here hx rfl (hb hby at_335) rfl ((if0 _ _).trans (teq (by decide : (0 : Int32) = (0 : Int32))).2) (Steps.refl _)) ?_
          show own_Fin _ _ _ _ (T281.setTop (mkF m 338 #[iv p1, .val (.long q2), .second, iv p3, iv p4, iv p5, iv p6, iv (3 : Int32), iv v8_247, iv v9_248, iv v10_250, iv v11_252, iv v12_254, iv v13_256, iv v14_258, iv v15_259, iv v16_260, rv b261, .val (.double r18_267), .second, iv (1 : Int32), .val (.long v21_280), .second, .val (.long v23_269), .second, .val (.long v25_282), .second] []))
          refine own_go (XS.iconst X281.here hx rfl (hb hby at_338) (Steps.refl _)) ?_
          show own_Fin _ _ _ _ (T281.setTop (mkF m 339 #[iv p1, .val (.long q2), .second, iv p3, iv p4, iv p5, iv p6, iv (3 : Int32), iv v8_247, iv v9_248, iv v10_250, iv v11_252, iv v12_254, iv v13_256, iv v14_258, iv v15_259, iv v16_260, rv b261, .val (.double r18_267), .second, iv (1 : Int32), .val (.long v21_280), .second, .val (.long v23_269), .second, .val (.long v25_282), .second] [(.int (1 : Int32))]))
          refine own_go (XS.goto X281.here hx rfl (pc0 := 339) (pc' := 343) rfl (hb hby at_339) (by decide) (by decide) (Steps.refl _)) ?_
          show own_Fin _ _ _ _ (T281.setTop (mkF m 343 #[iv p1, .val (.long q2), .second, iv p3, iv p4, iv p5, iv p6, iv (3 : Int32), iv v8_247, iv v9_248, iv v10_250, iv v11_252, iv v12_254, iv v13_256, iv v14_258, iv v15_259, iv v16_260, rv b261, .val (.double r18_267), .second, iv (1 : Int32), .val (.long v21_280), .second, .val (.long v23_269), .second, .val (.long v25_282), .second] [(.int (1 : Int32))]))
          obtain ⟨fs284, hr284, hrun284, hended284, hW284, hsame284⟩ := X281.leave (v := some (.int (1 : Int32))) (fun h => by rw [Bd.returns] at h; cases h)
          refine own_done (retN X281 hx (t := .boolean) Bd.returns (by simp) (hb hby at_343) hr284) hrun284 hended284 ⟨_, _, rfl, ?_, ⟨_, rfl⟩, hW284, hsame284.mono (by decide) (by decide)⟩
          show Q0 Z p1 q2 p3 p4 p5 p6 h0 n0 _ T281.heap _
          rw [e281]
          exact ⟨rfl, N281⟩
        · refine own_go (XS.ifYes X281.here hx rfl (pc0 := 305) (pc' := 314) rfl (hb hby at_305) rfl ((if0 _ _).trans (feq (show ¬ ((lcmpW v25_282 (-9223372036854775808 : Int64)) = (0 : Int32)) from (by rw [← hz_v25_282]; exact own_lvne (own_W3 _ _ _ _ _ _ _) cb283))).2) (by decide) (by decide) (Steps.refl _)) ?_
          show own_Fin _ _ _ _ (T281.setTop (mkF m 314 #[iv p1, .val (.long q2), .second, iv p3, iv p4, iv p5, iv p6, iv (3 : Int32), iv v8_247, iv v9_248, iv v10_250, iv v11_252, iv v12_254, iv v13_256, iv v14_258, iv v15_259, iv v16_260, rv b261, .val (.double r18_267), .second, iv (1 : Int32), .val (.long v21_280), .second, .val (.long v23_269), .second, .val (.long v25_282), .second] []))
          refine own_go (XS.lload X281.here hx rfl (hb hby at_314) rfl (Steps.refl _)) ?_
          show own_Fin _ _ _ _ (T281.setTop (mkF m 316 #[iv p1, .val (.long q2), .second, iv p3, iv p4, iv p5, iv p6, iv (3 : Int32), iv v8_247, iv v9_248, iv v10_250, iv v11_252, iv v12_254, iv v13_256, iv v14_258, iv v15_259, iv v16_260, rv b261, .val (.double r18_267), .second, iv (1 : Int32), .val (.long v21_280), .second, .val (.long v23_269), .second, .val (.long v25_282), .second] [(.long v21_280)]))
          refine own_go (XS.iloadN X281.here hx rfl (hb hby at_316) rfl (Steps.refl _)) ?_
          show own_Fin _ _ _ _ (T281.setTop (mkF m 317 #[iv p1, .val (.long q2), .second, iv p3, iv p4, iv p5, iv p6, iv (3 : Int32), iv v8_247, iv v9_248, iv v10_250, iv v11_252, iv v12_254, iv v13_256, iv v14_258, iv v15_259, iv v16_260, rv b261, .val (.double r18_267), .second, iv (1 : Int32), .val (.long v21_280), .second, .val (.long v23_269), .second, .val (.long v25_282), .second] [(.int p3), (.long v21_280)]))
          refine own_go (XS.i2l X281.here hx rfl (hb hby at_317) rfl (Steps.refl _)) ?_
          show own_Fin _ _ _ _ (T281.setTop (mkF m 318 #[iv p1, .val (.long q2), .second, iv p3, iv p4, iv p5, iv p6, iv (3 : Int32), iv v8_247, iv v9_248, iv v10_250, iv v11_252, iv v12_254, iv v13_256, iv v14_258, iv v15_259, iv v16_260, rv b261, .val (.double r18_267), .second, iv (1 : Int32), .val (.long v21_280), .second, .val (.long v23_269), .second, .val (.long v25_282), .second] [(.long (p3.toInt64)), (.long v21_280)]))
          refine own_go (XS.lload X281.here hx rfl (hb hby at_318) rfl (Steps.refl _)) ?_
          show own_Fin _ _ _ _ (T281.setTop (mkF m 320 #[iv p1, .val (.long q2), .second, iv p3, iv p4, iv p5, iv p6, iv (3 : Int32), iv v8_247, iv v9_248, iv v10_250, iv v11_252, iv v12_254, iv v13_256, iv v14_258, iv v15_259, iv v16_260, rv b261, .val (.double r18_267), .second, iv (1 : Int32), .val (.long v21_280), .second, .val (.long v23_269), .second, .val (.long v25_282), .second] [(.long v25_282), (.long (p3.toInt64)), (.long v21_280)]))
          refine own_go (XS.lsub X281.here hx rfl (hb hby at_320) rfl (Steps.refl _)) ?_
          show own_Fin _ _ _ _ (T281.setTop (mkF m 321 #[iv p1, .val (.long q2), .second, iv p3, iv p4, iv p5, iv p6, iv (3 : Int32), iv v8_247, iv v9_248, iv v10_250, iv v11_252, iv v12_254, iv v13_256, iv v14_258, iv v15_259, iv v16_260, rv b261, .val (.double r18_267), .second, iv (1 : Int32), .val (.long v21_280), .second, .val (.long v23_269), .second, .val (.long v25_282), .second] [(.long ((p3.toInt64) - v25_282)), (.long v21_280)]))
          refine own_go (XS.ladd X281.here hx rfl (hb hby at_321) rfl (Steps.refl _)) ?_
          show own_Fin _ _ _ _ (T281.setTop (mkF m 322 #[iv p1, .val (.long q2), .second, iv p3, iv p4, iv p5, iv p6, iv (3 : Int32), iv v8_247, iv v9_248, iv v10_250, iv v11_252, iv v12_254, iv v13_256, iv v14_258, iv v15_259, iv v16_260, rv b261, .val (.double r18_267), .second, iv (1 : Int32), .val (.long v21_280), .second, .val (.long v23_269), .second, .val (.long v25_282), .second] [(.long (v21_280 + ((p3.toInt64) - v25_282)))]))
          refine own_go (XS.lstore X281.here hx rfl (hb hby at_322) rfl rfl (Steps.refl _)) ?_
          show own_Fin _ _ _ _ (T281.setTop (mkF m 324 #[iv p1, .val (.long q2), .second, iv p3, iv p4, iv p5, iv p6, iv (3 : Int32), iv v8_247, iv v9_248, iv v10_250, iv v11_252, iv v12_254, iv v13_256, iv v14_258, iv v15_259, iv v16_260, rv b261, .val (.double r18_267), .second, iv (1 : Int32), .val (.long (v21_280 + ((p3.toInt64) - v25_282))), .second, .val (.long v23_269), .second, .val (.long v25_282), .second] []))
          generalize hz_v21_285 : (v21_280 + ((p3.toInt64) - v25_282)) = v21_285
          refine own_go (XS.iload X281.here hx rfl (hb hby at_324) rfl (Steps.refl _)) ?_
          show own_Fin _ _ _ _ (T281.setTop (mkF m 326 #[iv p1, .val (.long q2), .second, iv p3, iv p4, iv p5, iv p6, iv (3 : Int32), iv v8_247, iv v9_248, iv v10_250, iv v11_252, iv v12_254, iv v13_256, iv v14_258, iv v15_259, iv v16_260, rv b261, .val (.double r18_267), .second, iv (1 : Int32), .val (.long v21_285), .second, .val (.long v23_269), .second, .val (.long v25_282), .second] [(.int (1 : Int32))]))
          refine own_go (XS.ifNo X281.here hx rfl (hb hby at_326) rfl ((if0 _ _).trans (feq (by decide : ¬ ((1 : Int32) = (0 : Int32)))).1) (Steps.refl _)) ?_
          show own_Fin _ _ _ _ (T281.setTop (mkF m 329 #[iv p1, .val (.long q2), .second, iv p3, iv p4, iv p5, iv p6, iv (3 : Int32), iv v8_247, iv v9_248, iv v10_250, iv v11_252, iv v12_254, iv v13_256, iv v14_258, iv v15_259, iv v16_260, rv b261, .val (.double r18_267), .second, iv (1 : Int32), .val (.long v21_285), .second, .val (.long v23_269), .second, .val (.long v25_282), .second] []))
          refine own_go (XS.dload X281.here hx rfl (hb hby at_329) rfl (Steps.refl _)) ?_
          show own_Fin _ _ _ _ (T281.setTop (mkF m 331 #[iv p1, .val (.long q2), .second, iv p3, iv p4, iv p5, iv p6, iv (3 : Int32), iv v8_247, iv v9_248, iv v10_250, iv v11_252, iv v12_254, iv v13_256, iv v14_258, iv v15_259, iv v16_260, rv b261, .val (.double r18_267), .second, iv (1 : Int32), .val (.long v21_285), .second, .val (.long v23_269), .second, .val (.long v25_282), .second] [(.double r18_267)]))
          refine own_by (X281.ldc2DoubleC hx hown (mvT hZ (hw _ (List.mem_of_getElem? (i := 79) rfl))) (g := (mkF m 331 #[iv p1, .val (.long q2), .second, iv p3, iv p4, iv p5, iv p6, iv (3 : Int32), iv v8_247, iv v9_248, iv v10_250, iv v11_252, iv v12_254, iv v13_256, iv v14_258, iv v15_259, iv v16_260, rv b261, .val (.double r18_267), .second, iv (1 : Int32), .val (.long v21_285), .second, .val (.long v23_269), .second, .val (.long v25_282), .second] [(.double r18_267)])) rfl (hb hby at_331)) ?_
          show own_Fin _ _ _ _ (T281.setTop (mkF m 334 #[iv p1, .val (.long q2), .second, iv p3, iv p4, iv p5, iv p6, iv (3 : Int32), iv v8_247, iv v9_248, iv v10_250, iv v11_252, iv v12_254, iv v13_256, iv v14_258, iv v15_259, iv v16_260, rv b261, .val (.double r18_267), .second, iv (1 : Int32), .val (.long v21_285), .second, .val (.long v23_269), .second, .val (.long v25_282), .second] [(.double (9218868437227405312 : UInt64)), (.double r18_267)]))
          refine own_go (XS.dcmpS X281.here hx rfl (hb hby at_334) rfl (show cmpValue (FP.dcmp r18_267 (9218868437227405312 : UInt64)) .l = (0 : Int32) from (by rw [← hz_r18_267]; exact own_ci (own_z3 (Or.inl cb270)) (by decide))) (Steps.refl _)) ?_
          show own_Fin _ _ _ _ (T281.setTop (mkF m 335 #[iv p1, .val (.long q2), .second, iv p3, iv p4, iv p5, iv p6, iv (3 : Int32), iv v8_247, iv v9_248, iv v10_250, iv v11_252, iv v12_254, iv v13_256, iv v14_258, iv v15_259, iv v16_260, rv b261, .val (.double r18_267), .second, iv (1 : Int32), .val (.long v21_285), .second, .val (.long v23_269), .second, .val (.long v25_282), .second] [(.int (0 : Int32))]))
          refine own_go (XS.ifNo X281.here hx rfl (hb hby at_335) rfl ((if0 _ _).trans (teq (by decide : (0 : Int32) = (0 : Int32))).2) (Steps.refl _)) ?_
          show own_Fin _ _ _ _ (T281.setTop (mkF m 338 #[iv p1, .val (.long q2), .second, iv p3, iv p4, iv p5, iv p6, iv (3 : Int32), iv v8_247, iv v9_248, iv v10_250, iv v11_252, iv v12_254, iv v13_256, iv v14_258, iv v15_259, iv v16_260, rv b261, .val (.double r18_267), .second, iv (1 : Int32), .val (.long v21_285), .second, .val (.long v23_269), .second, .val (.long v25_282), .second] []))
          refine own_go (XS.iconst X281.here hx rfl (hb hby at_338) (Steps.refl _)) ?_
          show own_Fin _ _ _ _ (T281.setTop (mkF m 339 #[iv p1, .val (.long q2), .second, iv p3, iv p4, iv p5, iv p6, iv (3 : Int32), iv v8_247, iv v9_248, iv v10_250, iv v11_252, iv v12_254, iv v13_256, iv v14_258, iv v15_259, iv v16_260, rv b261, .val (.double r18_267), .second, iv (1 : Int32), .val (.long v21_285), .second, .val (.long v23_269), .second, .val (.long v25_282), .second] [(.int (1 : Int32))]))
          refine own_go (XS.goto X281.here hx rfl (pc0 := 339) (pc' := 343) rfl (hb hby at_339) (by decide) (by decide) (Steps.refl _)) ?_
          show own_Fin _ _ _ _ (T281.setTop (mkF m 343 #[iv p1, .val (.long q2), .second, iv p3, iv p4, iv p5, iv p6, iv (3 : Int32), iv v8_247, iv v9_248, iv v10_250, iv v11_252, iv v12_254, iv v13_256, iv v14_258, iv v15_259, iv v16_260, rv b261, .val (.double r18_267), .second, iv (1 : Int32), .val (.long v21_285), .second, .val (.long v23_269), .second, .val (.long v25_282), .second] [(.int (1 : Int32))]))
          obtain ⟨fs286, hr286, hrun286, hended286, hW286, hsame286⟩ := X281.leave (v := some (.int (1 : Int32))) (fun h => by rw [Bd.returns] at h; cases h)
          refine own_done (retN X281 hx (t := .boolean) Bd.returns (by simp) (hb hby at_343) hr286) hrun286 hended286 ⟨_, _, rfl, ?_, ⟨_, rfl⟩, hW286, hsame286.mono (by decide) (by decide)⟩
          show Q0 Z p1 q2 p3 p4 p5 p6 h0 n0 _ T281.heap _
          rw [e281]
          exact ⟨rfl, N281⟩
    · refine own_go (XS.ifYes X268.here hx rfl (pc0 := 205) (pc' := 214) rfl (hb hby at_205) rfl ((if0 _ _).trans (feq (show ¬ ((lcmpW v23_269 (-9223372036854775808 : Int64)) = (0 : Int32)) from (by rw [← hz_v23_269]; exact own_lvne (own_W3 _ _ _ _ _ _ _) cb270))).2) (by decide) (by decide) (Steps.refl _)) ?_
      show own_Fin _ _ _ _ (T268.setTop (mkF m 214 #[iv p1, .val (.long q2), .second, iv p3, iv p4, iv p5, iv p6, iv (3 : Int32), iv v8_247, iv v9_248, iv v10_250, iv v11_252, iv v12_254, iv v13_256, iv v14_258, iv v15_259, iv v16_260, rv b261, .val (.double r18_267), .second, iv (0 : Int32), .val (.long (0 : Int64)), .second, .val (.long v23_269), .second, .unset, .unset] []))
      refine own_go (XS.lload X268.here hx rfl (hb hby at_214) rfl (Steps.refl _)) ?_
      show own_Fin _ _ _ _ (T268.setTop (mkF m 216 #[iv p1, .val (.long q2), .second, iv p3, iv p4, iv p5, iv p6, iv (3 : Int32), iv v8_247, iv v9_248, iv v10_250, iv v11_252, iv v12_254, iv v13_256, iv v14_258, iv v15_259, iv v16_260, rv b261, .val (.double r18_267), .second, iv (0 : Int32), .val (.long (0 : Int64)), .second, .val (.long v23_269), .second, .unset, .unset] [(.long (0 : Int64))]))
      refine own_go (XS.iload X268.here hx rfl (hb hby at_216) rfl (Steps.refl _)) ?_
      show own_Fin _ _ _ _ (T268.setTop (mkF m 218 #[iv p1, .val (.long q2), .second, iv p3, iv p4, iv p5, iv p6, iv (3 : Int32), iv v8_247, iv v9_248, iv v10_250, iv v11_252, iv v12_254, iv v13_256, iv v14_258, iv v15_259, iv v16_260, rv b261, .val (.double r18_267), .second, iv (0 : Int32), .val (.long (0 : Int64)), .second, .val (.long v23_269), .second, .unset, .unset] [(.int v15_259), (.long (0 : Int64))]))
      refine own_go (XS.i2l X268.here hx rfl (hb hby at_218) rfl (Steps.refl _)) ?_
      show own_Fin _ _ _ _ (T268.setTop (mkF m 219 #[iv p1, .val (.long q2), .second, iv p3, iv p4, iv p5, iv p6, iv (3 : Int32), iv v8_247, iv v9_248, iv v10_250, iv v11_252, iv v12_254, iv v13_256, iv v14_258, iv v15_259, iv v16_260, rv b261, .val (.double r18_267), .second, iv (0 : Int32), .val (.long (0 : Int64)), .second, .val (.long v23_269), .second, .unset, .unset] [(.long (v15_259.toInt64)), (.long (0 : Int64))]))
      refine own_go (XS.lload X268.here hx rfl (hb hby at_219) rfl (Steps.refl _)) ?_
      show own_Fin _ _ _ _ (T268.setTop (mkF m 221 #[iv p1, .val (.long q2), .second, iv p3, iv p4, iv p5, iv p6, iv (3 : Int32), iv v8_247, iv v9_248, iv v10_250, iv v11_252, iv v12_254, iv v13_256, iv v14_258, iv v15_259, iv v16_260, rv b261, .val (.double r18_267), .second, iv (0 : Int32), .val (.long (0 : Int64)), .second, .val (.long v23_269), .second, .unset, .unset] [(.long v23_269), (.long (v15_259.toInt64)), (.long (0 : Int64))]))
      refine own_go (XS.lsub X268.here hx rfl (hb hby at_221) rfl (Steps.refl _)) ?_
      show own_Fin _ _ _ _ (T268.setTop (mkF m 222 #[iv p1, .val (.long q2), .second, iv p3, iv p4, iv p5, iv p6, iv (3 : Int32), iv v8_247, iv v9_248, iv v10_250, iv v11_252, iv v12_254, iv v13_256, iv v14_258, iv v15_259, iv v16_260, rv b261, .val (.double r18_267), .second, iv (0 : Int32), .val (.long (0 : Int64)), .second, .val (.long v23_269), .second, .unset, .unset] [(.long ((v15_259.toInt64) - v23_269)), (.long (0 : Int64))]))
      refine own_go (XS.ladd X268.here hx rfl (hb hby at_222) rfl (Steps.refl _)) ?_
      show own_Fin _ _ _ _ (T268.setTop (mkF m 223 #[iv p1, .val (.long q2), .second, iv p3, iv p4, iv p5, iv p6, iv (3 : Int32), iv v8_247, iv v9_248, iv v10_250, iv v11_252, iv v12_254, iv v13_256, iv v14_258, iv v15_259, iv v16_260, rv b261, .val (.double r18_267), .second, iv (0 : Int32), .val (.long (0 : Int64)), .second, .val (.long v23_269), .second, .unset, .unset] [(.long ((0 : Int64) + ((v15_259.toInt64) - v23_269)))]))
      refine own_go (XS.lstore X268.here hx rfl (hb hby at_223) rfl rfl (Steps.refl _)) ?_
      show own_Fin _ _ _ _ (T268.setTop (mkF m 225 #[iv p1, .val (.long q2), .second, iv p3, iv p4, iv p5, iv p6, iv (3 : Int32), iv v8_247, iv v9_248, iv v10_250, iv v11_252, iv v12_254, iv v13_256, iv v14_258, iv v15_259, iv v16_260, rv b261, .val (.double r18_267), .second, iv (0 : Int32), .val (.long ((0 : Int64) + ((v15_259.toInt64) - v23_269))), .second, .val (.long v23_269), .second, .unset, .unset] []))
      generalize hz_v21_287 : ((0 : Int64) + ((v15_259.toInt64) - v23_269)) = v21_287
      refine own_go (XS.iload X268.here hx rfl (hb hby at_225) rfl (Steps.refl _)) ?_
      show own_Fin _ _ _ _ (T268.setTop (mkF m 227 #[iv p1, .val (.long q2), .second, iv p3, iv p4, iv p5, iv p6, iv (3 : Int32), iv v8_247, iv v9_248, iv v10_250, iv v11_252, iv v12_254, iv v13_256, iv v14_258, iv v15_259, iv v16_260, rv b261, .val (.double r18_267), .second, iv (0 : Int32), .val (.long v21_287), .second, .val (.long v23_269), .second, .unset, .unset] [(.int (3 : Int32))]))
      refine own_go (XS.iconst X268.here hx rfl (hb hby at_227) (Steps.refl _)) ?_
      show own_Fin _ _ _ _ (T268.setTop (mkF m 228 #[iv p1, .val (.long q2), .second, iv p3, iv p4, iv p5, iv p6, iv (3 : Int32), iv v8_247, iv v9_248, iv v10_250, iv v11_252, iv v12_254, iv v13_256, iv v14_258, iv v15_259, iv v16_260, rv b261, .val (.double r18_267), .second, iv (0 : Int32), .val (.long v21_287), .second, .val (.long v23_269), .second, .unset, .unset] [(.int (2 : Int32)), (.int (3 : Int32))]))
      refine own_go (XS.icmpNo X268.here hx rfl (hb hby at_228) rfl (flt (by decide : ¬ ((3 : Int32) < (2 : Int32)))).1 (Steps.refl _)) ?_
      show own_Fin _ _ _ _ (T268.setTop (mkF m 231 #[iv p1, .val (.long q2), .second, iv p3, iv p4, iv p5, iv p6, iv (3 : Int32), iv v8_247, iv v9_248, iv v10_250, iv v11_252, iv v12_254, iv v13_256, iv v14_258, iv v15_259, iv v16_260, rv b261, .val (.double r18_267), .second, iv (0 : Int32), .val (.long v21_287), .second, .val (.long v23_269), .second, .unset, .unset] []))
      refine own_go (XS.iconst X268.here hx rfl (hb hby at_231) (Steps.refl _)) ?_
      show own_Fin _ _ _ _ (T268.setTop (mkF m 232 #[iv p1, .val (.long q2), .second, iv p3, iv p4, iv p5, iv p6, iv (3 : Int32), iv v8_247, iv v9_248, iv v10_250, iv v11_252, iv v12_254, iv v13_256, iv v14_258, iv v15_259, iv v16_260, rv b261, .val (.double r18_267), .second, iv (0 : Int32), .val (.long v21_287), .second, .val (.long v23_269), .second, .unset, .unset] [(.int (2 : Int32))]))
      refine own_go (XS.iload X268.here hx rfl (hb hby at_232) rfl (Steps.refl _)) ?_
      show own_Fin _ _ _ _ (T268.setTop (mkF m 234 #[iv p1, .val (.long q2), .second, iv p3, iv p4, iv p5, iv p6, iv (3 : Int32), iv v8_247, iv v9_248, iv v10_250, iv v11_252, iv v12_254, iv v13_256, iv v14_258, iv v15_259, iv v16_260, rv b261, .val (.double r18_267), .second, iv (0 : Int32), .val (.long v21_287), .second, .val (.long v23_269), .second, .unset, .unset] [(.int v12_254), (.int (2 : Int32))]))
      refine own_go (XS.iload X268.here hx rfl (hb hby at_234) rfl (Steps.refl _)) ?_
      show own_Fin _ _ _ _ (T268.setTop (mkF m 236 #[iv p1, .val (.long q2), .second, iv p3, iv p4, iv p5, iv p6, iv (3 : Int32), iv v8_247, iv v9_248, iv v10_250, iv v11_252, iv v12_254, iv v13_256, iv v14_258, iv v15_259, iv v16_260, rv b261, .val (.double r18_267), .second, iv (0 : Int32), .val (.long v21_287), .second, .val (.long v23_269), .second, .unset, .unset] [(.int v13_256), (.int v12_254), (.int (2 : Int32))]))
      refine own_go (XS.iload X268.here hx rfl (hb hby at_236) rfl (Steps.refl _)) ?_
      show own_Fin _ _ _ _ (T268.setTop (mkF m 238 #[iv p1, .val (.long q2), .second, iv p3, iv p4, iv p5, iv p6, iv (3 : Int32), iv v8_247, iv v9_248, iv v10_250, iv v11_252, iv v12_254, iv v13_256, iv v14_258, iv v15_259, iv v16_260, rv b261, .val (.double r18_267), .second, iv (0 : Int32), .val (.long v21_287), .second, .val (.long v23_269), .second, .unset, .unset] [(.int v14_258), (.int v13_256), (.int v12_254), (.int (2 : Int32))]))
      refine own_go (XS.iload X268.here hx rfl (hb hby at_238) rfl (Steps.refl _)) ?_
      show own_Fin _ _ _ _ (T268.setTop (mkF m 240 #[iv p1, .val (.long q2), .second, iv p3, iv p4, iv p5, iv p6, iv (3 : Int32), iv v8_247, iv v9_248, iv v10_250, iv v11_252, iv v12_254, iv v13_256, iv v14_258, iv v15_259, iv v16_260, rv b261, .val (.double r18_267), .second, iv (0 : Int32), .val (.long v21_287), .second, .val (.long v23_269), .second, .unset, .unset] [(.int p4), (.int v14_258), (.int v13_256), (.int v12_254), (.int (2 : Int32))]))
      refine own_go (XS.iload X268.here hx rfl (hb hby at_240) rfl (Steps.refl _)) ?_
      show own_Fin _ _ _ _ (T268.setTop (mkF m 242 #[iv p1, .val (.long q2), .second, iv p3, iv p4, iv p5, iv p6, iv (3 : Int32), iv v8_247, iv v9_248, iv v10_250, iv v11_252, iv v12_254, iv v13_256, iv v14_258, iv v15_259, iv v16_260, rv b261, .val (.double r18_267), .second, iv (0 : Int32), .val (.long v21_287), .second, .val (.long v23_269), .second, .unset, .unset] [(.int p5), (.int p4), (.int v14_258), (.int v13_256), (.int v12_254), (.int (2 : Int32))]))
      refine own_go (XS.iload X268.here hx rfl (hb hby at_242) rfl (Steps.refl _)) ?_
      show own_Fin _ _ _ _ (T268.setTop (mkF m 244 #[iv p1, .val (.long q2), .second, iv p3, iv p4, iv p5, iv p6, iv (3 : Int32), iv v8_247, iv v9_248, iv v10_250, iv v11_252, iv v12_254, iv v13_256, iv v14_258, iv v15_259, iv v16_260, rv b261, .val (.double r18_267), .second, iv (0 : Int32), .val (.long v21_287), .second, .val (.long v23_269), .second, .unset, .unset] [(.int p6), (.int p5), (.int p4), (.int v14_258), (.int v13_256), (.int v12_254), (.int (2 : Int32))]))
      obtain ⟨_, _, ⟨T288, L288, k288, n288⟩, -, X288, ⟨Lc288, hQ288, l288, y288, z288⟩, st288⟩ := Jvm.LawKit.callS X268 hx (y := (⟨"com/example/tidewalk/tidewalk/problems/RunMeasuresBestErrorBeforeChangePinLaw", "best", "(IIIIIII)J"⟩ : MethodName)) hown (mvT hZ (hw _ (List.mem_of_getElem? (i := 72) rfl))) (mvT hZ (hw _ (List.mem_of_getElem? (i := 73) rfl))) (mvT hZ (hw _ (List.mem_of_getElem? (i := 9) rfl))) (mvT hZ (hw _ (List.mem_of_getElem? (i := 74) rfl))) (by decide) (backOf (W := 0) (rmbs l Z a0 hw [] (2 : Int32) v12_254 v13_256 v14_258 p4 p5 p6 T265.heap n0 Z265) hZ (hw _ (List.mem_of_getElem? (i := 74) rfl)) (hw _ (List.mem_of_getElem? (i := 9) rfl)) (by decide) (by decide)) (g := (mkF m 244 #[iv p1, .val (.long q2), .second, iv p3, iv p4, iv p5, iv p6, iv (3 : Int32), iv v8_247, iv v9_248, iv v10_250, iv v11_252, iv v12_254, iv v13_256, iv v14_258, iv v15_259, iv v16_260, rv b261, .val (.double r18_267), .second, iv (0 : Int32), .val (.long v21_287), .second, .val (.long v23_269), .second, .unset, .unset] [(.int p6), (.int p5), (.int p4), (.int v14_258), (.int v13_256), (.int v12_254), (.int (2 : Int32))])) rfl (by rw [hml]; rfl) (argsL := [(.int (2 : Int32)), (.int v12_254), (.int v13_256), (.int v14_258), (.int p4), (.int p5), (.int p6)]) (rest := []) (lenOf pd__28_IIIIIII_29_J rfl) rfl (by show 2 * 0 + _ ≤ _; exact Nat.le_of_eq rfl) (hb hby at_244) (fun _ hv => ⟨rfl, e268, (by decide : 1 + 0 ≤ _), (by decide : 9 + 0 ≤ _)⟩)
      dsimp only [Pt.U, Pt.locs, Pt.cells, Pt.slots] at X288 l288 y288 z288 st288 hQ288
      subst l288 y288 z288
      obtain ⟨rfl, Nq288, e288⟩ := hQ288
      refine own_by st288 ?_
      have N288 := Fr.app N268 Nq288
      show own_Fin _ _ _ _ (T288.setTop (mkF m 247 #[iv p1, .val (.long q2), .second, iv p3, iv p4, iv p5, iv p6, iv (3 : Int32), iv v8_247, iv v9_248, iv v10_250, iv v11_252, iv v12_254, iv v13_256, iv v14_258, iv v15_259, iv v16_260, rv b261, .val (.double r18_267), .second, iv (0 : Int32), .val (.long v21_287), .second, .val (.long v23_269), .second, .unset, .unset] [(.long (own_lv (own_b3 (2 : Int32) v12_254 v13_256 v14_258 p4 p5 p6)))]))
      refine own_go (XS.lstore X288.here hx rfl (hb hby at_247) rfl rfl (Steps.refl _)) ?_
      show own_Fin _ _ _ _ (T288.setTop (mkF m 249 #[iv p1, .val (.long q2), .second, iv p3, iv p4, iv p5, iv p6, iv (3 : Int32), iv v8_247, iv v9_248, iv v10_250, iv v11_252, iv v12_254, iv v13_256, iv v14_258, iv v15_259, iv v16_260, rv b261, .val (.double r18_267), .second, iv (0 : Int32), .val (.long v21_287), .second, .val (.long v23_269), .second, .val (.long (own_lv (own_b3 (2 : Int32) v12_254 v13_256 v14_258 p4 p5 p6))), .second] []))
      generalize hz_v25_289 : (own_lv (own_b3 (2 : Int32) v12_254 v13_256 v14_258 p4 p5 p6)) = v25_289
      refine own_go (XS.lload X288.here hx rfl (hb hby at_249) rfl (Steps.refl _)) ?_
      show own_Fin _ _ _ _ (T288.setTop (mkF m 251 #[iv p1, .val (.long q2), .second, iv p3, iv p4, iv p5, iv p6, iv (3 : Int32), iv v8_247, iv v9_248, iv v10_250, iv v11_252, iv v12_254, iv v13_256, iv v14_258, iv v15_259, iv v16_260, rv b261, .val (.double r18_267), .second, iv (0 : Int32), .val (.long v21_287), .second, .val (.long v23_269), .second, .val (.long v25_289), .second] [(.long v25_289)]))
      refine own_by (X288.ldc2Long hx hown (mvT hZ (hw _ (List.mem_of_getElem? (i := 75) rfl))) (g := (mkF m 251 #[iv p1, .val (.long q2), .second, iv p3, iv p4, iv p5, iv p6, iv (3 : Int32), iv v8_247, iv v9_248, iv v10_250, iv v11_252, iv v12_254, iv v13_256, iv v14_258, iv v15_259, iv v16_260, rv b261, .val (.double r18_267), .second, iv (0 : Int32), .val (.long v21_287), .second, .val (.long v23_269), .second, .val (.long v25_289), .second] [(.long v25_289)])) rfl (hb hby at_251)) ?_
      show own_Fin _ _ _ _ (T288.setTop (mkF m 254 #[iv p1, .val (.long q2), .second, iv p3, iv p4, iv p5, iv p6, iv (3 : Int32), iv v8_247, iv v9_248, iv v10_250, iv v11_252, iv v12_254, iv v13_256, iv v14_258, iv v15_259, iv v16_260, rv b261, .val (.double r18_267), .second, iv (0 : Int32), .val (.long v21_287), .second, .val (.long v23_269), .second, .val (.long v25_289), .second] [(.long (-9223372036854775808 : Int64)), (.long v25_289)]))
      refine own_go (XS.lcmp X288.here hx rfl (hb hby at_254) rfl (Steps.refl _)) ?_
      show own_Fin _ _ _ _ (T288.setTop (mkF m 255 #[iv p1, .val (.long q2), .second, iv p3, iv p4, iv p5, iv p6, iv (3 : Int32), iv v8_247, iv v9_248, iv v10_250, iv v11_252, iv v12_254, iv v13_256, iv v14_258, iv v15_259, iv v16_260, rv b261, .val (.double r18_267), .second, iv (0 : Int32), .val (.long v21_287), .second, .val (.long v23_269), .second, .val (.long v25_289), .second] [(.int (lcmpW v25_289 (-9223372036854775808 : Int64)))]))
      by_cases cb290 : (own_b3 (2 : Int32) v12_254 v13_256 v14_258 p4 p5 p6) = none
      · refine own_go (XS.ifNo X288.here hx rfl (hb hby at_255) rfl ((if0 _ _).trans (teq (show (lcmpW v25_289 (-9223372036854775808 : Int64)) = (0 : Int32) from (by rw [← hz_v25_289]; exact own_lvz cb290))).2) (Steps.refl _)) ?_
        show own_Fin _ _ _ _ (T288.setTop (mkF m 258 #[iv p1, .val (.long q2), .second, iv p3, iv p4, iv p5, iv p6, iv (3 : Int32), iv v8_247, iv v9_248, iv v10_250, iv v11_252, iv v12_254, iv v13_256, iv v14_258, iv v15_259, iv v16_260, rv b261, .val (.double r18_267), .second, iv (0 : Int32), .val (.long v21_287), .second, .val (.long v23_269), .second, .val (.long v25_289), .second] []))
        refine own_go (XS.iconst X288.here hx rfl (hb hby at_258) (Steps.refl _)) ?_
        show own_Fin _ _ _ _ (T288.setTop (mkF m 259 #[iv p1, .val (.long q2), .second, iv p3, iv p4, iv p5, iv p6, iv (3 : Int32), iv v8_247, iv v9_248, iv v10_250, iv v11_252, iv v12_254, iv v13_256, iv v14_258, iv v15_259, iv v16_260, rv b261, .val (.double r18_267), .second, iv (0 : Int32), .val (.long v21_287), .second, .val (.long v23_269), .second, .val (.long v25_289), .second] [(.int (1 : Int32))]))
        refine own_go (XS.istore X288.here hx rfl (hb hby at_259) rfl rfl (Steps.refl _)) ?_
        show own_Fin _ _ _ _ (T288.setTop (mkF m 261 #[iv p1, .val (.long q2), .second, iv p3, iv p4, iv p5, iv p6, iv (3 : Int32), iv v8_247, iv v9_248, iv v10_250, iv v11_252, iv v12_254, iv v13_256, iv v14_258, iv v15_259, iv v16_260, rv b261, .val (.double r18_267), .second, iv (1 : Int32), .val (.long v21_287), .second, .val (.long v23_269), .second, .val (.long v25_289), .second] []))
        refine own_go (XS.goto X288.here hx rfl (pc0 := 261) (pc' := 275) rfl (hb hby at_261) (by decide) (by decide) (Steps.refl _)) ?_
        show own_Fin _ _ _ _ (T288.setTop (mkF m 275 #[iv p1, .val (.long q2), .second, iv p3, iv p4, iv p5, iv p6, iv (3 : Int32), iv v8_247, iv v9_248, iv v10_250, iv v11_252, iv v12_254, iv v13_256, iv v14_258, iv v15_259, iv v16_260, rv b261, .val (.double r18_267), .second, iv (1 : Int32), .val (.long v21_287), .second, .val (.long v23_269), .second, .val (.long v25_289), .second] []))
        refine own_go (XS.iload X288.here hx rfl (hb hby at_275) rfl (Steps.refl _)) ?_
        show own_Fin _ _ _ _ (T288.setTop (mkF m 277 #[iv p1, .val (.long q2), .second, iv p3, iv p4, iv p5, iv p6, iv (3 : Int32), iv v8_247, iv v9_248, iv v10_250, iv v11_252, iv v12_254, iv v13_256, iv v14_258, iv v15_259, iv v16_260, rv b261, .val (.double r18_267), .second, iv (1 : Int32), .val (.long v21_287), .second, .val (.long v23_269), .second, .val (.long v25_289), .second] [(.int (3 : Int32))]))
        refine own_go (XS.iconst X288.here hx rfl (hb hby at_277) (Steps.refl _)) ?_
        show own_Fin _ _ _ _ (T288.setTop (mkF m 278 #[iv p1, .val (.long q2), .second, iv p3, iv p4, iv p5, iv p6, iv (3 : Int32), iv v8_247, iv v9_248, iv v10_250, iv v11_252, iv v12_254, iv v13_256, iv v14_258, iv v15_259, iv v16_260, rv b261, .val (.double r18_267), .second, iv (1 : Int32), .val (.long v21_287), .second, .val (.long v23_269), .second, .val (.long v25_289), .second] [(.int (3 : Int32)), (.int (3 : Int32))]))
        refine own_go (XS.icmpNo X288.here hx rfl (hb hby at_278) rfl (flt (by decide : ¬ ((3 : Int32) < (3 : Int32)))).1 (Steps.refl _)) ?_
        show own_Fin _ _ _ _ (T288.setTop (mkF m 281 #[iv p1, .val (.long q2), .second, iv p3, iv p4, iv p5, iv p6, iv (3 : Int32), iv v8_247, iv v9_248, iv v10_250, iv v11_252, iv v12_254, iv v13_256, iv v14_258, iv v15_259, iv v16_260, rv b261, .val (.double r18_267), .second, iv (1 : Int32), .val (.long v21_287), .second, .val (.long v23_269), .second, .val (.long v25_289), .second] []))
        refine own_go (XS.iconst X288.here hx rfl (hb hby at_281) (Steps.refl _)) ?_
        show own_Fin _ _ _ _ (T288.setTop (mkF m 282 #[iv p1, .val (.long q2), .second, iv p3, iv p4, iv p5, iv p6, iv (3 : Int32), iv v8_247, iv v9_248, iv v10_250, iv v11_252, iv v12_254, iv v13_256, iv v14_258, iv v15_259, iv v16_260, rv b261, .val (.double r18_267), .second, iv (1 : Int32), .val (.long v21_287), .second, .val (.long v23_269), .second, .val (.long v25_289), .second] [(.int (3 : Int32))]))
        refine own_go (XS.iload X288.here hx rfl (hb hby at_282) rfl (Steps.refl _)) ?_
        show own_Fin _ _ _ _ (T288.setTop (mkF m 284 #[iv p1, .val (.long q2), .second, iv p3, iv p4, iv p5, iv p6, iv (3 : Int32), iv v8_247, iv v9_248, iv v10_250, iv v11_252, iv v12_254, iv v13_256, iv v14_258, iv v15_259, iv v16_260, rv b261, .val (.double r18_267), .second, iv (1 : Int32), .val (.long v21_287), .second, .val (.long v23_269), .second, .val (.long v25_289), .second] [(.int v12_254), (.int (3 : Int32))]))
        refine own_go (XS.iload X288.here hx rfl (hb hby at_284) rfl (Steps.refl _)) ?_
        show own_Fin _ _ _ _ (T288.setTop (mkF m 286 #[iv p1, .val (.long q2), .second, iv p3, iv p4, iv p5, iv p6, iv (3 : Int32), iv v8_247, iv v9_248, iv v10_250, iv v11_252, iv v12_254, iv v13_256, iv v14_258, iv v15_259, iv v16_260, rv b261, .val (.double r18_267), .second, iv (1 : Int32), .val (.long v21_287), .second, .val (.long v23_269), .second, .val (.long v25_289), .second] [(.int v13_256), (.int v12_254), (.int (3 : Int32))]))
        refine own_go (XS.iload X288.here hx rfl (hb hby at_286) rfl (Steps.refl _)) ?_
        show own_Fin _ _ _ _ (T288.setTop (mkF m 288 #[iv p1, .val (.long q2), .second, iv p3, iv p4, iv p5, iv p6, iv (3 : Int32), iv v8_247, iv v9_248, iv v10_250, iv v11_252, iv v12_254, iv v13_256, iv v14_258, iv v15_259, iv v16_260, rv b261, .val (.double r18_267), .second, iv (1 : Int32), .val (.long v21_287), .second, .val (.long v23_269), .second, .val (.long v25_289), .second] [(.int v14_258), (.int v13_256), (.int v12_254), (.int (3 : Int32))]))
        refine own_go (XS.iload X288.here hx rfl (hb hby at_288) rfl (Steps.refl _)) ?_
        show own_Fin _ _ _ _ (T288.setTop (mkF m 290 #[iv p1, .val (.long q2), .second, iv p3, iv p4, iv p5, iv p6, iv (3 : Int32), iv v8_247, iv v9_248, iv v10_250, iv v11_252, iv v12_254, iv v13_256, iv v14_258, iv v15_259, iv v16_260, rv b261, .val (.double r18_267), .second, iv (1 : Int32), .val (.long v21_287), .second, .val (.long v23_269), .second, .val (.long v25_289), .second] [(.int p4), (.int v14_258), (.int v13_256), (.int v12_254), (.int (3 : Int32))]))
        refine own_go (XS.iload X288.here hx rfl (hb hby at_290) rfl (Steps.refl _)) ?_
        show own_Fin _ _ _ _ (T288.setTop (mkF m 292 #[iv p1, .val (.long q2), .second, iv p3, iv p4, iv p5, iv p6, iv (3 : Int32), iv v8_247, iv v9_248, iv v10_250, iv v11_252, iv v12_254, iv v13_256, iv v14_258, iv v15_259, iv v16_260, rv b261, .val (.double r18_267), .second, iv (1 : Int32), .val (.long v21_287), .second, .val (.long v23_269), .second, .val (.long v25_289), .second] [(.int p5), (.int p4), (.int v14_258), (.int v13_256), (.int v12_254), (.int (3 : Int32))]))
        refine own_go (XS.iload X288.here hx rfl (hb hby at_292) rfl (Steps.refl _)) ?_
        show own_Fin _ _ _ _ (T288.setTop (mkF m 294 #[iv p1, .val (.long q2), .second, iv p3, iv p4, iv p5, iv p6, iv (3 : Int32), iv v8_247, iv v9_248, iv v10_250, iv v11_252, iv v12_254, iv v13_256, iv v14_258, iv v15_259, iv v16_260, rv b261, .val (.double r18_267), .second, iv (1 : Int32), .val (.long v21_287), .second, .val (.long v23_269), .second, .val (.long v25_289), .second] [(.int p6), (.int p5), (.int p4), (.int v14_258), (.int v13_256), (.int v12_254), (.int (3 : Int32))]))
        obtain ⟨_, _, ⟨T291, L291, k291, n291⟩, -, X291, ⟨Lc291, hQ291, l291, y291, z291⟩, st291⟩ := Jvm.LawKit.callS X288 hx (y := (⟨"com/example/tidewalk/tidewalk/problems/RunMeasuresBestErrorBeforeChangePinLaw", "best", "(IIIIIII)J"⟩ : MethodName)) hown (mvT hZ (hw _ (List.mem_of_getElem? (i := 72) rfl))) (mvT hZ (hw _ (List.mem_of_getElem? (i := 73) rfl))) (mvT hZ (hw _ (List.mem_of_getElem? (i := 9) rfl))) (mvT hZ (hw _ (List.mem_of_getElem? (i := 74) rfl))) (by decide) (backOf (W := 0) (rmbs l Z a0 hw [] (3 : Int32) v12_254 v13_256 v14_258 p4 p5 p6 T265.heap n0 Z265) hZ (hw _ (List.mem_of_getElem? (i := 74) rfl)) (hw _ (List.mem_of_getElem? (i := 9) rfl)) (by decide) (by decide)) (g := (mkF m 294 #[iv p1, .val (.long q2), .second, iv p3, iv p4, iv p5, iv p6, iv (3 : Int32), iv v8_247, iv v9_248, iv v10_250, iv v11_252, iv v12_254, iv v13_256, iv v14_258, iv v15_259, iv v16_260, rv b261, .val (.double r18_267), .second, iv (1 : Int32), .val (.long v21_287), .second, .val (.long v23_269), .second, .val (.long v25_289), .second] [(.int p6), (.int p5), (.int p4), (.int v14_258), (.int v13_256), (.int v12_254), (.int (3 : Int32))])) rfl (by rw [hml]; rfl) (argsL := [(.int (3 : Int32)), (.int v12_254), (.int v13_256), (.int v14_258), (.int p4), (.int p5), (.int p6)]) (rest := []) (lenOf pd__28_IIIIIII_29_J rfl) rfl (by show 2 * 0 + _ ≤ _; exact Nat.le_of_eq rfl) (hb hby at_294) (fun _ hv => ⟨rfl, e288, (by decide : 1 + 0 ≤ _), (by decide : 9 + 0 ≤ _)⟩)
        dsimp only [Pt.U, Pt.locs, Pt.cells, Pt.slots] at X291 l291 y291 z291 st291 hQ291
        subst l291 y291 z291
        obtain ⟨rfl, Nq291, e291⟩ := hQ291
        refine own_by st291 ?_
        have N291 := Fr.app N288 Nq291
        show own_Fin _ _ _ _ (T291.setTop (mkF m 297 #[iv p1, .val (.long q2), .second, iv p3, iv p4, iv p5, iv p6, iv (3 : Int32), iv v8_247, iv v9_248, iv v10_250, iv v11_252, iv v12_254, iv v13_256, iv v14_258, iv v15_259, iv v16_260, rv b261, .val (.double r18_267), .second, iv (1 : Int32), .val (.long v21_287), .second, .val (.long v23_269), .second, .val (.long v25_289), .second] [(.long (own_lv (own_b3 (3 : Int32) v12_254 v13_256 v14_258 p4 p5 p6)))]))
        refine own_go (XS.lstore X291.here hx rfl (hb hby at_297) rfl rfl (Steps.refl _)) ?_
        show own_Fin _ _ _ _ (T291.setTop (mkF m 299 #[iv p1, .val (.long q2), .second, iv p3, iv p4, iv p5, iv p6, iv (3 : Int32), iv v8_247, iv v9_248, iv v10_250, iv v11_252, iv v12_254, iv v13_256, iv v14_258, iv v15_259, iv v16_260, rv b261, .val (.double r18_267), .second, iv (1 : Int32), .val (.long v21_287), .second, .val (.long v23_269), .second, .val (.long (own_lv (own_b3 (3 : Int32) v12_254 v13_256 v14_258 p4 p5 p6))), .second] []))
        generalize hz_v25_292 : (own_lv (own_b3 (3 : Int32) v12_254 v13_256 v14_258 p4 p5 p6)) = v25_292
        refine own_go (XS.lload X291.here hx rfl (hb hby at_299) rfl (Steps.refl _)) ?_
        show own_Fin _ _ _ _ (T291.setTop (mkF m 301 #[iv p1, .val (.long q2), .second, iv p3, iv p4, iv p5, iv p6, iv (3 : Int32), iv v8_247, iv v9_248, iv v10_250, iv v11_252, iv v12_254, iv v13_256, iv v14_258, iv v15_259, iv v16_260, rv b261, .val (.double r18_267), .second, iv (1 : Int32), .val (.long v21_287), .second, .val (.long v23_269), .second, .val (.long v25_292), .second] [(.long v25_292)]))
        refine own_by (X291.ldc2Long hx hown (mvT hZ (hw _ (List.mem_of_getElem? (i := 75) rfl))) (g := (mkF m 301 #[iv p1, .val (.long q2), .second, iv p3, iv p4, iv p5, iv p6, iv (3 : Int32), iv v8_247, iv v9_248, iv v10_250, iv v11_252, iv v12_254, iv v13_256, iv v14_258, iv v15_259, iv v16_260, rv b261, .val (.double r18_267), .second, iv (1 : Int32), .val (.long v21_287), .second, .val (.long v23_269), .second, .val (.long v25_292), .second] [(.long v25_292)])) rfl (hb hby at_301)) ?_
        show own_Fin _ _ _ _ (T291.setTop (mkF m 304 #[iv p1, .val (.long q2), .second, iv p3, iv p4, iv p5, iv p6, iv (3 : Int32), iv v8_247, iv v9_248, iv v10_250, iv v11_252, iv v12_254, iv v13_256, iv v14_258, iv v15_259, iv v16_260, rv b261, .val (.double r18_267), .second, iv (1 : Int32), .val (.long v21_287), .second, .val (.long v23_269), .second, .val (.long v25_292), .second] [(.long (-9223372036854775808 : Int64)), (.long v25_292)]))
        refine own_go (XS.lcmp X291.here hx rfl (hb hby at_304) rfl (Steps.refl _)) ?_
        show own_Fin _ _ _ _ (T291.setTop (mkF m 305 #[iv p1, .val (.long q2), .second, iv p3, iv p4, iv p5, iv p6, iv (3 : Int32), iv v8_247, iv v9_248, iv v10_250, iv v11_252, iv v12_254, iv v13_256, iv v14_258, iv v15_259, iv v16_260, rv b261, .val (.double r18_267), .second, iv (1 : Int32), .val (.long v21_287), .second, .val (.long v23_269), .second, .val (.long v25_292), .second] [(.int (lcmpW v25_292 (-9223372036854775808 : Int64)))]))
        by_cases cb293 : (own_b3 (3 : Int32) v12_254 v13_256 v14_258 p4 p5 p6) = none
        · refine own_go (XS.ifNo X291.here hx rfl (hb hby at_305) rfl ((if0 _ _).trans (teq (show (lcmpW v25_292 (-9223372036854775808 : Int64)) = (0 : Int32) from (by rw [← hz_v25_292]; exact own_lvz cb293))).2) (Steps.refl _)) ?_
          show own_Fin _ _ _ _ (T291.setTop (mkF m 308 #[iv p1, .val (.long q2), .second, iv p3, iv p4, iv p5, iv p6, iv (3 : Int32), iv v8_247, iv v9_248, iv v10_250, iv v11_252, iv v12_254, iv v13_256, iv v14_258, iv v15_259, iv v16_260, rv b261, .val (.double r18_267), .second, iv (1 : Int32), .val (.long v21_287), .second, .val (.long v23_269), .second, .val (.long v25_292), .second] []))
          refine own_go (XS.iconst X291.here hx rfl (hb hby at_308) (Steps.refl _)) ?_
          show own_Fin _ _ _ _ (T291.setTop (mkF m 309 #[iv p1, .val (.long q2), .second, iv p3, iv p4, iv p5, iv p6, iv (3 : Int32), iv v8_247, iv v9_248, iv v10_250, iv v11_252, iv v12_254, iv v13_256, iv v14_258, iv v15_259, iv v16_260, rv b261, .val (.double r18_267), .second, iv (1 : Int32), .val (.long v21_287), .second, .val (.long v23_269), .second, .val (.long v25_292), .second] [(.int (1 : Int32))]))
          refine own_go (XS.istore X291.here hx rfl (hb hby at_309) rfl rfl (Steps.refl _)) ?_
          show own_Fin _ _ _ _ (T291.setTop (mkF m 311 #[iv p1, .val (.long q2), .second, iv p3, iv p4, iv p5, iv p6, iv (3 : Int32), iv v8_247, iv v9_248, iv v10_250, iv v11_252, iv v12_254, iv v13_256, iv v14_258, iv v15_259, iv v16_260, rv b261, .val (.double r18_267), .second, iv (1 : Int32), .val (.long v21_287), .second, .val (.long v23_269), .second, .val (.long v25_292), .second] []))
          refine own_go (XS.goto X291.here hx rfl (pc0 := 311) (pc' := 324) rfl (hb hby at_311) (by decide) (by decide) (Steps.refl _)) ?_
          show own_Fin _ _ _ _ (T291.setTop (mkF m 324 #[iv p1, .val (.long q2), .second, iv p3, iv p4, iv p5, iv p6, iv (3 : Int32), iv v8_247, iv v9_248, iv v10_250, iv v11_252, iv v12_254, iv v13_256, iv v14_258, iv v15_259, iv v16_260, rv b261, .val (.double r18_267), .second, iv (1 : Int32), .val (.long v21_287), .second, .val (.long v23_269), .second, .val (.long v25_292), .second] []))
          refine own_go (XS.iload X291.here hx rfl (hb hby at_324) rfl (Steps.refl _)) ?_
          show own_Fin _ _ _ _ (T291.setTop (mkF m 326 #[iv p1, .val (.long q2), .second, iv p3, iv p4, iv p5, iv p6, iv (3 : Int32), iv v8_247, iv v9_248, iv v10_250, iv v11_252, iv v12_254, iv v13_256, iv v14_258, iv v15_259, iv v16_260, rv b261, .val (.double r18_267), .second, iv (1 : Int32), .val (.long v21_287), .second, .val (.long v23_269), .second, .val (.long v25_292), .second] [(.int (1 : Int32))]))
          refine own_go (XS.ifNo X291.here hx rfl (hb hby at_326) rfl ((if0 _ _).trans (feq (by decide : ¬ ((1 : Int32) = (0 : Int32)))).1) (Steps.refl _)) ?_
          show own_Fin _ _ _ _ (T291.setTop (mkF m 329 #[iv p1, .val (.long q2), .second, iv p3, iv p4, iv p5, iv p6, iv (3 : Int32), iv v8_247, iv v9_248, iv v10_250, iv v11_252, iv v12_254, iv v13_256, iv v14_258, iv v15_259, iv v16_260, rv b261, .val (.double r18_267), .second, iv (1 : Int32), .val (.long v21_287), .second, .val (.long v23_269), .second, .val (.long v25_292), .second] []))
          refine own_go (XS.dload X291.here hx rfl (hb hby at_329) rfl (Steps.refl _)) ?_
          show own_Fin _ _ _ _ (T291.setTop (mkF m 331 #[iv p1, .val (.long q2), .second, iv p3, iv p4, iv p5, iv p6, iv (3 : Int32), iv v8_247, iv v9_248, iv v10_250, iv v11_252, iv v12_254, iv v13_256, iv v14_258, iv v15_259, iv v16_260, rv b261, .val (.double r18_267), .second, iv (1 : Int32), .val (.long v21_287), .second, .val (.long v23_269), .second, .val (.long v25_292), .second] [(.double r18_267)]))
          refine own_by (X291.ldc2DoubleC hx hown (mvT hZ (hw _ (List.mem_of_getElem? (i := 79) rfl))) (g := (mkF m 331 #[iv p1, .val (.long q2), .second, iv p3, iv p4, iv p5, iv p6, iv (3 : Int32), iv v8_247, iv v9_248, iv v10_250, iv v11_252, iv v12_254, iv v13_256, iv v14_258, iv v15_259, iv v16_260, rv b261, .val (.double r18_267), .second, iv (1 : Int32), .val (.long v21_287), .second, .val (.long v23_269), .second, .val (.long v25_292), .second] [(.double r18_267)])) rfl (hb hby at_331)) ?_
          show own_Fin _ _ _ _ (T291.setTop (mkF m 334 #[iv p1, .val (.long q2), .second, iv p3, iv p4, iv p5, iv p6, iv (3 : Int32), iv v8_247, iv v9_248, iv v10_250, iv v11_252, iv v12_254, iv v13_256, iv v14_258, iv v15_259, iv v16_260, rv b261, .val (.double r18_267), .second, iv (1 : Int32), .val (.long v21_287), .second, .val (.long v23_269), .second, .val (.long v25_292), .second] [(.double (9218868437227405312 : UInt64)), (.double r18_267)]))
          refine own_go (XS.dcmpS X291.here hx rfl (hb hby at_334) rfl (show cmpValue (FP.dcmp r18_267 (9218868437227405312 : UInt64)) .l = (0 : Int32) from (by rw [← hz_r18_267]; exact own_ci (own_z3 (Or.inr (Or.inl cb290))) (by decide))) (Steps.refl _)) ?_
          show own_Fin _ _ _ _ (T291.setTop (mkF m 335 #[iv p1, .val (.long q2), .second, iv p3, iv p4, iv p5, iv p6, iv (3 : Int32), iv v8_247, iv v9_248, iv v10_250, iv v11_252, iv v12_254, iv v13_256, iv v14_258, iv v15_259, iv v16_260, rv b261, .val (.double r18_267), .second, iv (1 : Int32), .val (.long v21_287), .second, .val (.long v23_269), .second, .val (.long v25_292), .second] [(.int (0 : Int32))]))
          refine own_go (XS.ifNo X291.here hx rfl (hb hby at_335) rfl ((if0 _ _).trans (teq (by decide : (0 : Int32) = (0 : Int32))).2) (Steps.refl _)) ?_
          show own_Fin _ _ _ _ (T291.setTop (mkF m 338 #[iv p1, .val (.long q2), .second, iv p3, iv p4, iv p5, iv p6, iv (3 : Int32), iv v8_247, iv v9_248, iv v10_250, iv v11_252, iv v12_254, iv v13_256, iv v14_258, iv v15_259, iv v16_260, rv b261, .val (.double r18_267), .second, iv (1 : Int32), .val (.long v21_287), .second, .val (.long v23_269), .second, .val (.long v25_292), .second] []))
          refine own_go (XS.iconst X291.here hx rfl (hb hby at_338) (Steps.refl _)) ?_
          show own_Fin _ _ _ _ (T291.setTop (mkF m 339 #[iv p1, .val (.long q2), .second, iv p3, iv p4, iv p5, iv p6, iv (3 : Int32), iv v8_247, iv v9_248, iv v10_250, iv v11_252, iv v12_254, iv v13_256, iv v14_258, iv v15_259, iv v16_260, rv b261, .val (.double r18_267), .second, iv (1 : Int32), .val (.long v21_287), .second, .val (.long v23_269), .second, .val (.long v25_292), .second] [(.int (1 : Int32))]))
          refine own_go (XS.goto X291.here hx rfl (pc0 := 339) (pc' := 343) rfl (hb hby at_339) (by decide) (by decide) (Steps.refl _)) ?_
          show own_Fin _ _ _ _ (T291.setTop (mkF m 343 #[iv p1, .val (.long q2), .second, iv p3, iv p4, iv p5, iv p6, iv (3 : Int32), iv v8_247, iv v9_248, iv v10_250, iv v11_252, iv v12_254, iv v13_256, iv v14_258, iv v15_259, iv v16_260, rv b261, .val (.double r18_267), .second, iv (1 : Int32), .val (.long v21_287), .second, .val (.long v23_269), .second, .val (.long v25_292), .second] [(.int (1 : Int32))]))
          obtain ⟨fs294, hr294, hrun294, hended294, hW294, hsame294⟩ := X291.leave (v := some (.int (1 : Int32))) (fun h => by rw [Bd.returns] at h; cases h)
          refine own_done (retN X291 hx (t := .boolean) Bd.returns (by simp) (hb hby at_343) hr294) hrun294 hended294 ⟨_, _, rfl, ?_, ⟨_, rfl⟩, hW294, hsame294.mono (by decide) (by decide)⟩
          show Q0 Z p1 q2 p3 p4 p5 p6 h0 n0 _ T291.heap _
          rw [e291]
          exact ⟨rfl, N291⟩
        · refine own_go (XS.ifYes X291.here hx rfl (pc0 := 305) (pc' := 314) rfl (hb hby at_305) rfl ((if0 _ _).trans (feq (show ¬ ((lcmpW v25_292 (-9223372036854775808 : Int64)) = (0 : Int32)) from (by rw [← hz_v25_292]; exact own_lvne (own_W3 _ _ _ _ _ _ _) cb293))).2) (by decide) (by decide) (Steps.refl _)) ?_
          show own_Fin _ _ _ _ (T291.setTop (mkF m 314 #[iv p1, .val (.long q2), .second, iv p3, iv p4, iv p5, iv p6, iv (3 : Int32), iv v8_247, iv v9_248, iv v10_250, iv v11_252, iv v12_254, iv v13_256, iv v14_258, iv v15_259, iv v16_260, rv b261, .val (.double r18_267), .second, iv (1 : Int32), .val (.long v21_287), .second, .val (.long v23_269), .second, .val (.long v25_292), .second] []))
          refine own_go (XS.lload X291.here hx rfl (hb hby at_314) rfl (Steps.refl _)) ?_
          show own_Fin _ _ _ _ (T291.setTop (mkF m 316 #[iv p1, .val (.long q2), .second, iv p3, iv p4, iv p5, iv p6, iv (3 : Int32), iv v8_247, iv v9_248, iv v10_250, iv v11_252, iv v12_254, iv v13_256, iv v14_258, iv v15_259, iv v16_260, rv b261, .val (.double r18_267), .second, iv (1 : Int32), .val (.long v21_287), .second, .val (.long v23_269), .second, .val (.long v25_292), .second] [(.long v21_287)]))
          refine own_go (XS.iloadN X291.here hx rfl (hb hby at_316) rfl (Steps.refl _)) ?_
          show own_Fin _ _ _ _ (T291.setTop (mkF m 317 #[iv p1, .val (.long q2), .second, iv p3, iv p4, iv p5, iv p6, iv (3 : Int32), iv v8_247, iv v9_248, iv v10_250, iv v11_252, iv v12_254, iv v13_256, iv v14_258, iv v15_259, iv v16_260, rv b261, .val (.double r18_267), .second, iv (1 : Int32), .val (.long v21_287), .second, .val (.long v23_269), .second, .val (.long v25_292), .second] [(.int p3), (.long v21_287)]))
          refine own_go (XS.i2l X291.here hx rfl (hb hby at_317) rfl (Steps.refl _)) ?_
          show own_Fin _ _ _ _ (T291.setTop (mkF m 318 #[iv p1, .val (.long q2), .second, iv p3, iv p4, iv p5, iv p6, iv (3 : Int32), iv v8_247, iv v9_248, iv v10_250, iv v11_252, iv v12_254, iv v13_256, iv v14_258, iv v15_259, iv v16_260, rv b261, .val (.double r18_267), .second, iv (1 : Int32), .val (.long v21_287), .second, .val (.long v23_269), .second, .val (.long v25_292), .second] [(.long (p3.toInt64)), (.long v21_287)]))
          refine own_go (XS.lload X291.here hx rfl (hb hby at_318) rfl (Steps.refl _)) ?_
          show own_Fin _ _ _ _ (T291.setTop (mkF m 320 #[iv p1, .val (.long q2), .second, iv p3, iv p4, iv p5, iv p6, iv (3 : Int32), iv v8_247, iv v9_248, iv v10_250, iv v11_252, iv v12_254, iv v13_256, iv v14_258, iv v15_259, iv v16_260, rv b261, .val (.double r18_267), .second, iv (1 : Int32), .val (.long v21_287), .second, .val (.long v23_269), .second, .val (.long v25_292), .second] [(.long v25_292), (.long (p3.toInt64)), (.long v21_287)]))
          refine own_go (XS.lsub X291.here hx rfl (hb hby at_320) rfl (Steps.refl _)) ?_
          show own_Fin _ _ _ _ (T291.setTop (mkF m 321 #[iv p1, .val (.long q2), .second, iv p3, iv p4, iv p5, iv p6, iv (3 : Int32), iv v8_247, iv v9_248, iv v10_250, iv v11_252, iv v12_254, iv v13_256, iv v14_258, iv v15_259, iv v16_260, rv b261, .val (.double r18_267), .second, iv (1 : Int32), .val (.long v21_287), .second, .val (.long v23_269), .second, .val (.long v25_292), .second] [(.long ((p3.toInt64) - v25_292)), (.long v21_287)]))
          refine own_go (XS.ladd X291.here hx rfl (hb hby at_321) rfl (Steps.refl _)) ?_
          show own_Fin _ _ _ _ (T291.setTop (mkF m 322 #[iv p1, .val (.long q2), .second, iv p3, iv p4, iv p5, iv p6, iv (3 : Int32), iv v8_247, iv v9_248, iv v10_250, iv v11_252, iv v12_254, iv v13_256, iv v14_258, iv v15_259, iv v16_260, rv b261, .val (.double r18_267), .second, iv (1 : Int32), .val (.long v21_287), .second, .val (.long v23_269), .second, .val (.long v25_292), .second] [(.long (v21_287 + ((p3.toInt64) - v25_292)))]))
          refine own_go (XS.lstore X291.here hx rfl (hb hby at_322) rfl rfl (Steps.refl _)) ?_
          show own_Fin _ _ _ _ (T291.setTop (mkF m 324 #[iv p1, .val (.long q2), .second, iv p3, iv p4, iv p5, iv p6, iv (3 : Int32), iv v8_247, iv v9_248, iv v10_250, iv v11_252, iv v12_254, iv v13_256, iv v14_258, iv v15_259, iv v16_260, rv b261, .val (.double r18_267), .second, iv (1 : Int32), .val (.long (v21_287 + ((p3.toInt64) - v25_292))), .second, .val (.long v23_269), .second, .val (.long v25_292), .second] []))
          generalize hz_v21_295 : (v21_287 + ((p3.toInt64) - v25_292)) = v21_295
          refine own_go (XS.iload X291.here hx rfl (hb hby at_324) rfl (Steps.refl _)) ?_
          show own_Fin _ _ _ _ (T291.setTop (mkF m 326 #[iv p1, .val (.long q2), .second, iv p3, iv p4, iv p5, iv p6, iv (3 : Int32), iv v8_247, iv v9_248, iv v10_250, iv v11_252, iv v12_254, iv v13_256, iv v14_258, iv v15_259, iv v16_260, rv b261, .val (.double r18_267), .second, iv (1 : Int32), .val (.long v21_295), .second, .val (.long v23_269), .second, .val (.long v25_292), .second] [(.int (1 : Int32))]))
          refine own_go (XS.ifNo X291.here hx rfl (hb hby at_326) rfl ((if0 _ _).trans (feq (by decide : ¬ ((1 : Int32) = (0 : Int32)))).1) (Steps.refl _)) ?_
          show own_Fin _ _ _ _ (T291.setTop (mkF m 329 #[iv p1, .val (.long q2), .second, iv p3, iv p4, iv p5, iv p6, iv (3 : Int32), iv v8_247, iv v9_248, iv v10_250, iv v11_252, iv v12_254, iv v13_256, iv v14_258, iv v15_259, iv v16_260, rv b261, .val (.double r18_267), .second, iv (1 : Int32), .val (.long v21_295), .second, .val (.long v23_269), .second, .val (.long v25_292), .second] []))
          refine own_go (XS.dload X291.here hx rfl (hb hby at_329) rfl (Steps.refl _)) ?_
          show own_Fin _ _ _ _ (T291.setTop (mkF m 331 #[iv p1, .val (.long q2), .second, iv p3, iv p4, iv p5, iv p6, iv (3 : Int32), iv v8_247, iv v9_248, iv v10_250, iv v11_252, iv v12_254, iv v13_256, iv v14_258, iv v15_259, iv v16_260, rv b261, .val (.double r18_267), .second, iv (1 : Int32), .val (.long v21_295), .second, .val (.long v23_269), .second, .val (.long v25_292), .second] [(.double r18_267)]))
          refine own_by (X291.ldc2DoubleC hx hown (mvT hZ (hw _ (List.mem_of_getElem? (i := 79) rfl))) (g := (mkF m 331 #[iv p1, .val (.long q2), .second, iv p3, iv p4, iv p5, iv p6, iv (3 : Int32), iv v8_247, iv v9_248, iv v10_250, iv v11_252, iv v12_254, iv v13_256, iv v14_258, iv v15_259, iv v16_260, rv b261, .val (.double r18_267), .second, iv (1 : Int32), .val (.long v21_295), .second, .val (.long v23_269), .second, .val (.long v25_292), .second] [(.double r18_267)])) rfl (hb hby at_331)) ?_
          show own_Fin _ _ _ _ (T291.setTop (mkF m 334 #[iv p1, .val (.long q2), .second, iv p3, iv p4, iv p5, iv p6, iv (3 : Int32), iv v8_247, iv v9_248, iv v10_250, iv v11_252, iv v12_254, iv v13_256, iv v14_258, iv v15_259, iv v16_260, rv b261, .val (.double r18_267), .second, iv (1 : Int32), .val (.long v21_295), .second, .val (.long v23_269), .second, .val (.long v25_292), .second] [(.double (9218868437227405312 : UInt64)), (.double r18_267)]))
          refine own_go (XS.dcmpS X291.here hx rfl (hb hby at_334) rfl (show cmpValue (FP.dcmp r18_267 (9218868437227405312 : UInt64)) .l = (0 : Int32) from (by rw [← hz_r18_267]; exact own_ci (own_z3 (Or.inr (Or.inl cb290))) (by decide))) (Steps.refl _)) ?_
          show own_Fin _ _ _ _ (T291.setTop (mkF m 335 #[iv p1, .val (.long q2), .second, iv p3, iv p4, iv p5, iv p6, iv (3 : Int32), iv v8_247, iv v9_248, iv v10_250, iv v11_252, iv v12_254, iv v13_256, iv v14_258, iv v15_259, iv v16_260, rv b261, .val (.double r18_267), .second, iv (1 : Int32), .val (.long v21_295), .second, .val (.long v23_269), .second, .val (.long v25_292), .second] [(.int (0 : Int32))]))
          refine own_go (XS.ifNo X291.here hx rfl (hb hby at_335) rfl ((if0 _ _).trans (teq (by decide : (0 : Int32) = (0 : Int32))).2) (Steps.refl _)) ?_
          show own_Fin _ _ _ _ (T291.setTop (mkF m 338 #[iv p1, .val (.long q2), .second, iv p3, iv p4, iv p5, iv p6, iv (3 : Int32), iv v8_247, iv v9_248, iv v10_250, iv v11_252, iv v12_254, iv v13_256, iv v14_258, iv v15_259, iv v16_260, rv b261, .val (.double r18_267), .second, iv (1 : Int32), .val (.long v21_295), .second, .val (.long v23_269), .second, .val (.long v25_292), .second] []))
          refine own_go (XS.iconst X291.here hx rfl (hb hby at_338) (Steps.refl _)) ?_
          show own_Fin _ _ _ _ (T291.setTop (mkF m 339 #[iv p1, .val (.long q2), .second, iv p3, iv p4, iv p5, iv p6, iv (3 : Int32), iv v8_247, iv v9_248, iv v10_250, iv v11_252, iv v12_254, iv v13_256, iv v14_258, iv v15_259, iv v16_260, rv b261, .val (.double r18_267), .second, iv (1 : Int32), .val (.long v21_295), .second, .val (.long v23_269), .second, .val (.long v25_292), .second] [(.int (1 : Int32))]))
          refine own_go (XS.goto X291.here hx rfl (pc0 := 339) (pc' := 343) rfl (hb hby at_339) (by decide) (by decide) (Steps.refl _)) ?_
          show own_Fin _ _ _ _ (T291.setTop (mkF m 343 #[iv p1, .val (.long q2), .second, iv p3, iv p4, iv p5, iv p6, iv (3 : Int32), iv v8_247, iv v9_248, iv v10_250, iv v11_252, iv v12_254, iv v13_256, iv v14_258, iv v15_259, iv v16_260, rv b261, .val (.double r18_267), .second, iv (1 : Int32), .val (.long v21_295), .second, .val (.long v23_269), .second, .val (.long v25_292), .second] [(.int (1 : Int32))]))
          obtain ⟨fs296, hr296, hrun296, hended296, hW296, hsame296⟩ := X291.leave (v := some (.int (1 : Int32))) (fun h => by rw [Bd.returns] at h; cases h)
          refine own_done (retN X291 hx (t := .boolean) Bd.returns (by simp) (hb hby at_343) hr296) hrun296 hended296 ⟨_, _, rfl, ?_, ⟨_, rfl⟩, hW296, hsame296.mono (by decide) (by decide)⟩
          show Q0 Z p1 q2 p3 p4 p5 p6 h0 n0 _ T291.heap _
          rw [e291]
          exact ⟨rfl, N291⟩
      · refine own_go (XS.ifYes X288.here hx rfl (pc0 := 255) (pc' := 264) rfl (hb hby at_255) rfl ((if0 _ _).trans (feq (show ¬ ((lcmpW v25_289 (-9223372036854775808 : Int64)) = (0 : Int32)) from (by rw [← hz_v25_289]; exact own_lvne (own_W3 _ _ _ _ _ _ _) cb290))).2) (by decide) (by decide) (Steps.refl _)) ?_
        show own_Fin _ _ _ _ (T288.setTop (mkF m 264 #[iv p1, .val (.long q2), .second, iv p3, iv p4, iv p5, iv p6, iv (3 : Int32), iv v8_247, iv v9_248, iv v10_250, iv v11_252, iv v12_254, iv v13_256, iv v14_258, iv v15_259, iv v16_260, rv b261, .val (.double r18_267), .second, iv (0 : Int32), .val (.long v21_287), .second, .val (.long v23_269), .second, .val (.long v25_289), .second] []))
        refine own_go (XS.lload X288.here hx rfl (hb hby at_264) rfl (Steps.refl _)) ?_
        show own_Fin _ _ _ _ (T288.setTop (mkF m 266 #[iv p1, .val (.long q2), .second, iv p3, iv p4, iv p5, iv p6, iv (3 : Int32), iv v8_247, iv v9_248, iv v10_250, iv v11_252, iv v12_254, iv v13_256, iv v14_258, iv v15_259, iv v16_260, rv b261, .val (.double r18_267), .second, iv (0 : Int32), .val (.long v21_287), .second, .val (.long v23_269), .second, .val (.long v25_289), .second] [(.long v21_287)]))
        refine own_go (XS.iload X288.here hx rfl (hb hby at_266) rfl (Steps.refl _)) ?_
        show own_Fin _ _ _ _ (T288.setTop (mkF m 268 #[iv p1, .val (.long q2), .second, iv p3, iv p4, iv p5, iv p6, iv (3 : Int32), iv v8_247, iv v9_248, iv v10_250, iv v11_252, iv v12_254, iv v13_256, iv v14_258, iv v15_259, iv v16_260, rv b261, .val (.double r18_267), .second, iv (0 : Int32), .val (.long v21_287), .second, .val (.long v23_269), .second, .val (.long v25_289), .second] [(.int v16_260), (.long v21_287)]))
        refine own_go (XS.i2l X288.here hx rfl (hb hby at_268) rfl (Steps.refl _)) ?_
        show own_Fin _ _ _ _ (T288.setTop (mkF m 269 #[iv p1, .val (.long q2), .second, iv p3, iv p4, iv p5, iv p6, iv (3 : Int32), iv v8_247, iv v9_248, iv v10_250, iv v11_252, iv v12_254, iv v13_256, iv v14_258, iv v15_259, iv v16_260, rv b261, .val (.double r18_267), .second, iv (0 : Int32), .val (.long v21_287), .second, .val (.long v23_269), .second, .val (.long v25_289), .second] [(.long (v16_260.toInt64)), (.long v21_287)]))
        refine own_go (XS.lload X288.here hx rfl (hb hby at_269) rfl (Steps.refl _)) ?_
        show own_Fin _ _ _ _ (T288.setTop (mkF m 271 #[iv p1, .val (.long q2), .second, iv p3, iv p4, iv p5, iv p6, iv (3 : Int32), iv v8_247, iv v9_248, iv v10_250, iv v11_252, iv v12_254, iv v13_256, iv v14_258, iv v15_259, iv v16_260, rv b261, .val (.double r18_267), .second, iv (0 : Int32), .val (.long v21_287), .second, .val (.long v23_269), .second, .val (.long v25_289), .second] [(.long v25_289), (.long (v16_260.toInt64)), (.long v21_287)]))
        refine own_go (XS.lsub X288.here hx rfl (hb hby at_271) rfl (Steps.refl _)) ?_
        show own_Fin _ _ _ _ (T288.setTop (mkF m 272 #[iv p1, .val (.long q2), .second, iv p3, iv p4, iv p5, iv p6, iv (3 : Int32), iv v8_247, iv v9_248, iv v10_250, iv v11_252, iv v12_254, iv v13_256, iv v14_258, iv v15_259, iv v16_260, rv b261, .val (.double r18_267), .second, iv (0 : Int32), .val (.long v21_287), .second, .val (.long v23_269), .second, .val (.long v25_289), .second] [(.long ((v16_260.toInt64) - v25_289)), (.long v21_287)]))
        refine own_go (XS.ladd X288.here hx rfl (hb hby at_272) rfl (Steps.refl _)) ?_
        show own_Fin _ _ _ _ (T288.setTop (mkF m 273 #[iv p1, .val (.long q2), .second, iv p3, iv p4, iv p5, iv p6, iv (3 : Int32), iv v8_247, iv v9_248, iv v10_250, iv v11_252, iv v12_254, iv v13_256, iv v14_258, iv v15_259, iv v16_260, rv b261, .val (.double r18_267), .second, iv (0 : Int32), .val (.long v21_287), .second, .val (.long v23_269), .second, .val (.long v25_289), .second] [(.long (v21_287 + ((v16_260.toInt64) - v25_289)))]))
        refine own_go (XS.lstore X288.here hx rfl (hb hby at_273) rfl rfl (Steps.refl _)) ?_
        show own_Fin _ _ _ _ (T288.setTop (mkF m 275 #[iv p1, .val (.long q2), .second, iv p3, iv p4, iv p5, iv p6, iv (3 : Int32), iv v8_247, iv v9_248, iv v10_250, iv v11_252, iv v12_254, iv v13_256, iv v14_258, iv v15_259, iv v16_260, rv b261, .val (.double r18_267), .second, iv (0 : Int32), .val (.long (v21_287 + ((v16_260.toInt64) - v25_289))), .second, .val (.long v23_269), .second, .val (.long v25_289), .second] []))
        generalize hz_v21_297 : (v21_287 + ((v16_260.toInt64) - v25_289)) = v21_297
        refine own_go (XS.iload X288.here hx rfl (hb hby at_275) rfl (Steps.refl _)) ?_
        show own_Fin _ _ _ _ (T288.setTop (mkF m 277 #[iv p1, .val (.long q2), .second, iv p3, iv p4, iv p5, iv p6, iv (3 : Int32), iv v8_247, iv v9_248, iv v10_250, iv v11_252, iv v12_254, iv v13_256, iv v14_258, iv v15_259, iv v16_260, rv b261, .val (.double r18_267), .second, iv (0 : Int32), .val (.long v21_297), .second, .val (.long v23_269), .second, .val (.long v25_289), .second] [(.int (3 : Int32))]))
        refine own_go (XS.iconst X288.here hx rfl (hb hby at_277) (Steps.refl _)) ?_
        show own_Fin _ _ _ _ (T288.setTop (mkF m 278 #[iv p1, .val (.long q2), .second, iv p3, iv p4, iv p5, iv p6, iv (3 : Int32), iv v8_247, iv v9_248, iv v10_250, iv v11_252, iv v12_254, iv v13_256, iv v14_258, iv v15_259, iv v16_260, rv b261, .val (.double r18_267), .second, iv (0 : Int32), .val (.long v21_297), .second, .val (.long v23_269), .second, .val (.long v25_289), .second] [(.int (3 : Int32)), (.int (3 : Int32))]))
        refine own_go (XS.icmpNo X288.here hx rfl (hb hby at_278) rfl (flt (by decide : ¬ ((3 : Int32) < (3 : Int32)))).1 (Steps.refl _)) ?_
        show own_Fin _ _ _ _ (T288.setTop (mkF m 281 #[iv p1, .val (.long q2), .second, iv p3, iv p4, iv p5, iv p6, iv (3 : Int32), iv v8_247, iv v9_248, iv v10_250, iv v11_252, iv v12_254, iv v13_256, iv v14_258, iv v15_259, iv v16_260, rv b261, .val (.double r18_267), .second, iv (0 : Int32), .val (.long v21_297), .second, .val (.long v23_269), .second, .val (.long v25_289), .second] []))
        refine own_go (XS.iconst X288.here hx rfl (hb hby at_281) (Steps.refl _)) ?_
        show own_Fin _ _ _ _ (T288.setTop (mkF m 282 #[iv p1, .val (.long q2), .second, iv p3, iv p4, iv p5, iv p6, iv (3 : Int32), iv v8_247, iv v9_248, iv v10_250, iv v11_252, iv v12_254, iv v13_256, iv v14_258, iv v15_259, iv v16_260, rv b261, .val (.double r18_267), .second, iv (0 : Int32), .val (.long v21_297), .second, .val (.long v23_269), .second, .val (.long v25_289), .second] [(.int (3 : Int32))]))
        refine own_go (XS.iload X288.here hx rfl (hb hby at_282) rfl (Steps.refl _)) ?_
        show own_Fin _ _ _ _ (T288.setTop (mkF m 284 #[iv p1, .val (.long q2), .second, iv p3, iv p4, iv p5, iv p6, iv (3 : Int32), iv v8_247, iv v9_248, iv v10_250, iv v11_252, iv v12_254, iv v13_256, iv v14_258, iv v15_259, iv v16_260, rv b261, .val (.double r18_267), .second, iv (0 : Int32), .val (.long v21_297), .second, .val (.long v23_269), .second, .val (.long v25_289), .second] [(.int v12_254), (.int (3 : Int32))]))
        refine own_go (XS.iload X288.here hx rfl (hb hby at_284) rfl (Steps.refl _)) ?_
        show own_Fin _ _ _ _ (T288.setTop (mkF m 286 #[iv p1, .val (.long q2), .second, iv p3, iv p4, iv p5, iv p6, iv (3 : Int32), iv v8_247, iv v9_248, iv v10_250, iv v11_252, iv v12_254, iv v13_256, iv v14_258, iv v15_259, iv v16_260, rv b261, .val (.double r18_267), .second, iv (0 : Int32), .val (.long v21_297), .second, .val (.long v23_269), .second, .val (.long v25_289), .second] [(.int v13_256), (.int v12_254), (.int (3 : Int32))]))
        refine own_go (XS.iload X288.here hx rfl (hb hby at_286) rfl (Steps.refl _)) ?_
        show own_Fin _ _ _ _ (T288.setTop (mkF m 288 #[iv p1, .val (.long q2), .second, iv p3, iv p4, iv p5, iv p6, iv (3 : Int32), iv v8_247, iv v9_248, iv v10_250, iv v11_252, iv v12_254, iv v13_256, iv v14_258, iv v15_259, iv v16_260, rv b261, .val (.double r18_267), .second, iv (0 : Int32), .val (.long v21_297), .second, .val (.long v23_269), .second, .val (.long v25_289), .second] [(.int v14_258), (.int v13_256), (.int v12_254), (.int (3 : Int32))]))
        refine own_go (XS.iload X288.here hx rfl (hb hby at_288) rfl (Steps.refl _)) ?_
        show own_Fin _ _ _ _ (T288.setTop (mkF m 290 #[iv p1, .val (.long q2), .second, iv p3, iv p4, iv p5, iv p6, iv (3 : Int32), iv v8_247, iv v9_248, iv v10_250, iv v11_252, iv v12_254, iv v13_256, iv v14_258, iv v15_259, iv v16_260, rv b261, .val (.double r18_267), .second, iv (0 : Int32), .val (.long v21_297), .second, .val (.long v23_269), .second, .val (.long v25_289), .second] [(.int p4), (.int v14_258), (.int v13_256), (.int v12_254), (.int (3 : Int32))]))
        refine own_go (XS.iload X288.here hx rfl (hb hby at_290) rfl (Steps.refl _)) ?_
        show own_Fin _ _ _ _ (T288.setTop (mkF m 292 #[iv p1, .val (.long q2), .second, iv p3, iv p4, iv p5, iv p6, iv (3 : Int32), iv v8_247, iv v9_248, iv v10_250, iv v11_252, iv v12_254, iv v13_256, iv v14_258, iv v15_259, iv v16_260, rv b261, .val (.double r18_267), .second, iv (0 : Int32), .val (.long v21_297), .second, .val (.long v23_269), .second, .val (.long v25_289), .second] [(.int p5), (.int p4), (.int v14_258), (.int v13_256), (.int v12_254), (.int (3 : Int32))]))
        refine own_go (XS.iload X288.here hx rfl (hb hby at_292) rfl (Steps.refl _)) ?_
        show own_Fin _ _ _ _ (T288.setTop (mkF m 294 #[iv p1, .val (.long q2), .second, iv p3, iv p4, iv p5, iv p6, iv (3 : Int32), iv v8_247, iv v9_248, iv v10_250, iv v11_252, iv v12_254, iv v13_256, iv v14_258, iv v15_259, iv v16_260, rv b261, .val (.double r18_267), .second, iv (0 : Int32), .val (.long v21_297), .second, .val (.long v23_269), .second, .val (.long v25_289), .second] [(.int p6), (.int p5), (.int p4), (.int v14_258), (.int v13_256), (.int v12_254), (.int (3 : Int32))]))
        obtain ⟨_, _, ⟨T298, L298, k298, n298⟩, -, X298, ⟨Lc298, hQ298, l298, y298, z298⟩, st298⟩ := Jvm.LawKit.callS X288 hx (y := (⟨"com/example/tidewalk/tidewalk/problems/RunMeasuresBestErrorBeforeChangePinLaw", "best", "(IIIIIII)J"⟩ : MethodName)) hown (mvT hZ (hw _ (List.mem_of_getElem? (i := 72) rfl))) (mvT hZ (hw _ (List.mem_of_getElem? (i := 73) rfl))) (mvT hZ (hw _ (List.mem_of_getElem? (i := 9) rfl))) (mvT hZ (hw _ (List.mem_of_getElem? (i := 74) rfl))) (by decide) (backOf (W := 0) (rmbs l Z a0 hw [] (3 : Int32) v12_254 v13_256 v14_258 p4 p5 p6 T265.heap n0 Z265) hZ (hw _ (List.mem_of_getElem? (i := 74) rfl)) (hw _ (List.mem_of_getElem? (i := 9) rfl)) (by decide) (by decide)) (g := (mkF m 294 #[iv p1, .val (.long q2), .second, iv p3, iv p4, iv p5, iv p6, iv (3 : Int32), iv v8_247, iv v9_248, iv v10_250, iv v11_252, iv v12_254, iv v13_256, iv v14_258, iv v15_259, iv v16_260, rv b261, .val (.double r18_267), .second, iv (0 : Int32), .val (.long v21_297), .second, .val (.long v23_269), .second, .val (.long v25_289), .second] [(.int p6), (.int p5), (.int p4), (.int v14_258), (.int v13_256), (.int v12_254), (.int (3 : Int32))])) rfl (by rw [hml]; rfl) (argsL := [(.int (3 : Int32)), (.int v12_254), (.int v13_256), (.int v14_258), (.int p4), (.int p5), (.int p6)]) (rest := []) (lenOf pd__28_IIIIIII_29_J rfl) rfl (by show 2 * 0 + _ ≤ _; exact Nat.le_of_eq rfl) (hb hby at_294) (fun _ hv => ⟨rfl, e288, (by decide : 1 + 0 ≤ _), (by decide : 9 + 0 ≤ _)⟩)
        dsimp only [Pt.U, Pt.locs, Pt.cells, Pt.slots] at X298 l298 y298 z298 st298 hQ298
        subst l298 y298 z298
        obtain ⟨rfl, Nq298, e298⟩ := hQ298
        refine own_by st298 ?_
        have N298 := Fr.app N288 Nq298
        show own_Fin _ _ _ _ (T298.setTop (mkF m 297 #[iv p1, .val (.long q2), .second, iv p3, iv p4, iv p5, iv p6, iv (3 : Int32), iv v8_247, iv v9_248, iv v10_250, iv v11_252, iv v12_254, iv v13_256, iv v14_258, iv v15_259, iv v16_260, rv b261, .val (.double r18_267), .second, iv (0 : Int32), .val (.long v21_297), .second, .val (.long v23_269), .second, .val (.long v25_289), .second] [(.long (own_lv (own_b3 (3 : Int32) v12_254 v13_256 v14_258 p4 p5 p6)))]))
        refine own_go (XS.lstore X298.here hx rfl (hb hby at_297) rfl rfl (Steps.refl _)) ?_
        show own_Fin _ _ _ _ (T298.setTop (mkF m 299 #[iv p1, .val (.long q2), .second, iv p3, iv p4, iv p5, iv p6, iv (3 : Int32), iv v8_247, iv v9_248, iv v10_250, iv v11_252, iv v12_254, iv v13_256, iv v14_258, iv v15_259, iv v16_260, rv b261, .val (.double r18_267), .second, iv (0 : Int32), .val (.long v21_297), .second, .val (.long v23_269), .second, .val (.long (own_lv (own_b3 (3 : Int32) v12_254 v13_256 v14_258 p4 p5 p6))), .second] []))
        generalize hz_v25_299 : (own_lv (own_b3 (3 : Int32) v12_254 v13_256 v14_258 p4 p5 p6)) = v25_299
        refine own_go (XS.lload X298.here hx rfl (hb hby at_299) rfl (Steps.refl _)) ?_
        show own_Fin _ _ _ _ (T298.setTop (mkF m 301 #[iv p1, .val (.long q2), .second, iv p3, iv p4, iv p5, iv p6, iv (3 : Int32), iv v8_247, iv v9_248, iv v10_250, iv v11_252, iv v12_254, iv v13_256, iv v14_258, iv v15_259, iv v16_260, rv b261, .val (.double r18_267), .second, iv (0 : Int32), .val (.long v21_297), .second, .val (.long v23_269), .second, .val (.long v25_299), .second] [(.long v25_299)]))
        refine own_by (X298.ldc2Long hx hown (mvT hZ (hw _ (List.mem_of_getElem? (i := 75) rfl))) (g := (mkF m 301 #[iv p1, .val (.long q2), .second, iv p3, iv p4, iv p5, iv p6, iv (3 : Int32), iv v8_247, iv v9_248, iv v10_250, iv v11_252, iv v12_254, iv v13_256, iv v14_258, iv v15_259, iv v16_260, rv b261, .val (.double r18_267), .second, iv (0 : Int32), .val (.long v21_297), .second, .val (.long v23_269), .second, .val (.long v25_299), .second] [(.long v25_299)])) rfl (hb hby at_301)) ?_
        show own_Fin _ _ _ _ (T298.setTop (mkF m 304 #[iv p1, .val (.long q2), .second, iv p3, iv p4, iv p5, iv p6, iv (3 : Int32), iv v8_247, iv v9_248, iv v10_250, iv v11_252, iv v12_254, iv v13_256, iv v14_258, iv v15_259, iv v16_260, rv b261, .val (.double r18_267), .second, iv (0 : Int32), .val (.long v21_297), .second, .val (.long v23_269), .second, .val (.long v25_299), .second] [(.long (-9223372036854775808 : Int64)), (.long v25_299)]))
        refine own_go (XS.lcmp X298.here hx rfl (hb hby at_304) rfl (Steps.refl _)) ?_
        show own_Fin _ _ _ _ (T298.setTop (mkF m 305 #[iv p1, .val (.long q2), .second, iv p3, iv p4, iv p5, iv p6, iv (3 : Int32), iv v8_247, iv v9_248, iv v10_250, iv v11_252, iv v12_254, iv v13_256, iv v14_258, iv v15_259, iv v16_260, rv b261, .val (.double r18_267), .second, iv (0 : Int32), .val (.long v21_297), .second, .val (.long v23_269), .second, .val (.long v25_299), .second] [(.int (lcmpW v25_299 (-9223372036854775808 : Int64)))]))
        by_cases cb300 : (own_b3 (3 : Int32) v12_254 v13_256 v14_258 p4 p5 p6) = none
        · refine own_go (XS.ifNo X298.here hx rfl (hb hby at_305) rfl ((if0 _ _).trans (teq (show (lcmpW v25_299 (-9223372036854775808 : Int64)) = (0 : Int32) from (by rw [← hz_v25_299]; exact own_lvz cb300))).2) (Steps.refl _)) ?_
          show own_Fin _ _ _ _ (T298.setTop (mkF m 308 #[iv p1, .val (.long q2), .second, iv p3, iv p4, iv p5, iv p6, iv (3 : Int32), iv v8_247, iv v9_248, iv v10_250, iv v11_252, iv v12_254, iv v13_256, iv v14_258, iv v15_259, iv v16_260, rv b261, .val (.double r18_267), .second, iv (0 : Int32), .val (.long v21_297), .second, .val (.long v23_269), .second, .val (.long v25_299), .second] []))
          refine own_go (XS.iconst X298.here hx rfl (hb hby at_308) (Steps.refl _)) ?_
          show own_Fin _ _ _ _ (T298.setTop (mkF m 309 #[iv p1, .val (.long q2), .second, iv p3, iv p4, iv p5, iv p6, iv (3 : Int32), iv v8_247, iv v9_248, iv v10_250, iv v11_252, iv v12_254, iv v13_256, iv v14_258, iv v15_259, iv v16_260, rv b261, .val (.double r18_267), .second, iv (0 : Int32), .val (.long v21_297), .second, .val (.long v23_269), .second, .val (.long v25_299), .second] [(.int (1 : Int32))]))
          refine own_go (XS.istore X298.here hx rfl (hb hby at_309) rfl rfl (Steps.refl _)) ?_
          show own_Fin _ _ _ _ (T298.setTop (mkF m 311 #[iv p1, .val (.long q2), .second, iv p3, iv p4, iv p5, iv p6, iv (3 : Int32), iv v8_247, iv v9_248, iv v10_250, iv v11_252, iv v12_254, iv v13_256, iv v14_258, iv v15_259, iv v16_260, rv b261, .val (.double r18_267), .second, iv (1 : Int32), .val (.long v21_297), .second, .val (.long v23_269), .second, .val (.long v25_299), .second] []))
          refine own_go (XS.goto X298.here hx rfl (pc0 := 311) (pc' := 324) rfl (hb hby at_311) (by decide) (by decide) (Steps.refl _)) ?_
          show own_Fin _ _ _ _ (T298.setTop (mkF m 324 #[iv p1, .val (.long q2), .second, iv p3, iv p4, iv p5, iv p6, iv (3 : Int32), iv v8_247, iv v9_248, iv v10_250, iv v11_252, iv v12_254, iv v13_256, iv v14_258, iv v15_259, iv v16_260, rv b261, .val (.double r18_267), .second, iv (1 : Int32), .val (.long v21_297), .second, .val (.long v23_269), .second, .val (.long v25_299), .second] []))
          refine own_go (XS.iload X298.here hx rfl (hb hby at_324) rfl (Steps.refl _)) ?_
          show own_Fin _ _ _ _ (T298.setTop (mkF m 326 #[iv p1, .val (.long q2), .second, iv p3, iv p4, iv p5, iv p6, iv (3 : Int32), iv v8_247, iv v9_248, iv v10_250, iv v11_252, iv v12_254, iv v13_256, iv v14_258, iv v15_259, iv v16_260, rv b261, .val (.double r18_267), .second, iv (1 : Int32), .val (.long v21_297), .second, .val (.long v23_269), .second, .val (.long v25_299), .second] [(.int (1 : Int32))]))
          refine own_go (XS.ifNo X298.here hx rfl (hb hby at_326) rfl ((if0 _ _).trans (feq (by decide : ¬ ((1 : Int32) = (0 : Int32)))).1) (Steps.refl _)) ?_
          show own_Fin _ _ _ _ (T298.setTop (mkF m 329 #[iv p1, .val (.long q2), .second, iv p3, iv p4, iv p5, iv p6, iv (3 : Int32), iv v8_247, iv v9_248, iv v10_250, iv v11_252, iv v12_254, iv v13_256, iv v14_258, iv v15_259, iv v16_260, rv b261, .val (.double r18_267), .second, iv (1 : Int32), .val (.long v21_297), .second, .val (.long v23_269), .second, .val (.long v25_299), .second] []))
          refine own_go (XS.dload X298.here hx rfl (hb hby at_329) rfl (Steps.refl _)) ?_
          show own_Fin _ _ _ _ (T298.setTop (mkF m 331 #[iv p1, .val (.long q2), .second, iv p3, iv p4, iv p5, iv p6, iv (3 : Int32), iv v8_247, iv v9_248, iv v10_250, iv v11_252, iv v12_254, iv v13_256, iv v14_258, iv v15_259, iv v16_260, rv b261, .val (.double r18_267), .second, iv (1 : Int32), .val (.long v21_297), .second, .val (.long v23_269), .second, .val (.long v25_299), .second] [(.double r18_267)]))
          refine own_by (X298.ldc2DoubleC hx hown (mvT hZ (hw _ (List.mem_of_getElem? (i := 79) rfl))) (g := (mkF m 331 #[iv p1, .val (.long q2), .second, iv p3, iv p4, iv p5, iv p6, iv (3 : Int32), iv v8_247, iv v9_248, iv v10_250, iv v11_252, iv v12_254, iv v13_256, iv v14_258, iv v15_259, iv v16_260, rv b261, .val (.double r18_267), .second, iv (1 : Int32), .val (.long v21_297), .second, .val (.long v23_269), .second, .val (.long v25_299), .second] [(.double r18_267)])) rfl (hb hby at_331)) ?_
          show own_Fin _ _ _ _ (T298.setTop (mkF m 334 #[iv p1, .val (.long q2), .second, iv p3, iv p4, iv p5, iv p6, iv (3 : Int32), iv v8_247, iv v9_248, iv v10_250, iv v11_252, iv v12_254, iv v13_256, iv v14_258, iv v15_259, iv v16_260, rv b261, .val (.double r18_267), .second, iv (1 : Int32), .val (.long v21_297), .second, .val (.long v23_269), .second, .val (.long v25_299), .second] [(.double (9218868437227405312 : UInt64)), (.double r18_267)]))
          refine own_go (XS.dcmpS X298.here hx rfl (hb hby at_334) rfl (show cmpValue (FP.dcmp r18_267 (9218868437227405312 : UInt64)) .l = (0 : Int32) from (by rw [← hz_r18_267]; exact own_ci (own_z3 (Or.inr (Or.inr cb300))) (by decide))) (Steps.refl _)) ?_
          show own_Fin _ _ _ _ (T298.setTop (mkF m 335 #[iv p1, .val (.long q2), .second, iv p3, iv p4, iv p5, iv p6, iv (3 : Int32), iv v8_247, iv v9_248, iv v10_250, iv v11_252, iv v12_254, iv v13_256, iv v14_258, iv v15_259, iv v16_260, rv b261, .val (.double r18_267), .second, iv (1 : Int32), .val (.long v21_297), .second, .val (.long v23_269), .second, .val (.long v25_299), .second] [(.int (0 : Int32))]))
          refine own_go (XS.ifNo X298.here hx rfl (hb hby at_335) rfl ((if0 _ _).trans (teq (by decide : (0 : Int32) = (0 : Int32))).2) (Steps.refl _)) ?_
          show own_Fin _ _ _ _ (T298.setTop (mkF m 338 #[iv p1, .val (.long q2), .second, iv p3, iv p4, iv p5, iv p6, iv (3 : Int32), iv v8_247, iv v9_248, iv v10_250, iv v11_252, iv v12_254, iv v13_256, iv v14_258, iv v15_259, iv v16_260, rv b261, .val (.double r18_267), .second, iv (1 : Int32), .val (.long v21_297), .second, .val (.long v23_269), .second, .val (.long v25_299), .second] []))
          refine own_go (XS.iconst X298.here hx rfl (hb hby at_338) (Steps.refl _)) ?_
          show own_Fin _ _ _ _ (T298.setTop (mkF m 339 #[iv p1, .val (.long q2), .second, iv p3, iv p4, iv p5, iv p6, iv (3 : Int32), iv v8_247, iv v9_248, iv v10_250, iv v11_252, iv v12_254, iv v13_256, iv v14_258, iv v15_259, iv v16_260, rv b261, .val (.double r18_267), .second, iv (1 : Int32), .val (.long v21_297), .second, .val (.long v23_269), .second, .val (.long v25_299), .second] [(.int (1 : Int32))]))
          refine own_go (XS.goto X298.here hx rfl (pc0 := 339) (pc' := 343) rfl (hb hby at_339) (by decide) (by decide) (Steps.refl _)) ?_
          show own_Fin _ _ _ _ (T298.setTop (mkF m 343 #[iv p1, .val (.long q2), .second, iv p3, iv p4, iv p5, iv p6, iv (3 : Int32), iv v8_247, iv v9_248, iv v10_250, iv v11_252, iv v12_254, iv v13_256, iv v14_258, iv v15_259, iv v16_260, rv b261, .val (.double r18_267), .second, iv (1 : Int32), .val (.long v21_297), .second, .val (.long v23_269), .second, .val (.long v25_299), .second] [(.int (1 : Int32))]))
          obtain ⟨fs301, hr301, hrun301, hended301, hW301, hsame301⟩ := X298.leave (v := some (.int (1 : Int32))) (fun h => by rw [Bd.returns] at h; cases h)
          refine own_done (retN X298 hx (t := .boolean) Bd.returns (by simp) (hb hby at_343) hr301) hrun301 hended301 ⟨_, _, rfl, ?_, ⟨_, rfl⟩, hW301, hsame301.mono (by decide) (by decide)⟩
          show Q0 Z p1 q2 p3 p4 p5 p6 h0 n0 _ T298.heap _
          rw [e298]
          exact ⟨rfl, N298⟩
        · refine own_go (XS.ifYes X298.here hx rfl (pc0 := 305) (pc' := 314) rfl (hb hby at_305) rfl ((if0 _ _).trans (feq (show ¬ ((lcmpW v25_299 (-9223372036854775808 : Int64)) = (0 : Int32)) from (by rw [← hz_v25_299]; exact own_lvne (own_W3 _ _ _ _ _ _ _) cb300))).2) (by decide) (by decide) (Steps.refl _)) ?_
          show own_Fin _ _ _ _ (T298.setTop (mkF m 314 #[iv p1, .val (.long q2), .second, iv p3, iv p4, iv p5, iv p6, iv (3 : Int32), iv v8_247, iv v9_248, iv v10_250, iv v11_252, iv v12_254, iv v13_256, iv v14_258, iv v15_259, iv v16_260, rv b261, .val (.double r18_267), .second, iv (0 : Int32), .val (.long v21_297), .second, .val (.long v23_269), .second, .val (.long v25_299), .second] []))
          refine own_go (XS.lload X298.here hx rfl (hb hby at_314) rfl (Steps.refl _)) ?_
          show own_Fin _ _ _ _ (T298.setTop (mkF m 316 #[iv p1, .val (.long q2), .second, iv p3, iv p4, iv p5, iv p6, iv (3 : Int32), iv v8_247, iv v9_248, iv v10_250, iv v11_252, iv v12_254, iv v13_256, iv v14_258, iv v15_259, iv v16_260, rv b261, .val (.double r18_267), .second, iv (0 : Int32), .val (.long v21_297), .second, .val (.long v23_269), .second, .val (.long v25_299), .second] [(.long v21_297)]))
          refine own_go (XS.iloadN X298.here hx rfl (hb hby at_316) rfl (Steps.refl _)) ?_
          show own_Fin _ _ _ _ (T298.setTop (mkF m 317 #[iv p1, .val (.long q2), .second, iv p3, iv p4, iv p5, iv p6, iv (3 : Int32), iv v8_247, iv v9_248, iv v10_250, iv v11_252, iv v12_254, iv v13_256, iv v14_258, iv v15_259, iv v16_260, rv b261, .val (.double r18_267), .second, iv (0 : Int32), .val (.long v21_297), .second, .val (.long v23_269), .second, .val (.long v25_299), .second] [(.int p3), (.long v21_297)]))
          refine own_go (XS.i2l X298.here hx rfl (hb hby at_317) rfl (Steps.refl _)) ?_
          show own_Fin _ _ _ _ (T298.setTop (mkF m 318 #[iv p1, .val (.long q2), .second, iv p3, iv p4, iv p5, iv p6, iv (3 : Int32), iv v8_247, iv v9_248, iv v10_250, iv v11_252, iv v12_254, iv v13_256, iv v14_258, iv v15_259, iv v16_260, rv b261, .val (.double r18_267), .second, iv (0 : Int32), .val (.long v21_297), .second, .val (.long v23_269), .second, .val (.long v25_299), .second] [(.long (p3.toInt64)), (.long v21_297)]))
          refine own_go (XS.lload X298.here hx rfl (hb hby at_318) rfl (Steps.refl _)) ?_
          show own_Fin _ _ _ _ (T298.setTop (mkF m 320 #[iv p1, .val (.long q2), .second, iv p3, iv p4, iv p5, iv p6, iv (3 : Int32), iv v8_247, iv v9_248, iv v10_250, iv v11_252, iv v12_254, iv v13_256, iv v14_258, iv v15_259, iv v16_260, rv b261, .val (.double r18_267), .second, iv (0 : Int32), .val (.long v21_297), .second, .val (.long v23_269), .second, .val (.long v25_299), .second] [(.long v25_299), (.long (p3.toInt64)), (.long v21_297)]))
          refine own_go (XS.lsub X298.here hx rfl (hb hby at_320) rfl (Steps.refl _)) ?_
          show own_Fin _ _ _ _ (T298.setTop (mkF m 321 #[iv p1, .val (.long q2), .second, iv p3, iv p4, iv p5, iv p6, iv (3 : Int32), iv v8_247, iv v9_248, iv v10_250, iv v11_252, iv v12_254, iv v13_256, iv v14_258, iv v15_259, iv v16_260, rv b261, .val (.double r18_267), .second, iv (0 : Int32), .val (.long v21_297), .second, .val (.long v23_269), .second, .val (.long v25_299), .second] [(.long ((p3.toInt64) - v25_299)), (.long v21_297)]))
          refine own_go (XS.ladd X298.here hx rfl (hb hby at_321) rfl (Steps.refl _)) ?_
          show own_Fin _ _ _ _ (T298.setTop (mkF m 322 #[iv p1, .val (.long q2), .second, iv p3, iv p4, iv p5, iv p6, iv (3 : Int32), iv v8_247, iv v9_248, iv v10_250, iv v11_252, iv v12_254, iv v13_256, iv v14_258, iv v15_259, iv v16_260, rv b261, .val (.double r18_267), .second, iv (0 : Int32), .val (.long v21_297), .second, .val (.long v23_269), .second, .val (.long v25_299), .second] [(.long (v21_297 + ((p3.toInt64) - v25_299)))]))
          refine own_go (XS.lstore X298.here hx rfl (hb hby at_322) rfl rfl (Steps.refl _)) ?_
          show own_Fin _ _ _ _ (T298.setTop (mkF m 324 #[iv p1, .val (.long q2), .second, iv p3, iv p4, iv p5, iv p6, iv (3 : Int32), iv v8_247, iv v9_248, iv v10_250, iv v11_252, iv v12_254, iv v13_256, iv v14_258, iv v15_259, iv v16_260, rv b261, .val (.double r18_267), .second, iv (0 : Int32), .val (.long (v21_297 + ((p3.toInt64) - v25_299))), .second, .val (.long v23_269), .second, .val (.long v25_299), .second] []))
          generalize hz_v21_302 : (v21_297 + ((p3.toInt64) - v25_299)) = v21_302
          refine own_go (XS.iload X298.here hx rfl (hb hby at_324) rfl (Steps.refl _)) ?_
          show own_Fin _ _ _ _ (T298.setTop (mkF m 326 #[iv p1, .val (.long q2), .second, iv p3, iv p4, iv p5, iv p6, iv (3 : Int32), iv v8_247, iv v9_248, iv v10_250, iv v11_252, iv v12_254, iv v13_256, iv v14_258, iv v15_259, iv v16_260, rv b261, .val (.double r18_267), .second, iv (0 : Int32), .val (.long v21_302), .second, .val (.long v23_269), .second, .val (.long v25_299), .second] [(.int (0 : Int32))]))
          refine own_go (XS.ifYes X298.here hx rfl (pc0 := 326) (pc' := 344) rfl (hb hby at_326) rfl ((if0 _ _).trans (teq (by decide : (0 : Int32) = (0 : Int32))).1) (by decide) (by decide) (Steps.refl _)) ?_
          show own_Fin _ _ _ _ (T298.setTop (mkF m 344 #[iv p1, .val (.long q2), .second, iv p3, iv p4, iv p5, iv p6, iv (3 : Int32), iv v8_247, iv v9_248, iv v10_250, iv v11_252, iv v12_254, iv v13_256, iv v14_258, iv v15_259, iv v16_260, rv b261, .val (.double r18_267), .second, iv (0 : Int32), .val (.long v21_302), .second, .val (.long v23_269), .second, .val (.long v25_299), .second] []))
          refine own_go (XS.dload X298.here hx rfl (hb hby at_344) rfl (Steps.refl _)) ?_
          show own_Fin _ _ _ _ (T298.setTop (mkF m 346 #[iv p1, .val (.long q2), .second, iv p3, iv p4, iv p5, iv p6, iv (3 : Int32), iv v8_247, iv v9_248, iv v10_250, iv v11_252, iv v12_254, iv v13_256, iv v14_258, iv v15_259, iv v16_260, rv b261, .val (.double r18_267), .second, iv (0 : Int32), .val (.long v21_302), .second, .val (.long v23_269), .second, .val (.long v25_299), .second] [(.double r18_267)]))
          refine own_go (XS.lload X298.here hx rfl (hb hby at_346) rfl (Steps.refl _)) ?_
          show own_Fin _ _ _ _ (T298.setTop (mkF m 348 #[iv p1, .val (.long q2), .second, iv p3, iv p4, iv p5, iv p6, iv (3 : Int32), iv v8_247, iv v9_248, iv v10_250, iv v11_252, iv v12_254, iv v13_256, iv v14_258, iv v15_259, iv v16_260, rv b261, .val (.double r18_267), .second, iv (0 : Int32), .val (.long v21_302), .second, .val (.long v23_269), .second, .val (.long v25_299), .second] [(.long v21_302), (.double r18_267)]))
          refine own_go (XS.l2dS X298.here hx rfl (hb hby at_348) rfl rfl (Steps.refl _)) ?_
          show own_Fin _ _ _ _ (T298.setTop (mkF m 349 #[iv p1, .val (.long q2), .second, iv p3, iv p4, iv p5, iv p6, iv (3 : Int32), iv v8_247, iv v9_248, iv v10_250, iv v11_252, iv v12_254, iv v13_256, iv v14_258, iv v15_259, iv v16_260, rv b261, .val (.double r18_267), .second, iv (0 : Int32), .val (.long v21_302), .second, .val (.long v23_269), .second, .val (.long v25_299), .second] [(.double (FP.l2d v21_302)), (.double r18_267)]))
          refine own_go (XS.iload X298.here hx rfl (hb hby at_349) rfl (Steps.refl _)) ?_
          show own_Fin _ _ _ _ (T298.setTop (mkF m 351 #[iv p1, .val (.long q2), .second, iv p3, iv p4, iv p5, iv p6, iv (3 : Int32), iv v8_247, iv v9_248, iv v10_250, iv v11_252, iv v12_254, iv v13_256, iv v14_258, iv v15_259, iv v16_260, rv b261, .val (.double r18_267), .second, iv (0 : Int32), .val (.long v21_302), .second, .val (.long v23_269), .second, .val (.long v25_299), .second] [(.int (3 : Int32)), (.double (FP.l2d v21_302)), (.double r18_267)]))
          refine own_go (XS.i2dS X298.here hx rfl (hb hby at_351) rfl (i2d_w _) (Steps.refl _)) ?_
          show own_Fin _ _ _ _ (T298.setTop (mkF m 352 #[iv p1, .val (.long q2), .second, iv p3, iv p4, iv p5, iv p6, iv (3 : Int32), iv v8_247, iv v9_248, iv v10_250, iv v11_252, iv v12_254, iv v13_256, iv v14_258, iv v15_259, iv v16_260, rv b261, .val (.double r18_267), .second, iv (0 : Int32), .val (.long v21_302), .second, .val (.long v23_269), .second, .val (.long v25_299), .second] [(.double (FP.l2d (3 : Int32).toInt64)), (.double (FP.l2d v21_302)), (.double r18_267)]))
          refine own_go (XS.ddivS X298.here hx rfl (hb hby at_352) rfl (ddiv_out (l2d_fin _).noNaN (l2d_fin _) (own_nz (by decide))) rfl (Steps.refl _)) ?_
          show own_Fin _ _ _ _ (T298.setTop (mkF m 353 #[iv p1, .val (.long q2), .second, iv p3, iv p4, iv p5, iv p6, iv (3 : Int32), iv v8_247, iv v9_248, iv v10_250, iv v11_252, iv v12_254, iv v13_256, iv v14_258, iv v15_259, iv v16_260, rv b261, .val (.double r18_267), .second, iv (0 : Int32), .val (.long v21_302), .second, .val (.long v23_269), .second, .val (.long v25_299), .second] [(.double (FP.ddiv (FP.l2d v21_302) (FP.l2d (3 : Int32).toInt64))), (.double r18_267)]))
          refine own_go (XS.dcmpS X298.here hx rfl (hb hby at_353) rfl (show cmpValue (FP.dcmp r18_267 (FP.ddiv (FP.l2d v21_302) (FP.l2d (3 : Int32).toInt64))) .l = (0 : Int32) from (by rw [← hz_r18_267, ← hz_v21_302, ← hz_v21_297, ← hz_v21_287, ← hz_v23_269, ← hz_v25_289, ← hz_v25_299]; exact own_ce (own_e3 cb270 cb290 cb300) (by decide))) (Steps.refl _)) ?_
          show own_Fin _ _ _ _ (T298.setTop (mkF m 354 #[iv p1, .val (.long q2), .second, iv p3, iv p4, iv p5, iv p6, iv (3 : Int32), iv v8_247, iv v9_248, iv v10_250, iv v11_252, iv v12_254, iv v13_256, iv v14_258, iv v15_259, iv v16_260, rv b261, .val (.double r18_267), .second, iv (0 : Int32), .val (.long v21_302), .second, .val (.long v23_269), .second, .val (.long v25_299), .second] [(.int (0 : Int32))]))
          refine own_go (XS.ifNo X298.here hx rfl (hb hby at_354) rfl ((if0 _ _).trans (teq (by decide : (0 : Int32) = (0 : Int32))).2) (Steps.refl _)) ?_
          show own_Fin _ _ _ _ (T298.setTop (mkF m 357 #[iv p1, .val (.long q2), .second, iv p3, iv p4, iv p5, iv p6, iv (3 : Int32), iv v8_247, iv v9_248, iv v10_250, iv v11_252, iv v12_254, iv v13_256, iv v14_258, iv v15_259, iv v16_260, rv b261, .val (.double r18_267), .second, iv (0 : Int32), .val (.long v21_302), .second, .val (.long v23_269), .second, .val (.long v25_299), .second] []))
          refine own_go (XS.iconst X298.here hx rfl (hb hby at_357) (Steps.refl _)) ?_
          show own_Fin _ _ _ _ (T298.setTop (mkF m 358 #[iv p1, .val (.long q2), .second, iv p3, iv p4, iv p5, iv p6, iv (3 : Int32), iv v8_247, iv v9_248, iv v10_250, iv v11_252, iv v12_254, iv v13_256, iv v14_258, iv v15_259, iv v16_260, rv b261, .val (.double r18_267), .second, iv (0 : Int32), .val (.long v21_302), .second, .val (.long v23_269), .second, .val (.long v25_299), .second] [(.int (1 : Int32))]))
          refine own_go (XS.goto X298.here hx rfl (pc0 := 358) (pc' := 362) rfl (hb hby at_358) (by decide) (by decide) (Steps.refl _)) ?_
          show own_Fin _ _ _ _ (T298.setTop (mkF m 362 #[iv p1, .val (.long q2), .second, iv p3, iv p4, iv p5, iv p6, iv (3 : Int32), iv v8_247, iv v9_248, iv v10_250, iv v11_252, iv v12_254, iv v13_256, iv v14_258, iv v15_259, iv v16_260, rv b261, .val (.double r18_267), .second, iv (0 : Int32), .val (.long v21_302), .second, .val (.long v23_269), .second, .val (.long v25_299), .second] [(.int (1 : Int32))]))
          obtain ⟨fs303, hr303, hrun303, hended303, hW303, hsame303⟩ := X298.leave (v := some (.int (1 : Int32))) (fun h => by rw [Bd.returns] at h; cases h)
          refine own_done (retN X298 hx (t := .boolean) Bd.returns (by simp) (hb hby at_362) hr303) hrun303 hended303 ⟨_, _, rfl, ?_, ⟨_, rfl⟩, hW303, hsame303.mono (by decide) (by decide)⟩
          show Q0 Z p1 q2 p3 p4 p5 p6 h0 n0 _ T298.heap _
          rw [e298]
          exact ⟨rfl, N298⟩
set_option maxRecDepth 65536 in
set_option maxHeartbeats 40000000 in
theorem comes_1 {Post : Tables → Env → Array Value → State → Outcome → State → Prop} (hpost : ∀ tb e args s v u, (limb_1_1.after args s (.returned v) u = true ∧ limb_1_2.after args s (.returned v) u = true ∧ True) → FrameEnd s (.returned v) u (Jvm.fieldLocs frame_1_writes args s ++ Jvm.arrayLocs frame_1_arrays args s ++ Jvm.staticLocs frame_1_statics s) 16 128 → Post tb e args s (.returned v) u) :
    ArmFor flags0 classFile x code maxLocals ret World_1 tables_1 room_1 Calls_1 rest_1 Pre_1 Post := by
  intro l hfl _ _ p e ha hc hk s m args below hf hA hF happ hP
  obtain ⟨hcalls, hrest, hpre⟩ := hP
  obtain ⟨-, -, -, hnamed, -, -, -, hat⟩ := (Spec.applies_iff hf).mp happ
  obtain ⟨hg, hn⟩ := and_e (Cond.before_iff.mp (show (Jvm.Cond.and given_1 narrow_1).before args s = true from hpre))
  obtain ⟨gg1, gg2⟩ := and_e hg
  obtain ⟨gg3, gg4⟩ := and_e gg2
  obtain ⟨gg5, gg6⟩ := and_e gg4
  obtain ⟨gg7, gg8⟩ := and_e gg6
  obtain ⟨gg9, gg10⟩ := and_e gg8
  obtain ⟨gg11, gg12⟩ := and_e gg10
  obtain ⟨w0, w1, w2, w3, w4, w5, rfl⟩ : ∃ w0 w1 w2 w3 w4 w5 : Value, args = #[w0, w1, w2, w3, w4, w5] := by
    have hs : args.size = 6 := by simpa [Cond.value, given_1] using gg1
    obtain ⟨L⟩ := args
    match L, hs with
    | [w0, w1, w2, w3, w4, w5], _ => exact ⟨w0, w1, w2, w3, w4, w5, rfl⟩
  have hw := fun d (hd : d ∈ tables_1) => atoms_spec (ws := Jvm.Cond.code x code maxLocals ret :: tables_1) hat d (List.mem_cons_of_mem _ hd)
  obtain ⟨i0, ei0⟩ := is_v gg3
  obtain rfl : w0 = (.int i0) := Option.some.inj ei0
  obtain ⟨i1, ei1⟩ := isL_v gg5
  obtain rfl : w1 = (.long i1) := Option.some.inj ei1
  obtain ⟨i2, ei2⟩ := is_v gg7
  obtain rfl : w2 = (.int i2) := Option.some.inj ei2
  obtain ⟨i3, ei3⟩ := is_v gg9
  obtain rfl : w3 = (.int i3) := Option.some.inj ei3
  obtain ⟨i4, ei4⟩ := is_v gg11
  obtain rfl : w4 = (.int i4) := Option.some.inj ei4
  obtain ⟨i5, ei5⟩ := is_v gg12
  obtain rfl : w5 = (.int i5) := Option.some.inj ei5
  obtain ⟨n, o, h1, h2, h3, _, L, rfl, ⟨rfl, N⟩, hq⟩ := rm0 l s _ hw tables_1 i0 i1 i2 i3 i4 i5  s.heap s.heap.size (Nat.le_refl _)  p e ha hc hk s m _ below hf ((Spec.applies_iff_loose hf).mp happ).1 ⟨rfl, State.Warmed39.refl s, rfl⟩ trivial
  refine ⟨n, _, h1, h2, h3, hpost _ _ _ _ _ _ ⟨Cond.after_iff.mpr rfl, Cond.after_iff.mpr (eq_i res_at (Term.int_eval (1)) rfl), trivial⟩ ⟨hq.1, hq.2.1, (hq.2.2.sift fun y hy => Or.inr (N y hy)).mono (by decide) (by decide)⟩⟩
theorem main_1_1 : Claimed_1_1 := comes_1 fun _ _ _ _ _ _ h hF => ⟨h.1, hF⟩
theorem main_1_2 : Claimed_1_2 := comes_1 fun _ _ _ _ _ _ h hF => ⟨h.2.1, hF⟩
end Jvm.Pilot.@@N@@
namespace Jvm.Pilot.@@N@@
open Jvm Jvm.ClassFile Sem Op Lib Jvm.Free Jvm.Stand Jvm.Pilot.@@N@@.Jvm.D
/-! MADE BY PROGRAM (witnessworld.py) out of the Statement's table words and the real class files: 15 classes; the members and pool entries that the words name. The judged class is class 1, her method 1. -/
namespace start1
open Jvm.ClassFile
def u (s : String) : CpInfo := .utf8 (stringToUtf16 s)
/-- a pool by its gaps: so many unusable entries, then the entry; so many at the end -/
def gap : Nat → List CpInfo → List CpInfo
  | 0, r => r
  | n + 1, r => .unusable :: gap n r
def poolList (es : List (Nat × CpInfo)) (last : Nat) : List CpInfo := es.foldr (fun e r => gap e.1 (e.2 :: r)) (gap last [])
def pool (es : List (Nat × CpInfo)) (last : Nat) : Array CpInfo := ⟨poolList es last⟩
def fileOf (pool : Array CpInfo) (this : Nat) (attrs : Array Attribute := #[]) (ms : Array MethodInfo := #[]) (fl : Nat := 33) (sup : Nat := 0) (ifs : Array Nat := #[]) (fds : Array FieldInfo := #[]) : ClassFile where
  minorVersion := 0
  majorVersion := 65
  constantPool := pool
  accessFlags := fl
  thisClass := this
  superClass := sup
  interfaces := ifs
  fields := fds
  methods := ms
  attributes := attrs
def plain (name : String) (sup : Option ClassId) : Class where
  name := name
  kind := .ordinary
  loader := none
  accessFlags := 33
  super := sup
  interfaces := #[]
  cf := none
  fields := #[]
  methods := #[]
  instanceTypes := #[]
  staticTypes := #[]
  resolved := #[]
  callSites := []
  init := .initialized
  statics := none
  mirror := none

def pool0 : Array CpInfo := pool [(5, u "<init>"), (0, u "()V"), (1, .class_ 10), (1, u "java/lang/Object")] 113

def k0c0 : Code := { maxStack := 0, maxLocals := 1, code := object_method_1_code, exceptionTable := #[], attributes := #[] }
def k0m0 : Method := { name := "<init>", desc := "()V", sig := { parameters := [], returnType := none }, accessFlags := 1, code := some k0c0 }
/-- java/lang/Object -/
def k0 : Class := { plain "java/lang/Object" none with
  accessFlags := 33
  interfaces := #[]
  cf := some (fileOf pool0 8 #[] #[{ accessFlags := 1, nameIndex := 5, descriptorIndex := 6, attributes := #[] }] 33 0 #[] #[])
  fields := #[]
  methods := #[k0m0]
  instanceTypes := #[]
  staticTypes := #[]
  resolved := Array.replicate 124 none
  statics := none }

def pool1 : Array CpInfo := pool [(2, .class_ 4), (0, .nameAndType 5 6), (0, u "java/lang/Object"), (0, u "<init>"), (0, u "()V"), (0, .methodref 8 9), (0, .class_ 10), (0, .nameAndType 11 12), (0, u "java/lang/Math"), (0, u "min"), (0, u "(II)I"), (0, .methodref 8 14), (0, .nameAndType 15 12), (0, u "max"), (0, .methodref 17 18), (0, .class_ 19), (0, .nameAndType 20 21), (0, u "com/example/tidewalk/tidewalk/problems/RunMeasuresBestErrorBeforeChangePinLaw"), (0, u "slot"), (0, u "(IIII)I"), (0, .class_ 23), (0, u "com/example/tidewalk/tidewalk/problems/RunMeasures"), (0, .methodref 22 3), (0, .methodref 17 26), (0, .nameAndType 27 28), (0, u "phase"), (0, u "(Lcom/example/tidewalk/tidewalk/problems/RunMeasures;IIIIIIII)V"), (0, .methodref 22 30), (0, .nameAndType 31 32), (0, u "bestErrorBeforeChange"), (0, u "()D"), (0, .methodref 17 34), (0, .nameAndType 35 36), (0, u "best"), (0, u "(IIIIIII)J"), (2, .long 9223372036854775808), (3, .double 9218868437227405312), (1, .methodref 22 46), (0, .nameAndType 47 48), (0, u "startPeriod"), (0, u "(D)V"), (0, .methodref 22 50), (0, .nameAndType 51 48), (0, u "record"), (0, .methodref 8 53), (0, .nameAndType 15 54), (0, u "(JJ)J"), (2, u "law"), (0, u "(IJIIII)Z")] 3

def k1m0 : Method := { name := "<init>", desc := "()V", sig := { parameters := [], returnType := none }, accessFlags := 1, code := none }
def k1c1 : Code := { maxStack := 9, maxLocals := 27, code := code, exceptionTable := #[], attributes := #[] }
def k1m1 : Method := { name := "law", desc := "(IJIIII)Z", sig := { parameters := [.int, .long, .int, .int, .int, .int], returnType := some .boolean }, accessFlags := 9, code := some k1c1 }
def k1c2 : Code := { maxStack := 2, maxLocals := 5, code := method_3_code, exceptionTable := #[], attributes := #[] }
def k1m2 : Method := { name := "slot", desc := "(IIII)I", sig := { parameters := [.int, .int, .int, .int], returnType := some .int }, accessFlags := 10, code := some k1c2 }
def k1c3 : Code := { maxStack := 3, maxLocals := 9, code := method_4_code, exceptionTable := #[], attributes := #[] }
def k1m3 : Method := { name := "phase", desc := "(Lcom/example/tidewalk/tidewalk/problems/RunMeasures;IIIIIIII)V", sig := { parameters := [(.object "com/example/tidewalk/tidewalk/problems/RunMeasures"), .int, .int, .int, .int, .int, .int, .int, .int], returnType := none }, accessFlags := 10, code := some k1c3 }
def k1c4 : Code := { maxStack := 4, maxLocals := 9, code := method_5_code, exceptionTable := #[], attributes := #[] }
def k1m4 : Method := { name := "best", desc := "(IIIIIII)J", sig := { parameters := [.int, .int, .int, .int, .int, .int, .int], returnType := some .long }, accessFlags := 10, code := some k1c4 }
/-- com/example/tidewalk/tidewalk/problems/RunMeasuresBestErrorBeforeChangePinLaw -/
def k1 : Class := { plain "com/example/tidewalk/tidewalk/problems/RunMeasuresBestErrorBeforeChangePinLaw" (some 0) with
  accessFlags := 49
  interfaces := #[]
  cf := some (fileOf pool1 17 #[] #[{ accessFlags := 1, nameIndex := 5, descriptorIndex := 6, attributes := #[] }, { accessFlags := 9, nameIndex := 57, descriptorIndex := 58, attributes := #[] }, { accessFlags := 10, nameIndex := 20, descriptorIndex := 21, attributes := #[] }, { accessFlags := 10, nameIndex := 27, descriptorIndex := 28, attributes := #[] }, { accessFlags := 10, nameIndex := 35, descriptorIndex := 36, attributes := #[] }] 49 2 #[] #[])
  fields := #[]
  methods := #[k1m0, k1m1, k1m2, k1m3, k1m4]
  instanceTypes := #[]
  staticTypes := #[]
  resolved := Array.replicate 62 none
  statics := none }

def pool2 : Array CpInfo := pool [(1, .class_ 2), (0, u "java/lang/Math"), (1, .class_ 6), (1, u "java/lang/Object"), (0, u "<init>"), (0, u "()V"), (5, u "(D)D"), (37, u "(DD)D"), (45, .class_ 100), (1, u "java/lang/Math$RandomNumberGeneratorHolder"), (20, u "(JJ)J"), (2, u "abs"), (47, u "negativeZeroFloatBits"), (0, u "J"), (2, u "negativeZeroDoubleBits"), (21, u "max"), (2, u "min"), (43, u "$assertionsDisabled"), (0, u "Z"), (88, u "(II)I"), (2, u "twoToTheDoubleScaleDown"), (0, u "D"), (4, u "twoToTheDoubleScaleUp"), (9, u "E"), (3, u "PI"), (2, u "TAU"), (2, u "DEGREES_TO_RADIANS"), (0, u "RADIANS_TO_DEGREES")] 94

def k2m0 : Method := { name := "<init>", desc := "()V", sig := { parameters := [], returnType := none }, accessFlags := 2, code := none }
def k2c1 : Code := { maxStack := 4, maxLocals := 2, code := jdk_29_method_64_code, exceptionTable := #[], attributes := #[] }
def k2m1 : Method := { name := "abs", desc := "(D)D", sig := { parameters := [.double], returnType := some .double }, accessFlags := 9, code := some k2c1 }
def k2c2 : Code := { maxStack := 2, maxLocals := 2, code := jdk_29_method_65_code, exceptionTable := #[], attributes := #[] }
def k2m2 : Method := { name := "max", desc := "(II)I", sig := { parameters := [.int, .int], returnType := some .int }, accessFlags := 9, code := some k2c2 }
def k2c3 : Code := { maxStack := 4, maxLocals := 4, code := jdk_29_method_66_code, exceptionTable := #[], attributes := #[] }
def k2m3 : Method := { name := "max", desc := "(JJ)J", sig := { parameters := [.long, .long], returnType := some .long }, accessFlags := 9, code := some k2c3 }
def k2c4 : Code := { maxStack := 4, maxLocals := 4, code := jdk_29_method_68_code, exceptionTable := #[], attributes := #[] }
def k2m4 : Method := { name := "max", desc := "(DD)D", sig := { parameters := [.double, .double], returnType := some .double }, accessFlags := 9, code := some k2c4 }
def k2c5 : Code := { maxStack := 2, maxLocals := 2, code := jdk_29_method_69_code, exceptionTable := #[], attributes := #[] }
def k2m5 : Method := { name := "min", desc := "(II)I", sig := { parameters := [.int, .int], returnType := some .int }, accessFlags := 9, code := some k2c5 }
/-- java/lang/Math -/
def k2 : Class := { plain "java/lang/Math" (some 0) with
  accessFlags := 49
  interfaces := #[]
  cf := some (fileOf pool2 1 #[.nestMembers #[98]] #[{ accessFlags := 2, nameIndex := 7, descriptorIndex := 8, attributes := #[] }, { accessFlags := 9, nameIndex := 124, descriptorIndex := 14, attributes := #[] }, { accessFlags := 9, nameIndex := 198, descriptorIndex := 335, attributes := #[] }, { accessFlags := 9, nameIndex := 198, descriptorIndex := 121, attributes := #[] }, { accessFlags := 9, nameIndex := 198, descriptorIndex := 52, attributes := #[] }, { accessFlags := 9, nameIndex := 201, descriptorIndex := 335, attributes := #[] }] 49 4 #[] #[{ accessFlags := 25, nameIndex := 354, descriptorIndex := 339, attributes := #[] }, { accessFlags := 25, nameIndex := 358, descriptorIndex := 339, attributes := #[] }, { accessFlags := 25, nameIndex := 361, descriptorIndex := 339, attributes := #[] }, { accessFlags := 26, nameIndex := 364, descriptorIndex := 339, attributes := #[] }, { accessFlags := 26, nameIndex := 365, descriptorIndex := 339, attributes := #[] }, { accessFlags := 26, nameIndex := 172, descriptorIndex := 173, attributes := #[] }, { accessFlags := 26, nameIndex := 176, descriptorIndex := 173, attributes := #[] }, { accessFlags := 8, nameIndex := 344, descriptorIndex := 339, attributes := #[] }, { accessFlags := 8, nameIndex := 338, descriptorIndex := 339, attributes := #[] }, { accessFlags := 4120, nameIndex := 245, descriptorIndex := 246, attributes := #[] }])
  fields := #[{ name := "E", type := .double, accessFlags := 25, slot := 0, constantValue := 0 }, { name := "PI", type := .double, accessFlags := 25, slot := 1, constantValue := 0 }, { name := "TAU", type := .double, accessFlags := 25, slot := 2, constantValue := 0 }, { name := "DEGREES_TO_RADIANS", type := .double, accessFlags := 26, slot := 3, constantValue := 0 }, { name := "RADIANS_TO_DEGREES", type := .double, accessFlags := 26, slot := 4, constantValue := 0 }, { name := "negativeZeroFloatBits", type := .long, accessFlags := 26, slot := 5, constantValue := 0 }, { name := "negativeZeroDoubleBits", type := .long, accessFlags := 26, slot := 6, constantValue := 0 }, { name := "twoToTheDoubleScaleUp", type := .double, accessFlags := 8, slot := 7, constantValue := 0 }, { name := "twoToTheDoubleScaleDown", type := .double, accessFlags := 8, slot := 8, constantValue := 0 }, { name := "$assertionsDisabled", type := .boolean, accessFlags := 4120, slot := 9, constantValue := 0 }]
  methods := #[k2m0, k2m1, k2m2, k2m3, k2m4, k2m5]
  instanceTypes := #[]
  staticTypes := #[.double, .double, .double, .double, .double, .long, .long, .double, .double, .boolean]
  resolved := Array.replicate 460 none
  statics := none }

def pool3 : Array CpInfo := pool [(1, .methodref 2 3), (0, .class_ 4), (0, .nameAndType 5 6), (0, u "java/lang/Object"), (0, u "<init>"), (0, u "()V"), (0, .class_ 8), (0, u "java/lang/Double"), (0, .double 9221120237041090560), (1, .fieldref 12 13), (0, .class_ 14), (0, .nameAndType 15 16), (0, u "com/example/tidewalk/tidewalk/problems/RunMeasures"), (0, u "optimum"), (0, u "D"), (0, .fieldref 12 18), (0, .nameAndType 19 20), (0, u "optimumKnown"), (0, u "Z"), (0, .double 18442240474082181120), (1, .fieldref 12 24), (0, .nameAndType 25 16), (0, u "best"), (0, .fieldref 12 27), (0, .nameAndType 28 29), (0, u "periods"), (0, u "I"), (0, .fieldref 12 31), (0, .nameAndType 32 16), (0, u "closedBestErrorSum"), (0, .methodref 7 34), (0, .nameAndType 35 36), (0, u "isNaN"), (0, u "(D)Z"), (7, .methodref 7 45), (0, .nameAndType 46 36), (0, u "isFinite"), (7, .fieldref 12 55), (0, .nameAndType 56 57), (0, u "evaluations"), (0, u "J"), (0, .methodref 59 60), (0, .class_ 61), (0, .nameAndType 62 63), (0, u "java/lang/Math"), (0, u "max"), (0, u "(DD)D"), (0, .fieldref 12 65), (0, .nameAndType 66 16), (0, u "performanceSum"), (0, .fieldref 12 68), (0, .nameAndType 69 16), (0, u "errorSum"), (0, .fieldref 12 71), (0, .nameAndType 72 16), (0, u "optimumSum"), (2, u "startPeriod"), (0, u "(D)V"), (1, u "record"), (4, u "()D"), (2, u "bestErrorBeforeChange")] 17

def k3c0 : Code := { maxStack := 3, maxLocals := 1, code := prog_43_method_1_code, exceptionTable := #[], attributes := #[] }
def k3m0 : Method := { name := "<init>", desc := "()V", sig := { parameters := [], returnType := none }, accessFlags := 1, code := some k3c0 }
def k3c1 : Code := { maxStack := 7, maxLocals := 3, code := prog_43_method_2_code, exceptionTable := #[], attributes := #[] }
def k3m1 : Method := { name := "startPeriod", desc := "(D)V", sig := { parameters := [.double], returnType := none }, accessFlags := 1, code := some k3c1 }
def k3c2 : Code := { maxStack := 7, maxLocals := 3, code := prog_43_method_3_code, exceptionTable := #[], attributes := #[] }
def k3m2 : Method := { name := "record", desc := "(D)V", sig := { parameters := [.double], returnType := none }, accessFlags := 1, code := some k3c2 }
def k3c3 : Code := { maxStack := 6, maxLocals := 1, code := prog_43_method_10_code, exceptionTable := #[], attributes := #[] }
def k3m3 : Method := { name := "bestErrorBeforeChange", desc := "()D", sig := { parameters := [], returnType := some .double }, accessFlags := 1, code := some k3c3 }
/-- com/example/tidewalk/tidewalk/problems/RunMeasures -/
def k3 : Class := { plain "com/example/tidewalk/tidewalk/problems/RunMeasures" (some 0) with
  accessFlags := 49
  interfaces := #[]
  cf := some (fileOf pool3 12 #[] #[{ accessFlags := 1, nameIndex := 5, descriptorIndex := 6, attributes := #[] }, { accessFlags := 1, nameIndex := 75, descriptorIndex := 76, attributes := #[] }, { accessFlags := 1, nameIndex := 78, descriptorIndex := 76, attributes := #[] }, { accessFlags := 1, nameIndex := 86, descriptorIndex := 83, attributes := #[] }] 49 2 #[] #[{ accessFlags := 2, nameIndex := 56, descriptorIndex := 57, attributes := #[] }, { accessFlags := 2, nameIndex := 28, descriptorIndex := 29, attributes := #[] }, { accessFlags := 2, nameIndex := 15, descriptorIndex := 16, attributes := #[] }, { accessFlags := 2, nameIndex := 19, descriptorIndex := 20, attributes := #[] }, { accessFlags := 2, nameIndex := 25, descriptorIndex := 16, attributes := #[] }, { accessFlags := 2, nameIndex := 66, descriptorIndex := 16, attributes := #[] }, { accessFlags := 2, nameIndex := 69, descriptorIndex := 16, attributes := #[] }, { accessFlags := 2, nameIndex := 72, descriptorIndex := 16, attributes := #[] }, { accessFlags := 2, nameIndex := 32, descriptorIndex := 16, attributes := #[] }])
  fields := #[{ name := "evaluations", type := .long, accessFlags := 2, slot := 0, constantValue := 0 }, { name := "periods", type := .int, accessFlags := 2, slot := 1, constantValue := 0 }, { name := "optimum", type := .double, accessFlags := 2, slot := 2, constantValue := 0 }, { name := "optimumKnown", type := .boolean, accessFlags := 2, slot := 3, constantValue := 0 }, { name := "best", type := .double, accessFlags := 2, slot := 4, constantValue := 0 }, { name := "performanceSum", type := .double, accessFlags := 2, slot := 5, constantValue := 0 }, { name := "errorSum", type := .double, accessFlags := 2, slot := 6, constantValue := 0 }, { name := "optimumSum", type := .double, accessFlags := 2, slot := 7, constantValue := 0 }, { name := "closedBestErrorSum", type := .double, accessFlags := 2, slot := 8, constantValue := 0 }]
  methods := #[k3m0, k3m1, k3m2, k3m3]
  instanceTypes := #[.long, .int, .double, .boolean, .double, .double, .double, .double, .double]
  staticTypes := #[]
  resolved := Array.replicate 104 none
  statics := none }

def pool4 : Array CpInfo := pool [(1, .class_ 2), (0, u "java/io/Serializable"), (0, .class_ 4), (0, u "java/lang/Object")] 2

/-- java/io/Serializable -/
def k4 : Class := { plain "java/io/Serializable" (some 0) with
  accessFlags := 1537
  interfaces := #[]
  cf := some (fileOf pool4 1 #[] #[] 1537 3 #[] #[])
  fields := #[]
  methods := #[]
  instanceTypes := #[]
  staticTypes := #[]
  resolved := Array.replicate 7 none
  statics := none }

def pool5 : Array CpInfo := pool [(2, .class_ 4), (1, u "java/lang/Object"), (0, u "<init>"), (0, u "()V"), (1, .class_ 10), (1, u "java/lang/Number"), (2, .class_ 14), (0, u "java/io/Serializable"), (0, u "serialVersionUID"), (0, u "J")] 20

def k5m0 : Method := { name := "<init>", desc := "()V", sig := { parameters := [], returnType := none }, accessFlags := 1, code := none }
/-- java/lang/Number -/
def k5 : Class := { plain "java/lang/Number" (some 0) with
  accessFlags := 1057
  interfaces := #[4]
  cf := some (fileOf pool5 8 #[] #[{ accessFlags := 1, nameIndex := 5, descriptorIndex := 6, attributes := #[] }] 1057 2 #[13] #[{ accessFlags := 26, nameIndex := 15, descriptorIndex := 16, attributes := #[] }])
  fields := #[{ name := "serialVersionUID", type := .long, accessFlags := 26, slot := 0, constantValue := 0 }]
  methods := #[k5m0]
  instanceTypes := #[]
  staticTypes := #[.long]
  resolved := Array.replicate 37 none
  statics := none }

def pool6 : Array CpInfo := pool [(1, .class_ 2), (0, u "java/lang/Comparable"), (0, .class_ 4), (0, u "java/lang/Object")] 7

/-- java/lang/Comparable -/
def k6 : Class := { plain "java/lang/Comparable" (some 0) with
  accessFlags := 1537
  interfaces := #[]
  cf := some (fileOf pool6 1 #[] #[] 1537 3 #[] #[])
  fields := #[]
  methods := #[]
  instanceTypes := #[]
  staticTypes := #[]
  resolved := Array.replicate 12 none
  statics := none }

def pool7 : Array CpInfo := pool [(1, .class_ 2), (0, u "java/lang/constant/Constable"), (0, .class_ 4), (0, u "java/lang/Object")] 6

/-- java/lang/constant/Constable -/
def k7 : Class := { plain "java/lang/constant/Constable" (some 0) with
  accessFlags := 1537
  interfaces := #[]
  cf := some (fileOf pool7 1 #[] #[] 1537 3 #[] #[])
  fields := #[]
  methods := #[]
  instanceTypes := #[]
  staticTypes := #[]
  resolved := Array.replicate 11 none
  statics := none }

def pool8 : Array CpInfo := pool [(1, .class_ 2), (0, u "java/lang/constant/ConstantDesc"), (0, .class_ 4), (0, u "java/lang/Object")] 32

/-- java/lang/constant/ConstantDesc -/
def k8 : Class := { plain "java/lang/constant/ConstantDesc" (some 0) with
  accessFlags := 1537
  interfaces := #[]
  cf := some (fileOf pool8 1 #[] #[] 1537 3 #[] #[])
  fields := #[]
  methods := #[]
  instanceTypes := #[]
  staticTypes := #[]
  resolved := Array.replicate 37 none
  statics := none }

def pool9 : Array CpInfo := pool [(1, .class_ 2), (0, u "java/lang/Double"), (10, u "isFinite"), (0, u "(D)Z"), (8, .class_ 25), (1, u "java/lang/Math"), (12, .methodref 23 39), (0, .nameAndType 40 41), (0, u "abs"), (0, u "(D)D"), (69, .double 9218868437227405311), (2, .class_ 116), (1, u "java/lang/Number"), (3, u "value"), (0, u "D"), (2, u "isNaN"), (48, u "TYPE"), (0, u "Ljava/lang/Class;"), (0, .class_ 176), (0, u "java/lang/Comparable"), (0, .class_ 178), (0, u "java/lang/constant/Constable"), (0, .class_ 180), (0, u "java/lang/constant/ConstantDesc"), (0, u "POSITIVE_INFINITY"), (3, u "NEGATIVE_INFINITY"), (2, u "NaN"), (2, u "MAX_VALUE"), (0, u "MIN_NORMAL"), (0, u "MIN_VALUE"), (2, u "SIZE"), (0, u "I"), (1, u "PRECISION"), (1, u "MAX_EXPONENT"), (1, u "MIN_EXPONENT"), (1, u "BYTES"), (3, u "serialVersionUID"), (0, u "J")] 79

def k9c0 : Code := { maxStack := 4, maxLocals := 2, code := jdk_117_method_6_code, exceptionTable := #[], attributes := #[] }
def k9m0 : Method := { name := "isNaN", desc := "(D)Z", sig := { parameters := [.double], returnType := some .boolean }, accessFlags := 9, code := some k9c0 }
def k9c1 : Code := { maxStack := 4, maxLocals := 2, code := jdk_117_method_8_code, exceptionTable := #[], attributes := #[] }
def k9m1 : Method := { name := "isFinite", desc := "(D)Z", sig := { parameters := [.double], returnType := some .boolean }, accessFlags := 9, code := some k9c1 }
/-- java/lang/Double -/
def k9 : Class := { plain "java/lang/Double" (some 5) with
  accessFlags := 49
  interfaces := #[6, 7, 8]
  cf := some (fileOf pool9 1 #[] #[{ accessFlags := 9, nameIndex := 124, descriptorIndex := 14, attributes := #[] }, { accessFlags := 9, nameIndex := 13, descriptorIndex := 14, attributes := #[] }] 49 114 #[175, 177, 179] #[{ accessFlags := 25, nameIndex := 181, descriptorIndex := 121, attributes := #[] }, { accessFlags := 25, nameIndex := 185, descriptorIndex := 121, attributes := #[] }, { accessFlags := 25, nameIndex := 188, descriptorIndex := 121, attributes := #[] }, { accessFlags := 25, nameIndex := 191, descriptorIndex := 121, attributes := #[] }, { accessFlags := 25, nameIndex := 192, descriptorIndex := 121, attributes := #[] }, { accessFlags := 25, nameIndex := 193, descriptorIndex := 121, attributes := #[] }, { accessFlags := 25, nameIndex := 196, descriptorIndex := 197, attributes := #[] }, { accessFlags := 25, nameIndex := 199, descriptorIndex := 197, attributes := #[] }, { accessFlags := 25, nameIndex := 201, descriptorIndex := 197, attributes := #[] }, { accessFlags := 25, nameIndex := 203, descriptorIndex := 197, attributes := #[] }, { accessFlags := 25, nameIndex := 205, descriptorIndex := 197, attributes := #[] }, { accessFlags := 25, nameIndex := 173, descriptorIndex := 174, attributes := #[] }, { accessFlags := 18, nameIndex := 120, descriptorIndex := 121, attributes := #[] }, { accessFlags := 26, nameIndex := 209, descriptorIndex := 210, attributes := #[] }])
  fields := #[{ name := "POSITIVE_INFINITY", type := .double, accessFlags := 25, slot := 0, constantValue := 0 }, { name := "NEGATIVE_INFINITY", type := .double, accessFlags := 25, slot := 1, constantValue := 0 }, { name := "NaN", type := .double, accessFlags := 25, slot := 2, constantValue := 0 }, { name := "MAX_VALUE", type := .double, accessFlags := 25, slot := 3, constantValue := 0 }, { name := "MIN_NORMAL", type := .double, accessFlags := 25, slot := 4, constantValue := 0 }, { name := "MIN_VALUE", type := .double, accessFlags := 25, slot := 5, constantValue := 0 }, { name := "SIZE", type := .int, accessFlags := 25, slot := 6, constantValue := 0 }, { name := "PRECISION", type := .int, accessFlags := 25, slot := 7, constantValue := 0 }, { name := "MAX_EXPONENT", type := .int, accessFlags := 25, slot := 8, constantValue := 0 }, { name := "MIN_EXPONENT", type := .int, accessFlags := 25, slot := 9, constantValue := 0 }, { name := "BYTES", type := .int, accessFlags := 25, slot := 10, constantValue := 0 }, { name := "TYPE", type := (.object "java/lang/Class"), accessFlags := 25, slot := 11, constantValue := 0 }, { name := "value", type := .double, accessFlags := 18, slot := 0, constantValue := 0 }, { name := "serialVersionUID", type := .long, accessFlags := 26, slot := 12, constantValue := 0 }]
  methods := #[k9m0, k9m1]
  instanceTypes := #[.double]
  staticTypes := #[.double, .double, .double, .double, .double, .double, .int, .int, .int, .int, .int, (.object "java/lang/Class"), .long]
  resolved := Array.replicate 290 none
  statics := none }

def pool10 : Array CpInfo := pool [(1, u "java/lang/Cloneable"), (0, .class_ 1), (0, u "java/lang/Object"), (0, .class_ 3)] 3

/-- java/lang/Cloneable -/
def k10 : Class := { plain "java/lang/Cloneable" (some 0) with
  accessFlags := 1537
  interfaces := #[]
  cf := some (fileOf pool10 2 #[] #[] 1537 4 #[] #[])
  fields := #[]
  methods := #[]
  instanceTypes := #[]
  staticTypes := #[]
  resolved := Array.replicate 8 none
  statics := none }

/-- the primitive byte -/
def k11 : Class := { plain "byte" none with kind := .primitive 'B', accessFlags := 0x411 }
/-- [B -/
def k12 : Class := { plain "[B" (some 0) with kind := .array 11 .byte, interfaces := #[10, 4], accessFlags := 1041 }

/-- the primitive int -/
def k13 : Class := { plain "int" none with kind := .primitive 'I', accessFlags := 0x411 }
/-- [I -/
def k14 : Class := { plain "[I" (some 0) with kind := .array 13 .int, interfaces := #[10, 4], accessFlags := 1041 }

def heap : Heap := #[]
def classes : Array Class := #[k0, k1, k2, k3, k4, k5, k6, k7, k8, k9, k10, k11, k12, k13, k14]
def interned : List (Array UInt16 × Addr) := []
def slotsUsed : Nat := 0
def theMethod : MethodId := ⟨1, 1⟩
def args0 : Array Value := #[.int 27, .long 5, .int 1, .int 4, .int 2, .int 3]
def aboutOver (below : List Frame) : State where
  vm := { classes := classes, interned := interned.toArray }
  heap := heap
  slotsUsed := slotsUsed
  threads := #[{ frames := .invoking theMethod args0 :: below }]
def below0 : List Frame := [.native { method := ⟨0, 0⟩, args := #[] }]
def about1 : State := aboutOver below0
def p0 : Program := .bare "" "" ""
def e0 : Env := launch0.env 0 0 0
theorem w_frames : about1.frames = Frame.invoking theMethod args0 :: below0 := rfl
set_option maxRecDepth 65536 in
theorem w_args : argsFit about1.vm theMethod args0 = true := by decide +kernel
set_option maxRecDepth 65536 in
theorem w_heap : heapFits about1 = true := by decide +kernel
set_option maxRecDepth 65536 in
theorem w_runnable : about1.curStatus? = some .runnable := by decide +kernel
set_option maxRecDepth 65536 in
theorem w_alone : about1.alone = true := by decide +kernel
set_option maxRecDepth 65536 in
theorem w_named : about1.methodNamed? x = some theMethod := by decide +kernel
set_option maxRecDepth 65536 in
theorem w_hears : about1.hears theMethod below0 = true := by decide +kernel
set_option maxRecDepth 65536 in
theorem w_ripe : about1.ripe theMethod args0 below0 = true := by decide +kernel
theorem w_running : about1.status = .running := rfl
set_option maxRecDepth 65536 in
theorem w_room : about1.hasRoom e0.platform room_1 = true :=
  launch0.hasRoom_least _ room_1 (by decide +kernel) (by decide +kernel) (by decide +kernel) (by decide +kernel) (by decide +kernel) (by decide +kernel)
theorem allAtoms_all (ts : List Jvm.Cond) (a : Array Jvm.Value) (st : Jvm.State) : (allAtoms ts).before a st = ts.all (fun c => c.before a st) := by
  induction ts with
  | nil => rfl
  | cons c t ih =>
    show (Jvm.Cond.and c (allAtoms t)).before a st = _
    rw [Jvm.Cond.before_and, ih, List.all_cons]
def words1 : List Jvm.Cond := Jvm.Cond.code x code maxLocals ret :: tables_1
/-- a 'code' word, met by the world's own term for the bytes: nothing is compared byte by byte -/
theorem code_word {y : MethodName} {bytes : ByteArray} {mx : Nat} {rt : Option FieldType} {a : Array Value} {s : State} {m : MethodId} {meth : Method} {c : Code} (h1 : s.methodNamed? y = some m) (h2 : s.vm.method? m = some meth) (h3 : meth.code = some c) (h4 : c.code = bytes)
    (h5 : (c.maxLocals == mx && c.exceptionTable.isEmpty && decide (c.maxStack ≤ mostOperands) && decide (meth.sig.returnType = rt) && !meth.locks && decide (parseMethodDescriptor y.desc = some meth.sig)) = true) : (Jvm.Cond.code y bytes mx rt).before a s = true := by
  simp only [Bool.and_eq_true, beq_iff_eq, Bool.not_eq_true', decide_eq_true_eq] at h5
  obtain ⟨⟨⟨⟨⟨g1, g2⟩, g3⟩, g4⟩, g5⟩, g6⟩ := h5
  simp [Cond.before, Cond.holds, Cond.value, h1, h2, h3, h4, g1, g2, g3, g4, g5, g6]
def isCode : Jvm.Cond → Bool
  | .code _ _ _ _ => true
  | _ => false
theorem all_split {L : List Jvm.Cond} {P : Jvm.Cond → Bool} (h1 : L.all (fun c => isCode c || P c) = true) (h2 : ∀ c ∈ L.filter isCode, P c = true) : L.all P = true := by
  refine List.all_eq_true.mpr fun c hc => ?_
  have h := List.all_eq_true.mp h1 c hc
  rcases Bool.eq_false_or_eq_true (isCode c) with hi | hi
  · exact h2 c (List.mem_filter.mpr ⟨hc, hi⟩)
  · simpa [hi] using h
set_option maxRecDepth 65536 in
theorem w_c0 : (Jvm.Cond.code x code maxLocals ret).before args0 about1 = true := code_word (m := ⟨1, 1⟩) (meth := k1m1) (c := k1c1) (by decide +kernel) rfl rfl rfl (by decide +kernel)
set_option maxRecDepth 65536 in
theorem w_c1 : (Jvm.Cond.code ({ cls := "java/lang/Math", name := "min", desc := "(II)I" } : Jvm.MethodName) jdk_29_method_69_code (2 : Nat) (Option.some Jvm.ClassFile.FieldType.int)).before args0 about1 = true := code_word (m := ⟨2, 5⟩) (meth := k2m5) (c := k2c5) (by decide +kernel) rfl rfl rfl (by decide +kernel)
set_option maxRecDepth 65536 in
theorem w_c2 : (Jvm.Cond.code ({ cls := "java/lang/Math", name := "max", desc := "(II)I" } : Jvm.MethodName) jdk_29_method_65_code (2 : Nat) (Option.some Jvm.ClassFile.FieldType.int)).before args0 about1 = true := code_word (m := ⟨2, 2⟩) (meth := k2m2) (c := k2c2) (by decide +kernel) rfl rfl rfl (by decide +kernel)
set_option maxRecDepth 65536 in
theorem w_c3 : (Jvm.Cond.code ({ cls := "com/example/tidewalk/tidewalk/problems/RunMeasuresBestErrorBeforeChangePinLaw", name := "slot", desc := "(IIII)I" } : Jvm.MethodName) method_3_code (5 : Nat) (Option.some Jvm.ClassFile.FieldType.int)).before args0 about1 = true := code_word (m := ⟨1, 2⟩) (meth := k1m2) (c := k1c2) (by decide +kernel) rfl rfl rfl (by decide +kernel)
set_option maxRecDepth 65536 in
theorem w_c4 : (Jvm.Cond.code ({ cls := "com/example/tidewalk/tidewalk/problems/RunMeasures", name := "<init>", desc := "()V" } : Jvm.MethodName) prog_43_method_1_code (1 : Nat) (Option.none : Option Jvm.ClassFile.FieldType)).before args0 about1 = true := code_word (m := ⟨3, 0⟩) (meth := k3m0) (c := k3c0) (by decide +kernel) rfl rfl rfl (by decide +kernel)
set_option maxRecDepth 65536 in
theorem w_c5 : (Jvm.Cond.code ({ cls := "java/lang/Object", name := "<init>", desc := "()V" } : Jvm.MethodName) object_method_1_code (1 : Nat) (Option.none : Option Jvm.ClassFile.FieldType)).before args0 about1 = true := code_word (m := ⟨0, 0⟩) (meth := k0m0) (c := k0c0) (by decide +kernel) rfl rfl rfl (by decide +kernel)
set_option maxRecDepth 65536 in
theorem w_c6 : (Jvm.Cond.code ({ cls := "com/example/tidewalk/tidewalk/problems/RunMeasuresBestErrorBeforeChangePinLaw", name := "phase", desc := "(Lcom/example/tidewalk/tidewalk/problems/RunMeasures;IIIIIIII)V" } : Jvm.MethodName) method_4_code (9 : Nat) (Option.none : Option Jvm.ClassFile.FieldType)).before args0 about1 = true := code_word (m := ⟨1, 3⟩) (meth := k1m3) (c := k1c3) (by decide +kernel) rfl rfl rfl (by decide +kernel)
set_option maxRecDepth 65536 in
theorem w_c7 : (Jvm.Cond.code ({ cls := "com/example/tidewalk/tidewalk/problems/RunMeasures", name := "startPeriod", desc := "(D)V" } : Jvm.MethodName) prog_43_method_2_code (3 : Nat) (Option.none : Option Jvm.ClassFile.FieldType)).before args0 about1 = true := code_word (m := ⟨3, 1⟩) (meth := k3m1) (c := k3c1) (by decide +kernel) rfl rfl rfl (by decide +kernel)
set_option maxRecDepth 65536 in
theorem w_c8 : (Jvm.Cond.code ({ cls := "java/lang/Double", name := "isNaN", desc := "(D)Z" } : Jvm.MethodName) jdk_117_method_6_code (2 : Nat) (Option.some Jvm.ClassFile.FieldType.boolean)).before args0 about1 = true := code_word (m := ⟨9, 0⟩) (meth := k9m0) (c := k9c0) (by decide +kernel) rfl rfl rfl (by decide +kernel)
set_option maxRecDepth 65536 in
theorem w_c9 : (Jvm.Cond.code ({ cls := "com/example/tidewalk/tidewalk/problems/RunMeasures", name := "record", desc := "(D)V" } : Jvm.MethodName) prog_43_method_3_code (3 : Nat) (Option.none : Option Jvm.ClassFile.FieldType)).before args0 about1 = true := code_word (m := ⟨3, 2⟩) (meth := k3m2) (c := k3c2) (by decide +kernel) rfl rfl rfl (by decide +kernel)
set_option maxRecDepth 65536 in
theorem w_c10 : (Jvm.Cond.code ({ cls := "java/lang/Double", name := "isFinite", desc := "(D)Z" } : Jvm.MethodName) jdk_117_method_8_code (2 : Nat) (Option.some Jvm.ClassFile.FieldType.boolean)).before args0 about1 = true := code_word (m := ⟨9, 1⟩) (meth := k9m1) (c := k9c1) (by decide +kernel) rfl rfl rfl (by decide +kernel)
set_option maxRecDepth 65536 in
theorem w_c11 : (Jvm.Cond.code ({ cls := "java/lang/Math", name := "abs", desc := "(D)D" } : Jvm.MethodName) jdk_29_method_64_code (2 : Nat) (Option.some Jvm.ClassFile.FieldType.double)).before args0 about1 = true := code_word (m := ⟨2, 1⟩) (meth := k2m1) (c := k2c1) (by decide +kernel) rfl rfl rfl (by decide +kernel)
set_option maxRecDepth 65536 in
theorem w_c12 : (Jvm.Cond.code ({ cls := "java/lang/Math", name := "max", desc := "(DD)D" } : Jvm.MethodName) jdk_29_method_68_code (4 : Nat) (Option.some Jvm.ClassFile.FieldType.double)).before args0 about1 = true := code_word (m := ⟨2, 4⟩) (meth := k2m4) (c := k2c4) (by decide +kernel) rfl rfl rfl (by decide +kernel)
set_option maxRecDepth 65536 in
theorem w_c13 : (Jvm.Cond.code ({ cls := "com/example/tidewalk/tidewalk/problems/RunMeasures", name := "bestErrorBeforeChange", desc := "()D" } : Jvm.MethodName) prog_43_method_10_code (1 : Nat) (Option.some Jvm.ClassFile.FieldType.double)).before args0 about1 = true := code_word (m := ⟨3, 3⟩) (meth := k3m3) (c := k3c3) (by decide +kernel) rfl rfl rfl (by decide +kernel)
set_option maxRecDepth 65536 in
theorem w_c14 : (Jvm.Cond.code ({ cls := "com/example/tidewalk/tidewalk/problems/RunMeasuresBestErrorBeforeChangePinLaw", name := "best", desc := "(IIIIIII)J" } : Jvm.MethodName) method_5_code (9 : Nat) (Option.some Jvm.ClassFile.FieldType.long)).before args0 about1 = true := code_word (m := ⟨1, 4⟩) (meth := k1m4) (c := k1c4) (by decide +kernel) rfl rfl rfl (by decide +kernel)
set_option maxRecDepth 65536 in
theorem w_c15 : (Jvm.Cond.code ({ cls := "java/lang/Math", name := "max", desc := "(JJ)J" } : Jvm.MethodName) jdk_29_method_66_code (4 : Nat) (Option.some Jvm.ClassFile.FieldType.long)).before args0 about1 = true := code_word (m := ⟨2, 3⟩) (meth := k2m3) (c := k2c3) (by decide +kernel) rfl rfl rfl (by decide +kernel)
def codes1 : List Jvm.Cond := [Jvm.Cond.code x code maxLocals ret, Jvm.Cond.code ({ cls := "java/lang/Math", name := "min", desc := "(II)I" } : Jvm.MethodName) jdk_29_method_69_code (2 : Nat) (Option.some Jvm.ClassFile.FieldType.int), Jvm.Cond.code ({ cls := "java/lang/Math", name := "max", desc := "(II)I" } : Jvm.MethodName) jdk_29_method_65_code (2 : Nat) (Option.some Jvm.ClassFile.FieldType.int), Jvm.Cond.code ({ cls := "com/example/tidewalk/tidewalk/problems/RunMeasuresBestErrorBeforeChangePinLaw", name := "slot", desc := "(IIII)I" } : Jvm.MethodName) method_3_code (5 : Nat) (Option.some Jvm.ClassFile.FieldType.int), Jvm.Cond.code ({ cls := "com/example/tidewalk/tidewalk/problems/RunMeasures", name := "<init>", desc := "()V" } : Jvm.MethodName) prog_43_method_1_code (1 : Nat) (Option.none : Option Jvm.ClassFile.FieldType), Jvm.Cond.code ({ cls := "java/lang/Object", name := "<init>", desc := "()V" } : Jvm.MethodName) object_method_1_code (1 : Nat) (Option.none : Option Jvm.ClassFile.FieldType), Jvm.Cond.code ({ cls := "com/example/tidewalk/tidewalk/problems/RunMeasuresBestErrorBeforeChangePinLaw", name := "phase", desc := "(Lcom/example/tidewalk/tidewalk/problems/RunMeasures;IIIIIIII)V" } : Jvm.MethodName) method_4_code (9 : Nat) (Option.none : Option Jvm.ClassFile.FieldType), Jvm.Cond.code ({ cls := "com/example/tidewalk/tidewalk/problems/RunMeasures", name := "startPeriod", desc := "(D)V" } : Jvm.MethodName) prog_43_method_2_code (3 : Nat) (Option.none : Option Jvm.ClassFile.FieldType), Jvm.Cond.code ({ cls := "java/lang/Double", name := "isNaN", desc := "(D)Z" } : Jvm.MethodName) jdk_117_method_6_code (2 : Nat) (Option.some Jvm.ClassFile.FieldType.boolean), Jvm.Cond.code ({ cls := "com/example/tidewalk/tidewalk/problems/RunMeasures", name := "record", desc := "(D)V" } : Jvm.MethodName) prog_43_method_3_code (3 : Nat) (Option.none : Option Jvm.ClassFile.FieldType), Jvm.Cond.code ({ cls := "java/lang/Double", name := "isFinite", desc := "(D)Z" } : Jvm.MethodName) jdk_117_method_8_code (2 : Nat) (Option.some Jvm.ClassFile.FieldType.boolean), Jvm.Cond.code ({ cls := "java/lang/Math", name := "abs", desc := "(D)D" } : Jvm.MethodName) jdk_29_method_64_code (2 : Nat) (Option.some Jvm.ClassFile.FieldType.double), Jvm.Cond.code ({ cls := "java/lang/Math", name := "max", desc := "(DD)D" } : Jvm.MethodName) jdk_29_method_68_code (4 : Nat) (Option.some Jvm.ClassFile.FieldType.double), Jvm.Cond.code ({ cls := "com/example/tidewalk/tidewalk/problems/RunMeasures", name := "bestErrorBeforeChange", desc := "()D" } : Jvm.MethodName) prog_43_method_10_code (1 : Nat) (Option.some Jvm.ClassFile.FieldType.double), Jvm.Cond.code ({ cls := "com/example/tidewalk/tidewalk/problems/RunMeasuresBestErrorBeforeChangePinLaw", name := "best", desc := "(IIIIIII)J" } : Jvm.MethodName) method_5_code (9 : Nat) (Option.some Jvm.ClassFile.FieldType.long), Jvm.Cond.code ({ cls := "java/lang/Math", name := "max", desc := "(JJ)J" } : Jvm.MethodName) jdk_29_method_66_code (4 : Nat) (Option.some Jvm.ClassFile.FieldType.long)]
set_option maxRecDepth 65536 in
theorem codes_eq : words1.filter isCode = codes1 := rfl
theorem w_codes : ∀ c ∈ words1.filter isCode, c.before args0 about1 = true := by
  rw [codes_eq]
  intro c hc
  simp only [codes1, List.mem_cons, List.not_mem_nil, or_false] at hc
  rcases hc with rfl | rfl | rfl | rfl | rfl | rfl | rfl | rfl | rfl | rfl | rfl | rfl | rfl | rfl | rfl | rfl
  · exact w_c0
  · exact w_c1
  · exact w_c2
  · exact w_c3
  · exact w_c4
  · exact w_c5
  · exact w_c6
  · exact w_c7
  · exact w_c8
  · exact w_c9
  · exact w_c10
  · exact w_c11
  · exact w_c12
  · exact w_c13
  · exact w_c14
  · exact w_c15
set_option maxRecDepth 65536 in
theorem w_t1 : (words1.take 24).all (fun c => isCode c || c.before args0 about1) = true := by decide +kernel
set_option maxRecDepth 65536 in
theorem w_t2 : ((words1.drop 24).take 24).all (fun c => isCode c || c.before args0 about1) = true := by decide +kernel
set_option maxRecDepth 65536 in
theorem w_t3 : (((words1.drop 24).drop 24).take 24).all (fun c => isCode c || c.before args0 about1) = true := by decide +kernel
set_option maxRecDepth 65536 in
theorem w_t4 : (((words1.drop 24).drop 24).drop 24).all (fun c => isCode c || c.before args0 about1) = true := by decide +kernel
theorem w_tables : (allAtoms (Jvm.Cond.code x code maxLocals ret :: tables_1)).before args0 about1 = true := by
  rw [allAtoms_all]
  show words1.all (fun c => c.before args0 about1) = true
  refine all_split ?_ w_codes
  rw [← List.take_append_drop 24 words1, List.all_append, w_t1, ← List.take_append_drop 24 (words1.drop 24), List.all_append, w_t2, ← List.take_append_drop 24 ((words1.drop 24).drop 24), List.all_append, w_t3, w_t4]
  rfl
set_option maxRecDepth 65536 in
theorem w_case : (Jvm.Cond.and given_1 narrow_1).before args0 about1 = true := by decide +kernel
theorem w_applies : (headSpec (Jvm.Cond.code x code maxLocals ret :: tables_1) room_1).applies x e0.platform about1 = true :=
  (Spec.applies_iff w_frames).mpr ⟨w_running, w_runnable, w_alone, w_named, w_hears, w_ripe, w_room, w_tables⟩
theorem atStart : AtStart classFile x code maxLocals ret World_1 tables_1 room_1 Calls_1 rest_1 Pre_1 launch0 p0 e0 about1 theMethod args0 below0 :=
  ⟨lists_1, trivial, launch0.admits_env _ _ _, launch0.least_env, fairChoices_fair.cas, fairChoices_fair.clock, w_frames, w_args, w_heap, w_applies, trivial, trivial, w_case⟩
end start1
theorem witness_1 : WitnessClaimed_1 := ⟨start1.p0, start1.e0, start1.about1, start1.theMethod, start1.args0, start1.below0, start1.atStart⟩
end Jvm.Pilot.@@N@@
