import JvmDerived
import JvmDerived.Pilot.@@N@@Statement
import JvmDerived.Pilot.@@N@@Code
set_option linter.unusedVariables false
set_option linter.unusedSimpArgs false
namespace Jvm.Pilot.@@N@@
open Jvm Jvm.ClassFile Sem Op Lib Jvm.Free Jvm.Stand Jvm.LawKit Jvm.RoadKit Bundle Jvm.Pilot.@@N@@.Jvm.D
/-- the run from S ends as G says -/
def own_Fin (p : Program) (e : Env) (below : List Frame) (G : Outcome → State → Prop) (S : State) : Prop :=
  ∃ t o, Steps p.tables e below S t ∧ t.status = .running ∧ Ended t below o ∧ G o t
theorem own_go {p : Program} {e : Env} {below : List Frame} {G : Outcome → State → Prop} {S S' : State} (h : Steps p.tables e below S S') (k : own_Fin p e below G S') : own_Fin p e below G S := by
  obtain ⟨t, o, h1, h2, h3, h4⟩ := k
  exact ⟨t, o, h.trans h1, h2, h3, h4⟩
theorem own_by {p : Program} {e : Env} {below : List Frame} {G : Outcome → State → Prop} {S S' : State} (h : ∀ t, Steps p.tables e below S' t → Steps p.tables e below S t) (k : own_Fin p e below G S') : own_Fin p e below G S := by
  obtain ⟨t, o, h1, h2, h3, h4⟩ := k
  exact ⟨t, o, h t h1, h2, h3, h4⟩
theorem own_done {p : Program} {e : Env} {below : List Frame} {G : Outcome → State → Prop} {S t : State} {o : Outcome} (h1 : Steps p.tables e below S t) (h2 : t.status = .running) (h3 : Ended t below o) (h4 : G o t) : own_Fin p e below G S := ⟨t, o, h1, h2, h3, h4⟩
def own_get (rs : List Int32) (j : Int32) : Int32 := rs.getD j.toNatClampNeg 0
theorem own_getD (rs : List Int32) (j : Int32) : (rs.map Value.int).getD j.toNatClampNeg (.int (0 : Int32)) = .int (own_get rs j) := by
  unfold own_get
  rw [List.getD_eq_getElem?_getD, List.getD_eq_getElem?_getD, List.getElem?_map]
  cases rs[j.toNatClampNeg]? <;> rfl
theorem own_retI {p : Program} {l : Launch} {e : Env} {R : Room} {s : State} {m : MethodId} {args : Array Value} {below : List Frame} {meth : Method} {c : Code} {T : State} {locs : List Loc} {cells slots : Nat} (X : Stand p l e R s m args below meth c T locs cells slots) (hx : p.tables.exec = Jvm.exec) {pc : Nat} {Ls : Array Slot} {z : Int32} {rest : List Value} (hret : meth.sig.returnType = some .int) (hd : decode c.code pc = .ok (.ireturn, 1)) {fs : List Frame}
    (hl : ∀ (f : JFrame) (acts : List Action), f.method = m → f.locked = none → f.entered = [] → (doReturn e (T.setTop f) acts (some (.int z))).1 = T.setFrames fs) : Steps p.tables e below (T.setTop (mkF m pc Ls (.int z :: rest))) (T.setFrames fs) :=
  retOut X hx hret rfl (Or.inl ⟨rfl, Or.inl rfl, z, rfl⟩) hd hl
def own_Rep (w : Int) : Prop := ∃ k : Nat, ((2 : Int) ^ k ∣ w) ∧ (w.natAbs : Int) < 9007199254740992 * 2 ^ k
theorem own_pp (k : Nat) : (0 : Int) < 2 ^ k := Int.pow_pos (by decide)
theorem own_ps (k : Nat) : (2 : Int) ^ (k + 1) = 2 * 2 ^ k := by rw [Int.pow_succ]; omega
theorem own_pd {j k : Nat} (h : j ≤ k) : (2 : Int) ^ j ∣ 2 ^ k := by
  obtain ⟨d, rfl⟩ := Nat.exists_eq_add_of_le h
  exact ⟨2 ^ d, Int.pow_add _ _ _⟩
theorem own_plt {j k : Nat} (h : (2 : Int) ^ j < 2 ^ k) : j < k := by
  apply Nat.lt_of_not_le; intro q
  have := Int.le_of_dvd (own_pp j) (own_pd q)
  omega
theorem own_L1 {w : Int} (k : Nat) (h1 : (2 : Int) ^ k ∣ w) (h2 : (w.natAbs : Int) ≤ 9007199254740992 * 2 ^ k) : own_Rep w := by
  by_cases h : (w.natAbs : Int) < 9007199254740992 * 2 ^ k
  · exact ⟨k, h1, h⟩
  · have hp := own_pp k
    have e : (w.natAbs : Int) = 9007199254740992 * 2 ^ k := by omega
    refine ⟨k + 1, ?_, ?_⟩
    · rw [own_ps]
      have : (2 * 2 ^ k : Int) ∣ (w.natAbs : Int) := ⟨4503599627370496, by rw [e]; omega⟩
      exact Int.dvd_natAbs.mp this
    · rw [own_ps]; omega
def own_near (v r : Int) : Prop := own_Rep r ∧ ∀ w, own_Rep w → (v - r).natAbs ≤ (v - w).natAbs
theorem own_nex {v r : Int} (h : own_near v r) (hv : own_Rep v) : r = v := by
  have := h.2 v hv; omega
theorem own_rep0 : own_Rep 0 := ⟨0, ⟨0, by simp⟩, by simp⟩
theorem own_repn {w : Int} (h : own_Rep w) : own_Rep (-w) := by
  obtain ⟨k, h1, h2⟩ := h
  exact ⟨k, (Int.dvd_neg).mpr h1, by omega⟩
theorem own_nearn {v r : Int} (h : own_near v r) : own_near (-v) (-r) := by
  refine ⟨own_repn h.1, fun w hw => ?_⟩
  have := h.2 (-w) (own_repn hw); omega
/-- a result as great as 2^(53+j) is a multiple of 2^(j+1) -/
theorem own_big {s : Int} {j : Nat} (h : own_Rep s) (hs : 9007199254740992 * (2 : Int) ^ j ≤ (s.natAbs : Int)) : (2 : Int) ^ (j + 1) ∣ s := by
  obtain ⟨m, h1, h2⟩ := h
  have : j < m := own_plt (by omega)
  exact Int.dvd_trans (own_pd this) h1
theorem own_repP (j : Nat) : own_Rep (9007199254740992 * 2 ^ j) := by
  have hp := own_pp j
  exact own_L1 j ⟨9007199254740992, by omega⟩ (by omega)
theorem own_far {v s : Int} {j : Nat} (h : own_near v s) (hv : 9007199254740992 * (2 : Int) ^ j ≤ (v.natAbs : Int)) : 9007199254740992 * (2 : Int) ^ j ≤ (s.natAbs : Int) := by
  have hp := own_pp j
  by_cases hs : 0 ≤ v
  · have := h.2 _ (own_repP j); omega
  · have := h.2 _ (own_repn (own_repP j)); omega
theorem own_G' {v s : Int} {j : Nat} (h : own_near v s) (hv : 9007199254740992 * (2 : Int) ^ j ≤ (v.natAbs : Int)) : (2 : Int) ^ (j + 1) ∣ s := own_big h.1 (own_far h hv)
theorem own_G {v s : Int} {j : Nat} (h : own_near v s) (hd : (2 : Int) ^ j ∣ v) : (2 : Int) ^ j ∣ s := by
  by_cases hv : (v.natAbs : Int) < 9007199254740992 * 2 ^ j
  · rw [own_nex h ⟨j, hd, hv⟩]; exact hd
  · exact Int.dvd_trans (own_pd (Nat.le_succ j)) (own_G' h (by omega))
/-- the error is at most half a unit -/
theorem own_half {v s : Int} {k : Nat} (h : own_near v s) (hd : (2 : Int) ^ k ∣ v) (hb : (v.natAbs : Int) < 2 * (9007199254740992 * 2 ^ k)) : ((v - s).natAbs : Int) ≤ 2 ^ k := by
  have hp := own_pp k
  obtain ⟨m, hm⟩ := hd
  by_cases he : m % 2 = 0
  · have : own_Rep v := own_L1 (k + 1) (by rw [own_ps]; refine ⟨m / 2, ?_⟩; rw [hm, show m = 2 * (m / 2) by omega, show (2 * (m / 2)) / 2 = m / 2 by omega, ← Int.mul_assoc, Int.mul_comm (2 ^ k) 2]) (by rw [own_ps]; omega)
    rw [own_nex h this]; omega
  · have key : own_Rep (v - 2 ^ k) ∨ own_Rep (v + 2 ^ k) := by
      by_cases hs : 0 ≤ v
      · refine Or.inl (own_L1 (k + 1) ?_ (by rw [own_ps]; omega))
        rw [own_ps]; refine ⟨(m - 1) / 2, ?_⟩
        have e : m - 1 = 2 * ((m - 1) / 2) := by omega
        have : v - 2 ^ k = 2 ^ k * (m - 1) := by rw [Int.mul_sub, hm, Int.mul_one]
        rw [this, e, show (2 * ((m - 1) / 2)) / 2 = (m - 1) / 2 by omega, ← Int.mul_assoc, Int.mul_comm (2 ^ k) 2]
      · refine Or.inr (own_L1 (k + 1) ?_ (by rw [own_ps]; omega))
        rw [own_ps]; refine ⟨(m + 1) / 2, ?_⟩
        have e : m + 1 = 2 * ((m + 1) / 2) := by omega
        have : v + 2 ^ k = 2 ^ k * (m + 1) := by rw [Int.mul_add, hm, Int.mul_one]
        rw [this, e, show (2 * ((m + 1) / 2)) / 2 = (m + 1) / 2 by omega, ← Int.mul_assoc, Int.mul_comm (2 ^ k) 2]
    rcases key with q | q
    · have := h.2 _ q; omega
    · have := h.2 _ q; omega
theorem own_gap {P x y : Int} (hP : 0 < P) (hx : P ∣ x) (hy : P ∣ y) (h : x < y) : x + P ≤ y := by
  have := Int.le_of_dvd (show 0 < y - x by omega) (Int.dvd_sub hy hx); omega
theorem own_gapA {b : Int} {k : Nat} (h1 : (2 : Int) ^ k ∣ b) (h2 : (b.natAbs : Int) < 9007199254740992 * 2 ^ k) : (b.natAbs : Int) + 2 ^ k ≤ 9007199254740992 * 2 ^ k :=
  own_gap (own_pp k) (Int.dvd_natAbs.mpr h1) ⟨9007199254740992, Int.mul_comm _ _⟩ h2
theorem own_F2 {a b s : Int} (ha : own_Rep a) (hb : own_Rep b) (hs : own_near (a + b) s) : own_Rep (a + b - s) := by
  have na := hs.2 a ha
  have nb := hs.2 b hb
  obtain ⟨ka, da, la⟩ := ha
  obtain ⟨kb, db, lb⟩ := hb
  by_cases h : ka ≤ kb
  · have d : (2 : Int) ^ ka ∣ a + b := Int.dvd_add da (Int.dvd_trans (own_pd h) db)
    exact ⟨ka, Int.dvd_sub d (own_G hs d), by omega⟩
  · have d : (2 : Int) ^ kb ∣ a + b := Int.dvd_add (Int.dvd_trans (own_pd (by omega)) da) db
    exact ⟨kb, Int.dvd_sub d (own_G hs d), by omega⟩
theorem own_F1 {a b s : Int} (ha : own_Rep a) (hb : own_Rep b) (hab : b.natAbs ≤ a.natAbs) (hs : own_near (a + b) s) : own_Rep (s - a) := by
  have na := hs.2 a ha
  have rb := hb
  obtain ⟨ka, da, la⟩ := ha
  obtain ⟨kb, db, lb⟩ := hb
  by_cases h : ka ≤ kb
  · have dk : (2 : Int) ^ ka ∣ b := Int.dvd_trans (own_pd h) db
    have d : (2 : Int) ^ ka ∣ a + b := Int.dvd_add da dk
    have e1 := own_half hs d (by omega)
    have e2 := own_gapA dk (by omega)
    exact own_L1 ka (Int.dvd_sub (own_G hs d) da) (by omega)
  · have dk : (2 : Int) ^ kb ∣ a := Int.dvd_trans (own_pd (by omega)) da
    have d : (2 : Int) ^ kb ∣ a + b := Int.dvd_add dk db
    by_cases hv : ((a + b).natAbs : Int) < 9007199254740992 * 2 ^ kb
    · have := own_nex hs ⟨kb, d, hv⟩
      rw [this, show a + b - a = b by omega]; exact rb
    · have d1 := own_G' hs (j := kb) (by omega)
      refine own_L1 (kb + 1) (Int.dvd_sub d1 (Int.dvd_trans (own_pd (by omega)) da)) ?_
      rw [own_ps]; omega
theorem own_two {a b s bb d1 d2 d3 e : Int} (ha : own_Rep a) (hb : own_Rep b) (hs : own_near (a + b) s) (h1 : own_near (s - a) bb) (h2 : own_near (s - bb) d1) (h3 : own_near (a - d1) d2) (h4 : own_near (b - bb) d3) (h5 : own_near (d2 + d3) e) : e = a + b - s ∧ own_Rep (a + b - s) := by
  have hF := own_F2 ha hb hs
  refine ⟨?_, hF⟩
  by_cases hR : own_Rep (s - a)
  · have e1 := own_nex h1 hR
    rw [show s - bb = a by omega] at h2
    have e2 := own_nex h2 ha
    rw [show a - d1 = 0 by omega] at h3
    have e3 := own_nex h3 own_rep0
    rw [show b - bb = a + b - s by omega] at h4
    have e4 := own_nex h4 hF
    rw [show d2 + d3 = a + b - s by omega] at h5
    exact own_nex h5 hF
  · have hab : ¬ b.natAbs ≤ a.natAbs := fun q => hR (own_F1 ha hb q hs)
    have na := hs.2 a ha
    have nb := hs.2 b hb
    have nna := hs.2 (-a) (own_repn ha)
    have n1b := h1.2 b hb
    have ra := ha; have rb := hb
    obtain ⟨ka, da, la⟩ := ha
    obtain ⟨kb, db, lb⟩ := hb
    have hk : ka < kb := by
      apply Nat.lt_of_not_le; intro q
      apply hR
      have dk : (2 : Int) ^ kb ∣ a := Int.dvd_trans (own_pd q) da
      have d : (2 : Int) ^ kb ∣ a + b := Int.dvd_add dk db
      have e1 := own_half hs d (by omega)
      have e2 := own_gapA db lb
      exact own_L1 kb (Int.dvd_sub (own_G hs d) dk) (by omega)
    have dk : (2 : Int) ^ ka ∣ b := Int.dvd_trans (own_pd (by omega)) db
    have d : (2 : Int) ^ ka ∣ a + b := Int.dvd_add da dk
    have ds : (2 : Int) ^ ka ∣ s - a := Int.dvd_sub (own_G hs d) da
    have hsa : a.natAbs ≤ s.natAbs := by
      by_cases hsg : (0 ≤ a ∧ 0 ≤ b) ∨ (a ≤ 0 ∧ b ≤ 0)
      · omega
      · by_cases h2a : 2 * a.natAbs ≤ b.natAbs
        · omega
        · exfalso; apply hR
          have : own_Rep (a + b) := ⟨ka, d, by omega⟩
          have e1 := own_nex hs this
          rw [show s - a = b by omega]; exact rb
    have h1' : own_near (s + -a) bb := by rw [show s + -a = s - a by omega]; exact h1
    have r1 := own_repn (own_F1 hs.1 (own_repn ra) (by omega) h1')
    have r2 := own_repn (own_F2 hs.1 (own_repn ra) h1')
    rw [show -(bb - s) = s - bb by omega] at r1
    have e2 := own_nex h2 r1
    rw [show -(s + -a - bb) = a - d1 by omega] at r2
    have e3 := own_nex h3 r2
    have hbig : 9007199254740992 * (2 : Int) ^ ka ≤ ((s - a).natAbs : Int) := by
      apply Int.le_of_not_gt; intro q; exact hR ⟨ka, ds, q⟩
    have db2 := own_G' h1 hbig
    have r4 : own_Rep (b - bb) := by
      refine own_L1 (ka + 1) (Int.dvd_sub (Int.dvd_trans (own_pd (by omega)) db) db2) ?_
      rw [own_ps]; omega
    have e4 := own_nex h4 r4
    rw [show d2 + d3 = a + b - s by omega] at h5
    exact own_nex h5 hF
section OwnFP
open Jvm.FP
theorem own_R {v : Int} (h : v.natAbs < 2 ^ 63) : ∃ r, own_near v r ∧ ∀ s : Bool, (v = 0 ∨ s = decide (v < 0)) → Core.Whole r (Core.roundRatio Core.b64 s v.natAbs 1 0) := by
  by_cases hz : v = 0
  · subst hz
    refine ⟨0, ⟨own_rep0, fun w hw => by simp⟩, fun s _ => ?_⟩
    show Core.Whole 0 (.fin s 0 Core.b64.qmin)
    show Core.signed s (0 * _) = 0 * _
    rw [Nat.zero_mul, Core.signed_zero, Int.zero_mul]
  · by_cases hsm : v.natAbs ≤ 2 ^ 53
    · refine ⟨v, ⟨?_, fun w hw => by omega⟩, fun s hs => ?_⟩
      · exact own_L1 0 ⟨v, by simp⟩ (by simp; omega)
      · rcases hs with hs | rfl
        · exact absurd hs hz
        · exact Core.whole_round Core.good_b64 Core.wide_b64 hsm (Core.whole_ofInt v)
    · rcases Core.roundRatio_cases Core.b64 (decide (v < 0)) v.natAbs 1 0 with ⟨c, q, e⟩ | e
      · have fit := Core.roundRatio_fits Core.good_b64 (decide (v < 0)) v.natAbs (B := 1) (by decide) 0
        rw [e] at fit
        obtain ⟨hc, hq1, hq2, hcan⟩ := fit
        have hc' : c < 9007199254740992 := hc
        have hqm : Core.b64.qmin = -1074 := by decide
        have nr : ∀ (m k : Nat), m < 9007199254740992 → ((v.natAbs * 2 ^ 1074 : Nat) - (c * 2 ^ (q + 1074).toNat : Nat) : Int).natAbs ≤ ((v.natAbs * 2 ^ 1074 : Nat) - (m * 2 ^ k * 2 ^ 1074 : Nat) : Int).natAbs := fun m k hm => by
          have := Core.roundRatio_nearest Core.good_b64 (c' := m) (q' := (k : Int)) (e0 := Core.b64.qmin) (B := 1) (by decide) e hm (by rw [hqm]; omega) (Int.le_refl _) (by rw [hqm]; decide)
          unfold Core.distance Core.inUnits at this
          rw [hqm, show (0 - (-1074 : Int)).toNat = 1074 from rfl, show (q - -1074).toNat = (q + 1074).toNat by omega, show ((k : Int) - -1074).toNat = k + 1074 by omega, Nat.pow_add, ← Nat.mul_assoc] at this
          simpa using this
        have hD : 0 < 2 ^ 1074 := Nat.two_pow_pos 1074
        have big := nr 4503599627370496 1 (by decide)
        have hq : 0 ≤ q := by
          apply Int.le_of_not_gt; intro hneg
          have h1 : 2 ^ (q + 1074).toNat ≤ 2 ^ 1074 := Nat.pow_le_pow_right (by decide) (by omega)
          generalize 2 ^ (q + 1074).toNat = Y at *
          generalize 2 ^ 1074 = D at *
          have h2 : c * Y ≤ 9007199254740991 * D := Nat.mul_le_mul (by omega) h1
          have h3 : 9007199254740993 * D ≤ v.natAbs * D := Nat.mul_le_mul_right D (by omega)
          have h4 : 4503599627370496 * 2 ^ 1 * D = 9007199254740992 * D := by rw [show 4503599627370496 * 2 ^ 1 = 9007199254740992 from rfl]
          rw [h4] at big
          omega
        rw [show (q + 1074).toNat = q.toNat + 1074 by omega, Nat.pow_add, ← Nat.mul_assoc] at nr
        generalize hR : c * 2 ^ q.toNat = R at nr
        refine ⟨Core.signed (decide (v < 0)) R, ⟨⟨q.toNat, ?_, ?_⟩, fun w hw => ?_⟩, fun s hs => ?_⟩
        · apply Int.dvd_natAbs.mp
          rw [Core.natAbs_signed, ← hR]
          exact ⟨(c : Int), by rw [Int.natCast_mul, Int.natCast_pow, Int.mul_comm]; rfl⟩
        · rw [Core.natAbs_signed, ← hR, Int.natCast_mul, Int.natCast_pow]
          exact Int.mul_lt_mul_of_pos_right (by omega) (own_pp q.toNat)
        · obtain ⟨k, hk1, hk2⟩ := hw
          obtain ⟨m, hm⟩ := Int.dvd_natAbs.mpr hk1
          have hp := own_pp k
          have hm0 : 0 ≤ m := by
            apply Int.le_of_not_gt; intro q
            have := Int.mul_neg_of_pos_of_neg hp q
            omega
          obtain ⟨m', rfl⟩ := Int.eq_ofNat_of_zero_le hm0
          have hm' : m' < 9007199254740992 := by
            rw [hm, Int.mul_comm] at hk2
            have := Int.lt_of_mul_lt_mul_right hk2 (Int.le_of_lt hp)
            omega
          have hw' : w.natAbs = m' * 2 ^ k := by
            apply Int.natCast_inj.mp; rw [hm, Int.natCast_mul, Int.natCast_pow, Int.mul_comm]; rfl
          have := nr m' k hm'
          rw [← hw', Int.natCast_mul, Int.natCast_mul, Int.natCast_mul, ← Int.sub_mul, ← Int.sub_mul, Int.natAbs_mul, Int.natAbs_mul] at this
          have := Nat.le_of_mul_le_mul_right this (by rw [Int.natAbs_natCast]; exact hD)
          have e1 : v = Core.signed (decide (v < 0)) v.natAbs := by
            unfold Core.signed; by_cases hv : v < 0 <;> simp [hv] <;> omega
          unfold Core.signed
          by_cases hv : v < 0 <;> simp [hv] <;> omega
        · rcases hs with hs | rfl
          · exact absurd hs hz
          · rw [e]
            show Core.signed _ (c * 2 ^ q.toNat) = _ * _
            rw [hR, show (-q).toNat = 0 by omega]; simp
      · exfalso
        obtain ⟨a, rfl⟩ : ∃ a : Int64, a.toInt = v := ⟨Int64.ofInt v, Int64.toInt_ofInt_of_le (by omega) (by omega)⟩
        obtain ⟨c, q, hh⟩ := Core.l2d_shape a
        have h1 : Core.val64 (Core.l2d a) = Core.roundRatio Core.b64 (decide (a.toInt < 0)) a.toInt.natAbs 1 0 := Core.val64_l2d a
        rw [h1, e] at hh; cases hh
/-- rn: the rounding of whole numbers -/
def own_RN (rn : Int → Int) : Prop := ∀ v : Int, v.natAbs < 2 ^ 63 → own_near v (rn v) ∧ ∀ s : Bool, (v = 0 ∨ s = decide (v < 0)) → Core.Whole (rn v) (Core.roundRatio Core.b64 s v.natAbs 1 0)
theorem own_rnE : ∃ rn, own_RN rn := by
  classical
  refine ⟨fun v => if h : v.natAbs < 2 ^ 63 then Classical.choose (own_R h) else 0, fun v h => ?_⟩
  simp only [dif_pos h]
  exact Classical.choose_spec (own_R h)
variable {rn : Int → Int}
theorem own_dl (H : own_RN rn) {a : Int64} (h : a.toInt.natAbs < 2 ^ 63) : Core.DInt (rn a.toInt) (FP.l2d a) := by
  show Core.Whole _ (Core.val64 (Core.l2d a))
  rw [Core.val64_l2d]
  exact (H _ h).2 _ (Or.inr rfl)
theorem own_dsum (H : own_RN rn) {x y : Int} {d1 d2 : Core.Datum} (h1 : Core.Whole x d1) (h2 : Core.Whole y d2) (h : (x + y).natAbs < 2 ^ 63) : Core.Whole (rn (x + y)) (Core.round Core.b64 (Core.exactSum d1 d2)) := by
  have w := Core.whole_sum h1 h2
  cases hE : Core.exactSum d1 d2 with
  | nan => rw [hE] at w; exact w.elim
  | inf s => rw [hE] at w; exact w.elim
  | fin s c q =>
    rw [hE] at w
    rw [Core.round_whole w]
    refine (H _ h).2 s ?_
    by_cases hz : x + y = 0
    · exact Or.inl hz
    · exact Or.inr (Core.whole_sign w hz)
theorem own_da (H : own_RN rn) {x y : Int} {a b : UInt64} (ha : Core.DInt x a) (hb : Core.DInt y b) (h : (x + y).natAbs < 2 ^ 63) : Core.DInt (rn (x + y)) (FP.dadd a b) := by
  show Core.Whole _ (Core.val64 (Core.dadd a b))
  rw [Core.val64_dadd]; exact own_dsum H ha hb h
theorem own_ds (H : own_RN rn) {x y : Int} {a b : UInt64} (ha : Core.DInt x a) (hb : Core.DInt y b) (h : (x - y).natAbs < 2 ^ 63) : Core.DInt (rn (x - y)) (FP.dsub a b) := by
  show Core.Whole _ (Core.val64 (Core.dsub a b))
  rw [Core.val64_dsub, Int.sub_eq_add_neg]; exact own_dsum H ha (Core.whole_negate hb) (by rw [← Int.sub_eq_add_neg]; exact h)
theorem own_nn64 {x : Int} {a : UInt64} (ha : Core.DInt x a) : Jvm.Free.Fl.NoNaN64 a := by
  refine Jvm.Free.Fl.noNaN64_no.mpr ?_
  show decide (Core.val64 a = .nan) = false
  exact decide_eq_false (Core.Whole.ne_nan ha)
theorem own_dc {x : Int} {a b : UInt64} (ha : Core.DInt x a) (hb : Core.DInt x b) (o : CmpOp) : cmpValue (FP.dcmp a b) o = 0 := by
  have e : FP.dcmp a b = some .eq := by
    show Core.dcmp a b = _
    rw [Core.dcmp_int ha hb, Core.compare_ite, if_neg (by omega), if_pos rfl]
  rw [e]; rfl
theorem own_d2l {x : Int} {a : UInt64} (ha : Core.DInt x a) (h : x.natAbs < 2 ^ 63) : (FP.d2l a).toInt = x := by
  obtain ⟨b, rfl⟩ : ∃ b : Int64, b.toInt = x := ⟨Int64.ofInt x, Int64.toInt_ofInt_of_le (by omega) (by omega)⟩
  show (Core.d2l a).toInt = _
  rw [Core.d2l_int ha]
theorem own_err (H : own_RN rn) {v : Int} (h : v.natAbs < 2 ^ 63) : (v - rn v).natAbs ≤ 1024 := by
  have n := (H v h).1
  have r : own_Rep (v / 1024 * 1024) := own_L1 10 ⟨v / 1024, by rw [Int.mul_comm]; rfl⟩ (by show _ ≤ 9007199254740992 * 1024; omega)
  have := n.2 _ r
  omega
theorem own_ex (H : own_RN rn) {v : Int} (h : v.natAbs < 2 ^ 63) (hr : own_Rep v) : rn v = v := own_nex (H v h).1 hr
theorem own_sml {v : Int} (h : v.natAbs ≤ 9007199254740992) : own_Rep v := own_L1 0 ⟨v, by simp⟩ (by simp; omega)
theorem own_shr {x : Int64} {n : Int32} (h1 : (2 : Int32) ≤ n) (h2 : n ≤ (63 : Int32)) : (x >>> (n &&& 0x3f).toInt64).toInt.natAbs ≤ 2 ^ 61 := by
  have hn1 := Int32.le_iff_toInt_le.mp h1
  have hn2 := Int32.le_iff_toInt_le.mp h2
  rw [show (2 : Int32).toInt = 2 from rfl] at hn1
  rw [show (63 : Int32).toInt = 63 from rfl] at hn2
  obtain ⟨k, hk, hk2, rfl⟩ : ∃ k : Nat, 2 ≤ k ∧ k < 64 ∧ n = Int32.ofNat k := ⟨n.toInt.toNat, by omega, by omega, Int32.toInt_inj.mp (by rw [Int32.toInt_ofNat_of_lt (by omega)]; omega)⟩
  have e : ((((Int32.ofNat k) &&& 0x3f).toInt64).toBitVec.smod 64#64).toNat = k := (show ∀ k : Fin 64, ((((Int32.ofNat k.val) &&& 0x3f).toInt64).toBitVec.smod 64#64).toNat = k.val by decide +kernel) ⟨k, hk2⟩
  have e2 : (x >>> ((Int32.ofNat k) &&& 0x3f).toInt64).toBitVec = x.toBitVec.sshiftRight k := by
    show x.toBitVec.sshiftRight ((((Int32.ofNat k) &&& 0x3f).toInt64).toBitVec.smod 64#64).toNat = _
    rw [e]
  have e3 : (x >>> ((Int32.ofNat k) &&& 0x3f).toInt64).toInt = x.toInt / 2 ^ k := by
    show (x >>> ((Int32.ofNat k) &&& 0x3f).toInt64).toBitVec.toInt = _
    rw [e2, BitVec.toInt_sshiftRight, Int.shiftRight_eq_div_pow]; rfl
  rw [e3]
  have b1 := x.toInt_lt
  have b2 := x.le_toInt
  have p4 : (4 : Int) ≤ 2 ^ k := by
    obtain ⟨d, rfl⟩ := Nat.exists_eq_add_of_le hk
    rw [Int.pow_add]; have := own_pp d; omega
  generalize (2 : Int) ^ k = P at p4
  have d1 := Int.mul_ediv_add_emod x.toInt P
  have d2 := Int.emod_nonneg x.toInt (show P ≠ 0 by omega)
  have d3 := Int.emod_lt_of_pos x.toInt (show 0 < P by omega)
  generalize x.toInt / P = Q at *
  generalize x.toInt % P = M at *
  have hQ1 : Q ≤ 2 ^ 61 := by
    apply Int.le_of_not_gt; intro q
    have := Int.mul_le_mul p4 (show 2 ^ 61 + 1 ≤ Q by omega) (by decide) (by omega)
    omega
  have hQ2 : -(2 ^ 61) ≤ Q := by
    apply Int.le_of_not_gt; intro q
    have := Int.mul_le_mul_of_nonneg_left (show (2305843009213693953 : Int) ≤ -Q by omega) (show 0 ≤ P by omega)
    rw [Int.mul_neg] at this
    omega
  omega
def own_B (v : Int) : Prop := v.natAbs < 2 ^ 63
theorem own_b2 (H : own_RN rn) {v : Int} (h1 : -9223372036854775808 < v) (h2 : v < 9223372036854775808) : own_B v ∧ v - 1024 ≤ rn v ∧ rn v ≤ v + 1024 := by
  have h : v.natAbs < 2 ^ 63 := by omega
  have := own_err H h
  exact ⟨h, by omega, by omega⟩
theorem own_bds (H : own_RN rn) {vh vy vo : Int} (bh : -4611686018427396096 ≤ vh ∧ vh ≤ 4611686018427396096) (by_ : -2305843009213696000 ≤ vy ∧ vy ≤ 2305843009213696000) (bo : -4096 ≤ vo ∧ vo ≤ 4096) :
    own_B (vh + vy) ∧ own_B (rn (vh + vy) - vh) ∧ own_B (rn (vh + vy) - rn (rn (vh + vy) - vh)) ∧ own_B (vh - rn (rn (vh + vy) - rn (rn (vh + vy) - vh))) ∧ own_B (vy - rn (rn (vh + vy) - vh)) ∧ own_B (rn (vh - rn (rn (vh + vy) - rn (rn (vh + vy) - vh))) + rn (vy - rn (rn (vh + vy) - vh))) ∧ own_B (vo + rn (rn (vh - rn (rn (vh + vy) - rn (rn (vh + vy) - vh))) + rn (vy - rn (rn (vh + vy) - vh)))) ∧ own_B (vo + (vh + vy - rn (vh + vy))) ∧ own_Rep (vo + (vh + vy - rn (vh + vy))) := by
  obtain ⟨c1, a1, b1⟩ := own_b2 H (v := vh + vy) (by omega) (by omega)
  generalize rn (vh + vy) = t at *
  obtain ⟨c2, a2, b2⟩ := own_b2 H (v := t - vh) (by omega) (by omega)
  generalize rn (t - vh) = u at *
  obtain ⟨c3, a3, b3⟩ := own_b2 H (v := t - u) (by omega) (by omega)
  generalize rn (t - u) = d1 at *
  obtain ⟨c4, a4, b4⟩ := own_b2 H (v := vh - d1) (by omega) (by omega)
  generalize rn (vh - d1) = d2 at *
  obtain ⟨c5, a5, b5⟩ := own_b2 H (v := vy - u) (by omega) (by omega)
  generalize rn (vy - u) = d3 at *
  obtain ⟨c6, a6, b6⟩ := own_b2 H (v := d2 + d3) (by omega) (by omega)
  generalize rn (d2 + d3) = e at *
  obtain ⟨c7, a7, b7⟩ := own_b2 H (v := vo + e) (by omega) (by omega)
  obtain ⟨c8, a8, b8⟩ := own_b2 H (v := vo + (vh + vy - t)) (by omega) (by omega)
  exact ⟨c1, c2, c3, c4, c5, c6, c7, c8, own_sml (by omega)⟩
theorem own_lx (H : own_RN rn) {a p : Int64} {n : Int32} (h1 : (2 : Int32) ≤ n) (h2 : n ≤ (63 : Int32)) (e : p >>> (n &&& 0x3f).toInt64 = a) : ∃ v, Core.DInt v (FP.l2d a) ∧ own_Rep v ∧ -2305843009213696000 ≤ v ∧ v ≤ 2305843009213696000 := by
  have h := own_shr (x := p) h1 h2
  rw [e] at h
  have h' : a.toInt.natAbs < 2 ^ 63 := by omega
  have := own_err H h'
  exact ⟨rn a.toInt, own_dl H h', (H _ h').1.1, by omega, by omega⟩
end OwnFP
theorem own_d0 : Jvm.FP.Core.DInt 0 (0 : UInt64) := by
  show Jvm.FP.Core.Whole 0 (Jvm.FP.Core.val64 Jvm.FP.Core.dconst0)
  rw [Jvm.FP.Core.val64_dconst0]
  show Jvm.FP.Core.signed false (0 * _) = 0 * _
  rw [Nat.zero_mul, Jvm.FP.Core.signed_zero, Int.zero_mul]
theorem own_lc {x y : Int64} (h : x = y) : lcmpW x y = 0 := by subst h; simp [lcmpW]
theorem own_kk (x : Int32) : (2 : Int32) ≤ (2 : Int32) + (x &&& (63 : Int32)) % (62 : Int32) ∧ (2 : Int32) + (x &&& (63 : Int32)) % (62 : Int32) ≤ (63 : Int32) := by
  have h1 : (x &&& (63 : Int32)).toInt = x.toInt % (2 ^ 6 : Nat) := c_mask x 63 6 (by decide) (by decide)
  generalize x &&& (63 : Int32) = y at h1 ⊢
  obtain ⟨k, rfl⟩ : ∃ k : Fin 64, y = Int32.ofNat k.val := ⟨⟨y.toInt.toNat, by omega⟩, Int32.toInt_inj.mp (by rw [Int32.toInt_ofNat_of_lt (by simp only []; omega)]; simp only []; omega)⟩
  exact (show ∀ k : Fin 64, (2 : Int32) ≤ (2 : Int32) + Int32.ofNat k.val % (62 : Int32) ∧ (2 : Int32) + Int32.ofNat k.val % (62 : Int32) ≤ (63 : Int32) by decide +kernel) k
theorem own_sum2 {a b c d : Int64} (h : a.toInt + b.toInt = c.toInt + d.toInt) (h1 : (a.toInt + b.toInt).natAbs < 9223372036854775808) : a + b = c + d := by
  apply Int64.toInt_inj.mp
  rw [Jvm.FP.Core.int64_add (by omega) (by omega), Jvm.FP.Core.int64_add (by omega) (by omega), h]
theorem own_sum3 {a b c d f : Int64} (h : a.toInt + b.toInt = c.toInt + d.toInt + f.toInt) (h1 : (a.toInt + b.toInt).natAbs < 9223372036854775808) (h2 : (c.toInt + d.toInt).natAbs < 9223372036854775808) : a + b = c + d + f := by
  apply Int64.toInt_inj.mp
  rw [Jvm.FP.Core.int64_add (by omega) (by omega), Jvm.FP.Core.int64_add (a := c + d) (b := f) (by rw [Jvm.FP.Core.int64_add (by omega) (by omega)]; omega) (by rw [Jvm.FP.Core.int64_add (by omega) (by omega)]; omega), Jvm.FP.Core.int64_add (by omega) (by omega), h]
theorem d1_0 : decode prog_46_method_1_code 0 = .ok (.aload_n 0, 1) := by decide +kernel
theorem d1_1 : decode prog_46_method_1_code 1 = .ok (.invokespecial 1, 3) := by decide +kernel
theorem d1_4 : decode prog_46_method_1_code 4 = .ok (.return_, 1) := by decide +kernel
theorem pn_com_example_nosto_nosto_LogProduct : plainName "com/example/nosto/nosto/LogProduct" = true := by first | (simp [plainName, overriddenIn]; done) | decide +kernel
theorem ef_init (m : MethodId) (x0 : Addr) : entryFrame m #[(.ref x0)] 1 = mkF m 0 #[.val (.ref x0)] [] := by first | (simp [entryFrame, mkF, argsToLocals, Value.category]; done) | rfl
def Qinit (Z : State) (a1 : Addr) (h0 : Heap) (n0 : Nat) (v : Option Value) (h : Heap) (L : List Loc) : Prop := v = none ∧ Fr n0 L ∧ h = h0
abbrev Ginit (Z : State) (a1 : Addr) (h0 : Heap) (n0 : Nat) (s : State) : Outcome → State → Prop := fun o U' => ∃ v L, o = .returned v ∧ Qinit Z a1 h0 n0 v U'.heap L ∧ FrameEnd s o U' L ({ frames := 1, cells := 0, slots := 0, locals := 12 } : Room).cells ({ frames := 1, cells := 0, slots := 0, locals := 12 } : Room).slots
set_option maxRecDepth 65536 in
set_option maxHeartbeats 40000000 in
theorem rminit (l : Launch) (Z : State) (a0 : Array Value) (hw : ∀ d ∈ tables_1, d.before a0 Z = true) (ws : List Jvm.Cond) (a1 : Addr) (h0 : Heap) (n0 : Nat) (Z0 : n0 ≤ h0.size)  :
    MetFree l (⟨"com/example/nosto/nosto/LogProduct", "<init>", "()V"⟩ : MethodName) (head1 (Jvm.Cond.code (⟨"com/example/nosto/nosto/LogProduct", "<init>", "()V"⟩ : MethodName) prog_46_method_1_code 1 none :: ws) ({ frames := 1, cells := 0, slots := 0, locals := 12 } : Room)) (fun a U => a = #[(.ref a1)] ∧ Z.Warmed39 U.vm ∧ U.heap = h0) (fun _ _ _ _ _ => True) (fun _ U o U' => ∃ v L, o = .returned v ∧ Qinit Z a1 h0 n0 v U'.heap L ∧ FrameEnd U o U' L ({ frames := 1, cells := 0, slots := 0, locals := 12 } : Room).cells ({ frames := 1, cells := 0, slots := 0, locals := 12 } : Room).slots) := by
  refine MetFree.of_bodySF (plainFor_of_name pn_com_example_nosto_nosto_LogProduct) hisR ?_
  intro p e s m args below meth c s₁ Bd hml0 hP hK
  obtain ⟨rfl, hZ, hh⟩ := hP
  have hx := Bd.exec
  have hby := Bd.bytes
  have hml : c.maxLocals = 1 := hml0
  have hown : s.vm.findClass "com/example/nosto/nosto/LogProduct" = some m.cls := findClass_of_methodNamed Bd.named
  have hnm := (name_of_methodNamed Bd.named Bd.method).1
  have X0 : Stand p l e ({ frames := 1, cells := 0, slots := 0, locals := 12 } : Room) s m #[(.ref a1)] below meth c s₁ [] 0 0 := Stand.of_body Bd
  have e0 : s₁.heap = h0 := by rw [← hh, Bd.state]; rfl
  have es0 : s.heap = h0 := hh
  have N0 := Fr.nil n0
  show own_Fin p e below (Ginit Z a1 h0 n0 s) (s₁.setTop (entryFrame m #[(.ref a1)] 1))
  rw [ef_init m a1]
  refine own_go (XS.aloadN X0.here hx rfl (hb hby d1_0) rfl rfl (Steps.refl _)) ?_
  show own_Fin _ _ _ _ (s₁.setTop (mkF m 1 #[rv a1] [(.ref a1)]))
  obtain ⟨T1, X1, e1, st1⟩ := initO X0 hx hZ hown (hw _ (List.mem_of_getElem? (i := 6) rfl)) (hw _ (List.mem_of_getElem? (i := 7) rfl)) (hw _ (List.mem_of_getElem? (i := 8) rfl)) e0 (g := (mkF m 1 #[rv a1] [(.ref a1)])) rfl (by rw [hml]; rfl) rfl (hb hby d1_1) (by decide) (W := 0) (by show 2 * 0 + _ ≤ _; exact Nat.le_of_eq rfl) (by decide)
  refine own_by st1 ?_
  show own_Fin _ _ _ _ (T1.setTop (mkF m 4 #[rv a1] []))
  obtain ⟨fs2, hr2, hrun2, hended2, hW2, hsame2⟩ := X1.leave (v := none) (fun _ => rfl)
  refine own_done (X1.returnOut hx Bd.returns (hb hby d1_4) hr2) hrun2 hended2 ⟨_, _, rfl, ?_, ⟨_, rfl⟩, hW2, hsame2.mono (by decide) (by decide)⟩
  show Qinit Z a1 h0 n0 _ T1.heap _
  rw [e1]
  exact ⟨rfl, N0, rfl⟩
theorem d4_0 : decode prog_46_method_4_code 0 = .ok (.aload_n 0, 1) := by decide +kernel
theorem d4_1 : decode prog_46_method_4_code 1 = .ok (.getfield 7, 3) := by decide +kernel
theorem d4_4 : decode prog_46_method_4_code 4 = .ok (.dreturn, 1) := by decide +kernel
theorem ef_hi (m : MethodId) (x0 : Addr) : entryFrame m #[(.ref x0)] 1 = mkF m 0 #[.val (.ref x0)] [] := by first | (simp [entryFrame, mkF, argsToLocals, Value.category]; done) | rfl
def Qhi (Z : State) (a1 : Addr) (x : UInt64) (h0 : Heap) (n0 : Nat) (v : Option Value) (h : Heap) (L : List Loc) : Prop := v = some (.double x) ∧ Fr n0 L ∧ h = h0
abbrev Ghi (Z : State) (a1 : Addr) (x : UInt64) (h0 : Heap) (n0 : Nat) (s : State) : Outcome → State → Prop := fun o U' => ∃ v L, o = .returned v ∧ Qhi Z a1 x h0 n0 v U'.heap L ∧ FrameEnd s o U' L ({ frames := 0, cells := 0, slots := 0, locals := 0 } : Room).cells ({ frames := 0, cells := 0, slots := 0, locals := 0 } : Room).slots
set_option maxRecDepth 65536 in
set_option maxHeartbeats 40000000 in
theorem rmhi (l : Launch) (Z : State) (a0 : Array Value) (hw : ∀ d ∈ tables_1, d.before a0 Z = true) (ws : List Jvm.Cond) (a1 : Addr) (x : UInt64) (h0 : Heap) (n0 : Nat) (Z0 : n0 ≤ h0.size) (F_hi_a1 : Fld Z h0 a1 "com/example/nosto/nosto/LogProduct" "hi" "D" (.double x)) :
    MetFree l (⟨"com/example/nosto/nosto/LogProduct", "hi", "()D"⟩ : MethodName) (head1 (Jvm.Cond.code (⟨"com/example/nosto/nosto/LogProduct", "hi", "()D"⟩ : MethodName) prog_46_method_4_code 1 (some .double) :: ws) ({ frames := 0, cells := 0, slots := 0, locals := 0 } : Room)) (fun a U => a = #[(.ref a1)] ∧ Z.Warmed39 U.vm ∧ U.heap = h0) (fun _ _ _ _ _ => True) (fun _ U o U' => ∃ v L, o = .returned v ∧ Qhi Z a1 x h0 n0 v U'.heap L ∧ FrameEnd U o U' L ({ frames := 0, cells := 0, slots := 0, locals := 0 } : Room).cells ({ frames := 0, cells := 0, slots := 0, locals := 0 } : Room).slots) := by
  refine MetFree.of_bodySF (plainFor_of_name pn_com_example_nosto_nosto_LogProduct) hisR ?_
  intro p e s m args below meth c s₁ Bd hml0 hP hK
  obtain ⟨rfl, hZ, hh⟩ := hP
  have hx := Bd.exec
  have hby := Bd.bytes
  have hml : c.maxLocals = 1 := hml0
  have hown : s.vm.findClass "com/example/nosto/nosto/LogProduct" = some m.cls := findClass_of_methodNamed Bd.named
  have hnm := (name_of_methodNamed Bd.named Bd.method).1
  have X0 : Stand p l e ({ frames := 0, cells := 0, slots := 0, locals := 0 } : Room) s m #[(.ref a1)] below meth c s₁ [] 0 0 := Stand.of_body Bd
  have e0 : s₁.heap = h0 := by rw [← hh, Bd.state]; rfl
  have es0 : s.heap = h0 := hh
  have N0 := Fr.nil n0
  show own_Fin p e below (Ghi Z a1 x h0 n0 s) (s₁.setTop (entryFrame m #[(.ref a1)] 1))
  rw [ef_hi m a1]
  refine own_go (XS.aloadN X0.here hx rfl (hb hby d4_0) rfl rfl (Steps.refl _)) ?_
  show own_Fin _ _ _ _ (s₁.setTop (mkF m 1 #[rv a1] [(.ref a1)]))
  obtain ⟨T3, X3, e3, st3⟩ := getF X0 hx hZ hown (host := "") (Or.inl (hw _ (List.mem_of_getElem? (i := 14) rfl))) Via.refl e0 F_hi_a1 (g := (mkF m 1 #[rv a1] [(.ref a1)])) rfl rfl (hb hby d4_1)
  refine own_by st3 ?_
  show own_Fin _ _ _ _ (T3.setTop (mkF m 4 #[rv a1] [(.double x)]))
  obtain ⟨fs4, hr4, hrun4, hended4, hW4, hsame4⟩ := X3.leave (v := some (.double x)) (fun h => by rw [Bd.returns] at h; cases h)
  refine own_done (retOut X3 hx Bd.returns rfl (Or.inr (Or.inr (Or.inl ⟨rfl, rfl, _, rfl⟩))) (hb hby d4_4) hr4) hrun4 hended4 ⟨_, _, rfl, ?_, ⟨_, rfl⟩, hW4, hsame4.mono (by decide) (by decide)⟩
  show Qhi Z a1 x h0 n0 _ T3.heap _
  rw [e3]
  exact ⟨rfl, N0, rfl⟩
theorem d5_0 : decode prog_46_method_5_code 0 = .ok (.aload_n 0, 1) := by decide +kernel
theorem d5_1 : decode prog_46_method_5_code 1 = .ok (.getfield 13, 3) := by decide +kernel
theorem d5_4 : decode prog_46_method_5_code 4 = .ok (.dreturn, 1) := by decide +kernel
theorem ef_lo (m : MethodId) (x0 : Addr) : entryFrame m #[(.ref x0)] 1 = mkF m 0 #[.val (.ref x0)] [] := by first | (simp [entryFrame, mkF, argsToLocals, Value.category]; done) | rfl
def Qlo (Z : State) (a1 : Addr) (x : UInt64) (h0 : Heap) (n0 : Nat) (v : Option Value) (h : Heap) (L : List Loc) : Prop := v = some (.double x) ∧ Fr n0 L ∧ h = h0
abbrev Glo (Z : State) (a1 : Addr) (x : UInt64) (h0 : Heap) (n0 : Nat) (s : State) : Outcome → State → Prop := fun o U' => ∃ v L, o = .returned v ∧ Qlo Z a1 x h0 n0 v U'.heap L ∧ FrameEnd s o U' L ({ frames := 0, cells := 0, slots := 0, locals := 0 } : Room).cells ({ frames := 0, cells := 0, slots := 0, locals := 0 } : Room).slots
set_option maxRecDepth 65536 in
set_option maxHeartbeats 40000000 in
theorem rmlo (l : Launch) (Z : State) (a0 : Array Value) (hw : ∀ d ∈ tables_1, d.before a0 Z = true) (ws : List Jvm.Cond) (a1 : Addr) (x : UInt64) (h0 : Heap) (n0 : Nat) (Z0 : n0 ≤ h0.size) (F_lo_a1 : Fld Z h0 a1 "com/example/nosto/nosto/LogProduct" "lo" "D" (.double x)) :
    MetFree l (⟨"com/example/nosto/nosto/LogProduct", "lo", "()D"⟩ : MethodName) (head1 (Jvm.Cond.code (⟨"com/example/nosto/nosto/LogProduct", "lo", "()D"⟩ : MethodName) prog_46_method_5_code 1 (some .double) :: ws) ({ frames := 0, cells := 0, slots := 0, locals := 0 } : Room)) (fun a U => a = #[(.ref a1)] ∧ Z.Warmed39 U.vm ∧ U.heap = h0) (fun _ _ _ _ _ => True) (fun _ U o U' => ∃ v L, o = .returned v ∧ Qlo Z a1 x h0 n0 v U'.heap L ∧ FrameEnd U o U' L ({ frames := 0, cells := 0, slots := 0, locals := 0 } : Room).cells ({ frames := 0, cells := 0, slots := 0, locals := 0 } : Room).slots) := by
  refine MetFree.of_bodySF (plainFor_of_name pn_com_example_nosto_nosto_LogProduct) hisR ?_
  intro p e s m args below meth c s₁ Bd hml0 hP hK
  obtain ⟨rfl, hZ, hh⟩ := hP
  have hx := Bd.exec
  have hby := Bd.bytes
  have hml : c.maxLocals = 1 := hml0
  have hown : s.vm.findClass "com/example/nosto/nosto/LogProduct" = some m.cls := findClass_of_methodNamed Bd.named
  have hnm := (name_of_methodNamed Bd.named Bd.method).1
  have X0 : Stand p l e ({ frames := 0, cells := 0, slots := 0, locals := 0 } : Room) s m #[(.ref a1)] below meth c s₁ [] 0 0 := Stand.of_body Bd
  have e0 : s₁.heap = h0 := by rw [← hh, Bd.state]; rfl
  have es0 : s.heap = h0 := hh
  have N0 := Fr.nil n0
  show own_Fin p e below (Glo Z a1 x h0 n0 s) (s₁.setTop (entryFrame m #[(.ref a1)] 1))
  rw [ef_lo m a1]
  refine own_go (XS.aloadN X0.here hx rfl (hb hby d5_0) rfl rfl (Steps.refl _)) ?_
  show own_Fin _ _ _ _ (s₁.setTop (mkF m 1 #[rv a1] [(.ref a1)]))
  obtain ⟨T5, X5, e5, st5⟩ := getF X0 hx hZ hown (host := "") (Or.inl (hw _ (List.mem_of_getElem? (i := 16) rfl))) Via.refl e0 F_lo_a1 (g := (mkF m 1 #[rv a1] [(.ref a1)])) rfl rfl (hb hby d5_1)
  refine own_by st5 ?_
  show own_Fin _ _ _ _ (T5.setTop (mkF m 4 #[rv a1] [(.double x)]))
  obtain ⟨fs6, hr6, hrun6, hended6, hW6, hsame6⟩ := X5.leave (v := some (.double x)) (fun h => by rw [Bd.returns] at h; cases h)
  refine own_done (retOut X5 hx Bd.returns rfl (Or.inr (Or.inr (Or.inl ⟨rfl, rfl, _, rfl⟩))) (hb hby d5_4) hr6) hrun6 hended6 ⟨_, _, rfl, ?_, ⟨_, rfl⟩, hW6, hsame6.mono (by decide) (by decide)⟩
  show Qlo Z a1 x h0 n0 _ T5.heap _
  rw [e5]
  exact ⟨rfl, N0, rfl⟩
theorem d3_0 : decode prog_46_method_6_code 0 = .ok (.aload_n 0, 1) := by decide +kernel
theorem d3_1 : decode prog_46_method_6_code 1 = .ok (.getfield 7, 3) := by decide +kernel
theorem d3_4 : decode prog_46_method_6_code 4 = .ok (.dload_n 1, 1) := by decide +kernel
theorem d3_5 : decode prog_46_method_6_code 5 = .ok (.dadd, 1) := by decide +kernel
theorem d3_6 : decode prog_46_method_6_code 6 = .ok (.dstore_n 3, 1) := by decide +kernel
theorem d3_7 : decode prog_46_method_6_code 7 = .ok (.dload_n 3, 1) := by decide +kernel
theorem d3_8 : decode prog_46_method_6_code 8 = .ok (.aload_n 0, 1) := by decide +kernel
theorem d3_9 : decode prog_46_method_6_code 9 = .ok (.getfield 7, 3) := by decide +kernel
theorem d3_12 : decode prog_46_method_6_code 12 = .ok (.dsub, 1) := by decide +kernel
theorem d3_13 : decode prog_46_method_6_code 13 = .ok (.dstore 5, 2) := by decide +kernel
theorem d3_15 : decode prog_46_method_6_code 15 = .ok (.aload_n 0, 1) := by decide +kernel
theorem d3_16 : decode prog_46_method_6_code 16 = .ok (.dup, 1) := by decide +kernel
theorem d3_17 : decode prog_46_method_6_code 17 = .ok (.getfield 13, 3) := by decide +kernel
theorem d3_20 : decode prog_46_method_6_code 20 = .ok (.aload_n 0, 1) := by decide +kernel
theorem d3_21 : decode prog_46_method_6_code 21 = .ok (.getfield 7, 3) := by decide +kernel
theorem d3_24 : decode prog_46_method_6_code 24 = .ok (.dload_n 3, 1) := by decide +kernel
theorem d3_25 : decode prog_46_method_6_code 25 = .ok (.dload 5, 2) := by decide +kernel
theorem d3_27 : decode prog_46_method_6_code 27 = .ok (.dsub, 1) := by decide +kernel
theorem d3_28 : decode prog_46_method_6_code 28 = .ok (.dsub, 1) := by decide +kernel
theorem d3_29 : decode prog_46_method_6_code 29 = .ok (.dload_n 1, 1) := by decide +kernel
theorem d3_30 : decode prog_46_method_6_code 30 = .ok (.dload 5, 2) := by decide +kernel
theorem d3_32 : decode prog_46_method_6_code 32 = .ok (.dsub, 1) := by decide +kernel
theorem d3_33 : decode prog_46_method_6_code 33 = .ok (.dadd, 1) := by decide +kernel
theorem d3_34 : decode prog_46_method_6_code 34 = .ok (.dadd, 1) := by decide +kernel
theorem d3_35 : decode prog_46_method_6_code 35 = .ok (.putfield 13, 3) := by decide +kernel
theorem d3_38 : decode prog_46_method_6_code 38 = .ok (.aload_n 0, 1) := by decide +kernel
theorem d3_39 : decode prog_46_method_6_code 39 = .ok (.dload_n 3, 1) := by decide +kernel
theorem d3_40 : decode prog_46_method_6_code 40 = .ok (.putfield 7, 3) := by decide +kernel
theorem d3_43 : decode prog_46_method_6_code 43 = .ok (.return_, 1) := by decide +kernel
theorem ef_add (m : MethodId) (x0 : Addr) (x1 : UInt64) : entryFrame m #[(.ref x0), (.double x1)] 7 = mkF m 0 #[.val (.ref x0), .val (.double x1), .second, .unset, .unset, .unset, .unset] [] := by first | (simp [entryFrame, mkF, argsToLocals, Value.category]; done) | rfl
def Qadd (Z : State) (a1 : Addr) (dz : UInt64) (du : UInt64) (dw : UInt64) (vh : Int) (vo : Int) (vy : Int) (rn : Int → Int) (h0 : Heap) (n0 : Nat) (v : Option Value) (h : Heap) (L : List Loc) : Prop := ∃ (u2 : UInt64) (w2 : UInt64), v = none ∧ Fr n0 L ∧ Keep h0 h [a1] ∧ Exa Z h a1 "com/example/nosto/nosto/LogProduct" ∧ Fld Z h a1 "com/example/nosto/nosto/LogProduct" "hi" "D" (.double u2) ∧ Fld Z h a1 "com/example/nosto/nosto/LogProduct" "lo" "D" (.double w2) ∧ Jvm.FP.Core.DInt (rn (vh + vy)) u2 ∧ Jvm.FP.Core.DInt (vo + (vh + vy - rn (vh + vy))) w2
abbrev Gadd (Z : State) (a1 : Addr) (dz : UInt64) (du : UInt64) (dw : UInt64) (vh : Int) (vo : Int) (vy : Int) (rn : Int → Int) (h0 : Heap) (n0 : Nat) (s : State) : Outcome → State → Prop := fun o U' => ∃ v L, o = .returned v ∧ Qadd Z a1 dz du dw vh vo vy rn h0 n0 v U'.heap L ∧ FrameEnd s o U' L ({ frames := 0, cells := 0, slots := 0, locals := 0 } : Room).cells ({ frames := 0, cells := 0, slots := 0, locals := 0 } : Room).slots
set_option maxRecDepth 65536 in
set_option maxHeartbeats 40000000 in
theorem rmadd (l : Launch) (Z : State) (a0 : Array Value) (hw : ∀ d ∈ tables_1, d.before a0 Z = true) (ws : List Jvm.Cond) (a1 : Addr) (dz : UInt64) (du : UInt64) (dw : UInt64) (vh : Int) (vo : Int) (vy : Int) (rn : Int → Int) (h0 : Heap) (n0 : Nat) (Z0 : n0 ≤ h0.size) (E_a1 : Exa Z h0 a1 "com/example/nosto/nosto/LogProduct") (F_hi_a1 : Fld Z h0 a1 "com/example/nosto/nosto/LogProduct" "hi" "D" (.double du)) (F_lo_a1 : Fld Z h0 a1 "com/example/nosto/nosto/LogProduct" "lo" "D" (.double dw)) (g_a1 : n0 ≤ a1) (H : own_RN rn) (dHu : Jvm.FP.Core.DInt (vh) du) (dHw : Jvm.FP.Core.DInt (vo) dw) (dHz : Jvm.FP.Core.DInt (vy) dz) (rh : own_Rep vh) (ry : own_Rep vy) (bh : -4611686018427396096 ≤ vh ∧ vh ≤ 4611686018427396096) (by_ : -2305843009213696000 ≤ vy ∧ vy ≤ 2305843009213696000) (bo : -4096 ≤ vo ∧ vo ≤ 4096) :
    MetFree l (⟨"com/example/nosto/nosto/LogProduct", "add", "(D)V"⟩ : MethodName) (head1 (Jvm.Cond.code (⟨"com/example/nosto/nosto/LogProduct", "add", "(D)V"⟩ : MethodName) prog_46_method_6_code 7 none :: ws) ({ frames := 0, cells := 0, slots := 0, locals := 0 } : Room)) (fun a U => a = #[(.ref a1), (.double dz)] ∧ Z.Warmed39 U.vm ∧ U.heap = h0) (fun _ _ _ _ _ => True) (fun _ U o U' => ∃ v L, o = .returned v ∧ Qadd Z a1 dz du dw vh vo vy rn h0 n0 v U'.heap L ∧ FrameEnd U o U' L ({ frames := 0, cells := 0, slots := 0, locals := 0 } : Room).cells ({ frames := 0, cells := 0, slots := 0, locals := 0 } : Room).slots) := by
  refine MetFree.of_bodySF (plainFor_of_name pn_com_example_nosto_nosto_LogProduct) hisR ?_
  intro p e s m args below meth c s₁ Bd hml0 hP hK
  obtain ⟨rfl, hZ, hh⟩ := hP
  have hx := Bd.exec
  have hby := Bd.bytes
  have hml : c.maxLocals = 7 := hml0
  have hown : s.vm.findClass "com/example/nosto/nosto/LogProduct" = some m.cls := findClass_of_methodNamed Bd.named
  have hnm := (name_of_methodNamed Bd.named Bd.method).1
  have X0 : Stand p l e ({ frames := 0, cells := 0, slots := 0, locals := 0 } : Room) s m #[(.ref a1), (.double dz)] below meth c s₁ [] 0 0 := Stand.of_body Bd
  have e0 : s₁.heap = h0 := by rw [← hh, Bd.state]; rfl
  have es0 : s.heap = h0 := hh
  have N0 := Fr.nil n0
  show own_Fin p e below (Gadd Z a1 dz du dw vh vo vy rn h0 n0 s) (s₁.setTop (entryFrame m #[(.ref a1), (.double dz)] 7))
  rw [ef_add m a1 dz]
  have Kz := Keep.refl h0 [a1]
  obtain ⟨hB0, hB1, hB2, hB3, hB4, hB5, hB6, hBx, hRx⟩ := own_bds H bh by_ bo
  refine own_go (XS.aloadN X0.here hx rfl (hb hby d3_0) rfl rfl (Steps.refl _)) ?_
  show own_Fin _ _ _ _ (s₁.setTop (mkF m 1 #[rv a1, .val (.double dz), .second, .unset, .unset, .unset, .unset] [(.ref a1)]))
  obtain ⟨T7, X7, e7, st7⟩ := getF X0 hx hZ hown (host := "") (Or.inl (hw _ (List.mem_of_getElem? (i := 14) rfl))) Via.refl e0 F_hi_a1 (g := (mkF m 1 #[rv a1, .val (.double dz), .second, .unset, .unset, .unset, .unset] [(.ref a1)])) rfl rfl (hb hby d3_1)
  refine own_by st7 ?_
  show own_Fin _ _ _ _ (T7.setTop (mkF m 4 #[rv a1, .val (.double dz), .second, .unset, .unset, .unset, .unset] [(.double du)]))
  refine own_go (XS.dloadN X7.here hx rfl (hb hby d3_4) rfl (Steps.refl _)) ?_
  show own_Fin _ _ _ _ (T7.setTop (mkF m 5 #[rv a1, .val (.double dz), .second, .unset, .unset, .unset, .unset] [(.double dz), (.double du)]))
  have hd8 : Jvm.FP.Core.DInt (rn (vh + vy)) (FP.dadd du dz) := own_da H dHu dHz hB0
  refine own_go (XS.daddS X7.here hx rfl (hb hby d3_5) rfl (own_nn64 hd8) rfl (Steps.refl _)) ?_
  show own_Fin _ _ _ _ (T7.setTop (mkF m 6 #[rv a1, .val (.double dz), .second, .unset, .unset, .unset, .unset] [(.double (FP.dadd du dz))]))
  refine own_go (XS.dstoreN X7.here hx rfl (hb hby d3_6) rfl rfl (Steps.refl _)) ?_
  show own_Fin _ _ _ _ (T7.setTop (mkF m 7 #[rv a1, .val (.double dz), .second, .val (.double (FP.dadd du dz)), .second, .unset, .unset] []))
  refine own_go (XS.dloadN X7.here hx rfl (hb hby d3_7) rfl (Steps.refl _)) ?_
  show own_Fin _ _ _ _ (T7.setTop (mkF m 8 #[rv a1, .val (.double dz), .second, .val (.double (FP.dadd du dz)), .second, .unset, .unset] [(.double (FP.dadd du dz))]))
  refine own_go (XS.aloadN X7.here hx rfl (hb hby d3_8) rfl rfl (Steps.refl _)) ?_
  show own_Fin _ _ _ _ (T7.setTop (mkF m 9 #[rv a1, .val (.double dz), .second, .val (.double (FP.dadd du dz)), .second, .unset, .unset] [(.ref a1), (.double (FP.dadd du dz))]))
  obtain ⟨T9, X9, e9, st9⟩ := getF X7 hx hZ hown (host := "") (Or.inl (hw _ (List.mem_of_getElem? (i := 14) rfl))) Via.refl e7 F_hi_a1 (g := (mkF m 9 #[rv a1, .val (.double dz), .second, .val (.double (FP.dadd du dz)), .second, .unset, .unset] [(.ref a1), (.double (FP.dadd du dz))])) rfl rfl (hb hby d3_9)
  refine own_by st9 ?_
  show own_Fin _ _ _ _ (T9.setTop (mkF m 12 #[rv a1, .val (.double dz), .second, .val (.double (FP.dadd du dz)), .second, .unset, .unset] [(.double du), (.double (FP.dadd du dz))]))
  have hd10 : Jvm.FP.Core.DInt (rn (rn (vh + vy) - vh)) (FP.dsub (FP.dadd du dz) du) := own_ds H hd8 dHu hB1
  refine own_go (XS.dsubS X9.here hx rfl (hb hby d3_12) rfl (own_nn64 hd10) rfl (Steps.refl _)) ?_
  show own_Fin _ _ _ _ (T9.setTop (mkF m 13 #[rv a1, .val (.double dz), .second, .val (.double (FP.dadd du dz)), .second, .unset, .unset] [(.double (FP.dsub (FP.dadd du dz) du))]))
  refine own_go (XS.dstore X9.here hx rfl (hb hby d3_13) rfl rfl (Steps.refl _)) ?_
  show own_Fin _ _ _ _ (T9.setTop (mkF m 15 #[rv a1, .val (.double dz), .second, .val (.double (FP.dadd du dz)), .second, .val (.double (FP.dsub (FP.dadd du dz) du)), .second] []))
  refine own_go (XS.aloadN X9.here hx rfl (hb hby d3_15) rfl rfl (Steps.refl _)) ?_
  show own_Fin _ _ _ _ (T9.setTop (mkF m 16 #[rv a1, .val (.double dz), .second, .val (.double (FP.dadd du dz)), .second, .val (.double (FP.dsub (FP.dadd du dz) du)), .second] [(.ref a1)]))
  refine own_go (XS.dup X9.here hx rfl (hb hby d3_16) rfl rfl (Steps.refl _)) ?_
  show own_Fin _ _ _ _ (T9.setTop (mkF m 17 #[rv a1, .val (.double dz), .second, .val (.double (FP.dadd du dz)), .second, .val (.double (FP.dsub (FP.dadd du dz) du)), .second] [(.ref a1), (.ref a1)]))
  obtain ⟨T11, X11, e11, st11⟩ := getF X9 hx hZ hown (host := "") (Or.inl (hw _ (List.mem_of_getElem? (i := 16) rfl))) Via.refl e9 F_lo_a1 (g := (mkF m 17 #[rv a1, .val (.double dz), .second, .val (.double (FP.dadd du dz)), .second, .val (.double (FP.dsub (FP.dadd du dz) du)), .second] [(.ref a1), (.ref a1)])) rfl rfl (hb hby d3_17)
  refine own_by st11 ?_
  show own_Fin _ _ _ _ (T11.setTop (mkF m 20 #[rv a1, .val (.double dz), .second, .val (.double (FP.dadd du dz)), .second, .val (.double (FP.dsub (FP.dadd du dz) du)), .second] [(.double dw), (.ref a1)]))
  refine own_go (XS.aloadN X11.here hx rfl (hb hby d3_20) rfl rfl (Steps.refl _)) ?_
  show own_Fin _ _ _ _ (T11.setTop (mkF m 21 #[rv a1, .val (.double dz), .second, .val (.double (FP.dadd du dz)), .second, .val (.double (FP.dsub (FP.dadd du dz) du)), .second] [(.ref a1), (.double dw), (.ref a1)]))
  obtain ⟨T12, X12, e12, st12⟩ := getF X11 hx hZ hown (host := "") (Or.inl (hw _ (List.mem_of_getElem? (i := 14) rfl))) Via.refl e11 F_hi_a1 (g := (mkF m 21 #[rv a1, .val (.double dz), .second, .val (.double (FP.dadd du dz)), .second, .val (.double (FP.dsub (FP.dadd du dz) du)), .second] [(.ref a1), (.double dw), (.ref a1)])) rfl rfl (hb hby d3_21)
  refine own_by st12 ?_
  show own_Fin _ _ _ _ (T12.setTop (mkF m 24 #[rv a1, .val (.double dz), .second, .val (.double (FP.dadd du dz)), .second, .val (.double (FP.dsub (FP.dadd du dz) du)), .second] [(.double du), (.double dw), (.ref a1)]))
  refine own_go (XS.dloadN X12.here hx rfl (hb hby d3_24) rfl (Steps.refl _)) ?_
  show own_Fin _ _ _ _ (T12.setTop (mkF m 25 #[rv a1, .val (.double dz), .second, .val (.double (FP.dadd du dz)), .second, .val (.double (FP.dsub (FP.dadd du dz) du)), .second] [(.double (FP.dadd du dz)), (.double du), (.double dw), (.ref a1)]))
  refine own_go (XS.dload X12.here hx rfl (hb hby d3_25) rfl (Steps.refl _)) ?_
  show own_Fin _ _ _ _ (T12.setTop (mkF m 27 #[rv a1, .val (.double dz), .second, .val (.double (FP.dadd du dz)), .second, .val (.double (FP.dsub (FP.dadd du dz) du)), .second] [(.double (FP.dsub (FP.dadd du dz) du)), (.double (FP.dadd du dz)), (.double du), (.double dw), (.ref a1)]))
  have hd13 : Jvm.FP.Core.DInt (rn (rn (vh + vy) - rn (rn (vh + vy) - vh))) (FP.dsub (FP.dadd du dz) (FP.dsub (FP.dadd du dz) du)) := own_ds H hd8 hd10 hB2
  refine own_go (XS.dsubS X12.here hx rfl (hb hby d3_27) rfl (own_nn64 hd13) rfl (Steps.refl _)) ?_
  show own_Fin _ _ _ _ (T12.setTop (mkF m 28 #[rv a1, .val (.double dz), .second, .val (.double (FP.dadd du dz)), .second, .val (.double (FP.dsub (FP.dadd du dz) du)), .second] [(.double (FP.dsub (FP.dadd du dz) (FP.dsub (FP.dadd du dz) du))), (.double du), (.double dw), (.ref a1)]))
  have hd14 : Jvm.FP.Core.DInt (rn (vh - rn (rn (vh + vy) - rn (rn (vh + vy) - vh)))) (FP.dsub du (FP.dsub (FP.dadd du dz) (FP.dsub (FP.dadd du dz) du))) := own_ds H dHu hd13 hB3
  refine own_go (XS.dsubS X12.here hx rfl (hb hby d3_28) rfl (own_nn64 hd14) rfl (Steps.refl _)) ?_
  show own_Fin _ _ _ _ (T12.setTop (mkF m 29 #[rv a1, .val (.double dz), .second, .val (.double (FP.dadd du dz)), .second, .val (.double (FP.dsub (FP.dadd du dz) du)), .second] [(.double (FP.dsub du (FP.dsub (FP.dadd du dz) (FP.dsub (FP.dadd du dz) du)))), (.double dw), (.ref a1)]))
  refine own_go (XS.dloadN X12.here hx rfl (hb hby d3_29) rfl (Steps.refl _)) ?_
  show own_Fin _ _ _ _ (T12.setTop (mkF m 30 #[rv a1, .val (.double dz), .second, .val (.double (FP.dadd du dz)), .second, .val (.double (FP.dsub (FP.dadd du dz) du)), .second] [(.double dz), (.double (FP.dsub du (FP.dsub (FP.dadd du dz) (FP.dsub (FP.dadd du dz) du)))), (.double dw), (.ref a1)]))
  refine own_go (XS.dload X12.here hx rfl (hb hby d3_30) rfl (Steps.refl _)) ?_
  show own_Fin _ _ _ _ (T12.setTop (mkF m 32 #[rv a1, .val (.double dz), .second, .val (.double (FP.dadd du dz)), .second, .val (.double (FP.dsub (FP.dadd du dz) du)), .second] [(.double (FP.dsub (FP.dadd du dz) du)), (.double dz), (.double (FP.dsub du (FP.dsub (FP.dadd du dz) (FP.dsub (FP.dadd du dz) du)))), (.double dw), (.ref a1)]))
  have hd15 : Jvm.FP.Core.DInt (rn (vy - rn (rn (vh + vy) - vh))) (FP.dsub dz (FP.dsub (FP.dadd du dz) du)) := own_ds H dHz hd10 hB4
  refine own_go (XS.dsubS X12.here hx rfl (hb hby d3_32) rfl (own_nn64 hd15) rfl (Steps.refl _)) ?_
  show own_Fin _ _ _ _ (T12.setTop (mkF m 33 #[rv a1, .val (.double dz), .second, .val (.double (FP.dadd du dz)), .second, .val (.double (FP.dsub (FP.dadd du dz) du)), .second] [(.double (FP.dsub dz (FP.dsub (FP.dadd du dz) du))), (.double (FP.dsub du (FP.dsub (FP.dadd du dz) (FP.dsub (FP.dadd du dz) du)))), (.double dw), (.ref a1)]))
  have hd16 : Jvm.FP.Core.DInt (rn (rn (vh - rn (rn (vh + vy) - rn (rn (vh + vy) - vh))) + rn (vy - rn (rn (vh + vy) - vh)))) (FP.dadd (FP.dsub du (FP.dsub (FP.dadd du dz) (FP.dsub (FP.dadd du dz) du))) (FP.dsub dz (FP.dsub (FP.dadd du dz) du))) := own_da H hd14 hd15 hB5
  have htw := own_two rh ry (H _ hB0).1 (H _ hB1).1 (H _ hB2).1 (H _ hB3).1 (H _ hB4).1 (H _ hB5).1
  refine own_go (XS.daddS X12.here hx rfl (hb hby d3_33) rfl (own_nn64 hd16) rfl (Steps.refl _)) ?_
  show own_Fin _ _ _ _ (T12.setTop (mkF m 34 #[rv a1, .val (.double dz), .second, .val (.double (FP.dadd du dz)), .second, .val (.double (FP.dsub (FP.dadd du dz) du)), .second] [(.double (FP.dadd (FP.dsub du (FP.dsub (FP.dadd du dz) (FP.dsub (FP.dadd du dz) du))) (FP.dsub dz (FP.dsub (FP.dadd du dz) du)))), (.double dw), (.ref a1)]))
  have hd17 : Jvm.FP.Core.DInt (rn (vo + rn (rn (vh - rn (rn (vh + vy) - rn (rn (vh + vy) - vh))) + rn (vy - rn (rn (vh + vy) - vh))))) (FP.dadd dw (FP.dadd (FP.dsub du (FP.dsub (FP.dadd du dz) (FP.dsub (FP.dadd du dz) du))) (FP.dsub dz (FP.dsub (FP.dadd du dz) du)))) := own_da H dHw hd16 hB6
  refine own_go (XS.daddS X12.here hx rfl (hb hby d3_34) rfl (own_nn64 hd17) rfl (Steps.refl _)) ?_
  show own_Fin _ _ _ _ (T12.setTop (mkF m 35 #[rv a1, .val (.double dz), .second, .val (.double (FP.dadd du dz)), .second, .val (.double (FP.dsub (FP.dadd du dz) du)), .second] [(.double (FP.dadd dw (FP.dadd (FP.dsub du (FP.dsub (FP.dadd du dz) (FP.dsub (FP.dadd du dz) du))) (FP.dsub dz (FP.dsub (FP.dadd du dz) du))))), (.ref a1)]))
  obtain ⟨T18, h18, X18, e18, W18, st18⟩ := putF X12 hx hZ hown (host := "") (Or.inl (hw _ (List.mem_of_getElem? (i := 16) rfl))) Via.refl e12 F_lo_a1 E_a1 (Or.inl (hw _ (List.mem_of_getElem? (i := 17) rfl))) (hw _ (List.mem_of_getElem? (i := 1) rfl)) (ty := .double) (by decide) rfl rfl (g := (mkF m 35 #[rv a1, .val (.double dz), .second, .val (.double (FP.dadd du dz)), .second, .val (.double (FP.dsub (FP.dadd du dz) du)), .second] [(.double (FP.dadd dw (FP.dadd (FP.dsub du (FP.dsub (FP.dadd du dz) (FP.dsub (FP.dadd du dz) du))) (FP.dsub dz (FP.dsub (FP.dadd du dz) du))))), (.ref a1)])) rfl rfl (hb hby d3_35)
  refine own_by st18 ?_
  have F_lo_a1_18 := F_lo_a1.same W18
  have E_a1_18 := E_a1.wr W18
  have F_hi_a1_18 := F_hi_a1.other W18 (Or.inr (slot_ne (Or.inl (hw _ (List.mem_of_getElem? (i := 15) rfl))) (Or.inl (hw _ (List.mem_of_getElem? (i := 17) rfl))) (by decide) (t := .double) (t' := .double) (by decide) (by decide)))
  have N18 := Fr.snoc X18 N0 g_a1
  have Z18 : n0 ≤ h18.size := Nat.le_trans Z0 (Keep.of_wr W18).1
  have K18 := Kz.wr W18 (Or.inl (List.mem_of_getElem? (i := 0) rfl))
  show own_Fin _ _ _ _ (T18.setTop (mkF m 38 #[rv a1, .val (.double dz), .second, .val (.double (FP.dadd du dz)), .second, .val (.double (FP.dsub (FP.dadd du dz) du)), .second] []))
  refine own_go (XS.aloadN X18.here hx rfl (hb hby d3_38) rfl rfl (Steps.refl _)) ?_
  show own_Fin _ _ _ _ (T18.setTop (mkF m 39 #[rv a1, .val (.double dz), .second, .val (.double (FP.dadd du dz)), .second, .val (.double (FP.dsub (FP.dadd du dz) du)), .second] [(.ref a1)]))
  refine own_go (XS.dloadN X18.here hx rfl (hb hby d3_39) rfl (Steps.refl _)) ?_
  show own_Fin _ _ _ _ (T18.setTop (mkF m 40 #[rv a1, .val (.double dz), .second, .val (.double (FP.dadd du dz)), .second, .val (.double (FP.dsub (FP.dadd du dz) du)), .second] [(.double (FP.dadd du dz)), (.ref a1)]))
  obtain ⟨T19, h19, X19, e19, W19, st19⟩ := putF X18 hx hZ hown (host := "") (Or.inl (hw _ (List.mem_of_getElem? (i := 14) rfl))) Via.refl e18 F_hi_a1_18 E_a1_18 (Or.inl (hw _ (List.mem_of_getElem? (i := 15) rfl))) (hw _ (List.mem_of_getElem? (i := 1) rfl)) (ty := .double) (by decide) rfl rfl (g := (mkF m 40 #[rv a1, .val (.double dz), .second, .val (.double (FP.dadd du dz)), .second, .val (.double (FP.dsub (FP.dadd du dz) du)), .second] [(.double (FP.dadd du dz)), (.ref a1)])) rfl rfl (hb hby d3_40)
  refine own_by st19 ?_
  have F_hi_a1_19 := F_hi_a1_18.same W19
  have E_a1_19 := E_a1_18.wr W19
  have F_lo_a1_19 := F_lo_a1_18.other W19 (Or.inr (slot_ne (Or.inl (hw _ (List.mem_of_getElem? (i := 17) rfl))) (Or.inl (hw _ (List.mem_of_getElem? (i := 15) rfl))) (by decide) (t := .double) (t' := .double) (by decide) (by decide)))
  have N19 := Fr.snoc X19 N18 g_a1
  have Z19 : n0 ≤ h19.size := Nat.le_trans Z18 (Keep.of_wr W19).1
  have K19 := K18.wr W19 (Or.inl (List.mem_of_getElem? (i := 0) rfl))
  show own_Fin _ _ _ _ (T19.setTop (mkF m 43 #[rv a1, .val (.double dz), .second, .val (.double (FP.dadd du dz)), .second, .val (.double (FP.dsub (FP.dadd du dz) du)), .second] []))
  obtain ⟨fs20, hr20, hrun20, hended20, hW20, hsame20⟩ := X19.leave (v := none) (fun _ => rfl)
  refine own_done (X19.returnOut hx Bd.returns (hb hby d3_43) hr20) hrun20 hended20 ⟨_, _, rfl, ?_, ⟨_, rfl⟩, hW20, hsame20.mono (by decide) (by decide)⟩
  show Qadd Z a1 dz du dw vh vo vy rn h0 n0 _ T19.heap _
  rw [e19]
  exact ⟨(FP.dadd du dz), (FP.dadd dw (FP.dadd (FP.dsub du (FP.dsub (FP.dadd du dz) (FP.dsub (FP.dadd du dz) du))) (FP.dsub dz (FP.dsub (FP.dadd du dz) du)))), rfl, N19, K19, E_a1_19, F_hi_a1_19, F_lo_a1_19, hd8, (by have q := hd17; rw [htw.1, own_ex H hBx hRx] at q; exact q)⟩
theorem pn_com_example_nosto_nosto_LogProductAddPinLaw : plainName "com/example/nosto/nosto/LogProductAddPinLaw" = true := by first | (simp [plainName, overriddenIn]; done) | decide +kernel
theorem ef_0 (m : MethodId) (x0 : Int64) (x1 : Int64) (x2 : Int64) (x3 : Int32) : entryFrame m #[(.long x0), (.long x1), (.long x2), (.int x3)] maxLocals = mkF m 0 #[.val (.long x0), .second, .val (.long x1), .second, .val (.long x2), .second, .val (.int x3), .unset, .unset, .unset, .unset, .unset, .unset, .unset, .unset, .unset, .unset, .unset, .unset, .unset, .unset, .unset, .unset, .unset, .unset, .unset, .unset, .unset, .unset, .unset, .unset, .unset, .unset, .unset, .unset, .unset, .unset, .unset] [] := by first | (simp [entryFrame, mkF, argsToLocals, Value.category, maxLocals]; done) | rfl
def Q0 (Z : State) (p1 : Int64) (p2 : Int64) (p3 : Int64) (p4 : Int32) (h0 : Heap) (n0 : Nat) (v : Option Value) (h : Heap) (L : List Loc) : Prop := v = some (.int 1) ∧ Fr n0 L
abbrev G0 (Z : State) (p1 : Int64) (p2 : Int64) (p3 : Int64) (p4 : Int32) (h0 : Heap) (n0 : Nat) (s : State) : Outcome → State → Prop := fun o U' => ∃ v L, o = .returned v ∧ Q0 Z p1 p2 p3 p4 h0 n0 v U'.heap L ∧ FrameEnd s o U' L 16 128
theorem pd__28__29_V : parseMethodDescriptor "()V" = some ⟨[], none⟩ := by decide +kernel
theorem pd__28_D_29_V : parseMethodDescriptor "(D)V" = some ⟨[.double], none⟩ := by decide +kernel
theorem pd__28__29_D : parseMethodDescriptor "()D" = some ⟨[], some .double⟩ := by decide +kernel
set_option maxRecDepth 65536 in
set_option maxHeartbeats 40000000 in
theorem rm0 (l : Launch) (Z : State) (a0 : Array Value) (hw : ∀ d ∈ tables_1, d.before a0 Z = true) (ws : List Jvm.Cond) (p1 : Int64) (p2 : Int64) (p3 : Int64) (p4 : Int32) (h0 : Heap) (n0 : Nat) (Z0 : n0 ≤ h0.size)  :
    MetFree l x (head1 (Jvm.Cond.code x code maxLocals ret :: ws) room_1) (fun a U => a = #[(.long q1), (.long q2), (.long q3), (.int p4)] ∧ Z.Warmed39 U.vm ∧ U.heap = h0) (fun _ _ _ _ _ => True) (fun _ U o U' => ∃ v L, o = .returned v ∧ Q0 Z p1 p2 p3 p4 h0 n0 v U'.heap L ∧ FrameEnd U o U' L 16 128) := by
  refine MetFree.of_bodySF (plainFor_of_name pn_com_example_nosto_nosto_LogProductAddPinLaw) hisR ?_
  intro p e s m args below meth c s₁ Bd hml0 hP hK
  obtain ⟨rfl, hZ, hh⟩ := hP
  have hx := Bd.exec
  have hby := Bd.bytes
  have hml : c.maxLocals = 38 := hml0
  have hown : s.vm.findClass "com/example/nosto/nosto/LogProductAddPinLaw" = some m.cls := findClass_of_methodNamed Bd.named
  have hnm := (name_of_methodNamed Bd.named Bd.method).1
  have X0 : Stand p l e room_1 s m #[(.long q1), (.long q2), (.long q3), (.int p4)] below meth c s₁ [] 0 0 := Stand.of_body Bd
  have e0 : s₁.heap = h0 := by rw [← hh, Bd.state]; rfl
  have es0 : s.heap = h0 := hh
  have N0 := Fr.nil n0
  show own_Fin p e below (G0 Z p1 p2 p3 p4 h0 n0 s) (s₁.setTop (entryFrame m #[(.long q1), (.long q2), (.long q3), (.int p4)] maxLocals))
  rw [ef_0 m q1 q2 q3 p4]
  obtain ⟨rn, H⟩ := own_rnE
  refine own_go (XS.iconst X0.here hx rfl (hb hby at_0) (Steps.refl _)) ?_
  show own_Fin _ _ _ _ (s₁.setTop (mkF m 1 #[.val (.long q1), .second, .val (.long q2), .second, .val (.long q3), .second, iv p4, .unset, .unset, .unset, .unset, .unset, .unset, .unset, .unset, .unset, .unset, .unset, .unset, .unset, .unset, .unset, .unset, .unset, .unset, .unset, .unset, .unset, .unset, .unset, .unset, .unset, .unset, .unset, .unset, .unset, .unset, .unset] [(.int (2 : Int32))]))
  refine own_go (XS.iload X0.here hx rfl (hb hby at_1) rfl (Steps.refl _)) ?_
  show own_Fin _ _ _ _ (s₁.setTop (mkF m 3 #[.val (.long q1), .second, .val (.long q2), .second, .val (.long q3), .second, iv p4, .unset, .unset, .unset, .unset, .unset, .unset, .unset, .unset, .unset, .unset, .unset, .unset, .unset, .unset, .unset, .unset, .unset, .unset, .unset, .unset, .unset, .unset, .unset, .unset, .unset, .unset, .unset, .unset, .unset, .unset, .unset] [(.int p4), (.int (2 : Int32))]))
  refine own_go (XS.bipush X0.here hx rfl (hb hby at_3) (Steps.refl _)) ?_
  show own_Fin _ _ _ _ (s₁.setTop (mkF m 5 #[.val (.long q1), .second, .val (.long q2), .second, .val (.long q3), .second, iv p4, .unset, .unset, .unset, .unset, .unset, .unset, .unset, .unset, .unset, .unset, .unset, .unset, .unset, .unset, .unset, .unset, .unset, .unset, .unset, .unset, .unset, .unset, .unset, .unset, .unset, .unset, .unset, .unset, .unset, .unset, .unset] [(.int (63 : Int32)), (.int p4), (.int (2 : Int32))]))
  refine own_go (XS.iand X0.here hx rfl (hb hby at_5) rfl (Steps.refl _)) ?_
  show own_Fin _ _ _ _ (s₁.setTop (mkF m 6 #[.val (.long q1), .second, .val (.long q2), .second, .val (.long q3), .second, iv p4, .unset, .unset, .unset, .unset, .unset, .unset, .unset, .unset, .unset, .unset, .unset, .unset, .unset, .unset, .unset, .unset, .unset, .unset, .unset, .unset, .unset, .unset, .unset, .unset, .unset, .unset, .unset, .unset, .unset, .unset, .unset] [(.int (p4 &&& (63 : Int32))), (.int (2 : Int32))]))
  refine own_go (XS.bipush X0.here hx rfl (hb hby at_6) (Steps.refl _)) ?_
  show own_Fin _ _ _ _ (s₁.setTop (mkF m 8 #[.val (.long q1), .second, .val (.long q2), .second, .val (.long q3), .second, iv p4, .unset, .unset, .unset, .unset, .unset, .unset, .unset, .unset, .unset, .unset, .unset, .unset, .unset, .unset, .unset, .unset, .unset, .unset, .unset, .unset, .unset, .unset, .unset, .unset, .unset, .unset, .unset, .unset, .unset, .unset, .unset] [(.int (62 : Int32)), (.int (p4 &&& (63 : Int32))), (.int (2 : Int32))]))
  refine own_go (iremM X0 hx rfl (hb hby at_8) rfl (by decide) (Steps.refl _)) ?_
  show own_Fin _ _ _ _ (s₁.setTop (mkF m 9 #[.val (.long q1), .second, .val (.long q2), .second, .val (.long q3), .second, iv p4, .unset, .unset, .unset, .unset, .unset, .unset, .unset, .unset, .unset, .unset, .unset, .unset, .unset, .unset, .unset, .unset, .unset, .unset, .unset, .unset, .unset, .unset, .unset, .unset, .unset, .unset, .unset, .unset, .unset, .unset, .unset] [(.int ((p4 &&& (63 : Int32)) % (62 : Int32))), (.int (2 : Int32))]))
  refine own_go (XS.iadd X0.here hx rfl (hb hby at_9) rfl (Steps.refl _)) ?_
  show own_Fin _ _ _ _ (s₁.setTop (mkF m 10 #[.val (.long q1), .second, .val (.long q2), .second, .val (.long q3), .second, iv p4, .unset, .unset, .unset, .unset, .unset, .unset, .unset, .unset, .unset, .unset, .unset, .unset, .unset, .unset, .unset, .unset, .unset, .unset, .unset, .unset, .unset, .unset, .unset, .unset, .unset, .unset, .unset, .unset, .unset, .unset, .unset] [(.int ((2 : Int32) + ((p4 &&& (63 : Int32)) % (62 : Int32))))]))
  refine own_go (XS.istore X0.here hx rfl (hb hby at_10) rfl rfl (Steps.refl _)) ?_
  show own_Fin _ _ _ _ (s₁.setTop (mkF m 12 #[.val (.long q1), .second, .val (.long q2), .second, .val (.long q3), .second, iv p4, iv ((2 : Int32) + ((p4 &&& (63 : Int32)) % (62 : Int32))), .unset, .unset, .unset, .unset, .unset, .unset, .unset, .unset, .unset, .unset, .unset, .unset, .unset, .unset, .unset, .unset, .unset, .unset, .unset, .unset, .unset, .unset, .unset, .unset, .unset, .unset, .unset, .unset, .unset, .unset] []))
  generalize hz_v7_21 : ((2 : Int32) + ((p4 &&& (63 : Int32)) % (62 : Int32))) = v7_21
  refine own_go (XS.iconst X0.here hx rfl (hb hby at_12) (Steps.refl _)) ?_
  show own_Fin _ _ _ _ (s₁.setTop (mkF m 13 #[.val (.long q1), .second, .val (.long q2), .second, .val (.long q3), .second, iv p4, iv v7_21, .unset, .unset, .unset, .unset, .unset, .unset, .unset, .unset, .unset, .unset, .unset, .unset, .unset, .unset, .unset, .unset, .unset, .unset, .unset, .unset, .unset, .unset, .unset, .unset, .unset, .unset, .unset, .unset, .unset, .unset] [(.int (2 : Int32))]))
  refine own_go (XS.iload X0.here hx rfl (hb hby at_13) rfl (Steps.refl _)) ?_
  show own_Fin _ _ _ _ (s₁.setTop (mkF m 15 #[.val (.long q1), .second, .val (.long q2), .second, .val (.long q3), .second, iv p4, iv v7_21, .unset, .unset, .unset, .unset, .unset, .unset, .unset, .unset, .unset, .unset, .unset, .unset, .unset, .unset, .unset, .unset, .unset, .unset, .unset, .unset, .unset, .unset, .unset, .unset, .unset, .unset, .unset, .unset, .unset, .unset] [(.int p4), (.int (2 : Int32))]))
  refine own_go (XS.bipush X0.here hx rfl (hb hby at_15) (Steps.refl _)) ?_
  show own_Fin _ _ _ _ (s₁.setTop (mkF m 17 #[.val (.long q1), .second, .val (.long q2), .second, .val (.long q3), .second, iv p4, iv v7_21, .unset, .unset, .unset, .unset, .unset, .unset, .unset, .unset, .unset, .unset, .unset, .unset, .unset, .unset, .unset, .unset, .unset, .unset, .unset, .unset, .unset, .unset, .unset, .unset, .unset, .unset, .unset, .unset, .unset, .unset] [(.int (6 : Int32)), (.int p4), (.int (2 : Int32))]))
  refine own_go (XS.iushr X0.here hx rfl (hb hby at_17) rfl (Steps.refl _)) ?_
  show own_Fin _ _ _ _ (s₁.setTop (mkF m 18 #[.val (.long q1), .second, .val (.long q2), .second, .val (.long q3), .second, iv p4, iv v7_21, .unset, .unset, .unset, .unset, .unset, .unset, .unset, .unset, .unset, .unset, .unset, .unset, .unset, .unset, .unset, .unset, .unset, .unset, .unset, .unset, .unset, .unset, .unset, .unset, .unset, .unset, .unset, .unset, .unset, .unset] [(.int ((p4.toUInt32 >>> ((6 : Int32) &&& 31).toUInt32).toInt32)), (.int (2 : Int32))]))
  refine own_go (XS.bipush X0.here hx rfl (hb hby at_18) (Steps.refl _)) ?_
  show own_Fin _ _ _ _ (s₁.setTop (mkF m 20 #[.val (.long q1), .second, .val (.long q2), .second, .val (.long q3), .second, iv p4, iv v7_21, .unset, .unset, .unset, .unset, .unset, .unset, .unset, .unset, .unset, .unset, .unset, .unset, .unset, .unset, .unset, .unset, .unset, .unset, .unset, .unset, .unset, .unset, .unset, .unset, .unset, .unset, .unset, .unset, .unset, .unset] [(.int (63 : Int32)), (.int ((p4.toUInt32 >>> ((6 : Int32) &&& 31).toUInt32).toInt32)), (.int (2 : Int32))]))
  refine own_go (XS.iand X0.here hx rfl (hb hby at_20) rfl (Steps.refl _)) ?_
  show own_Fin _ _ _ _ (s₁.setTop (mkF m 21 #[.val (.long q1), .second, .val (.long q2), .second, .val (.long q3), .second, iv p4, iv v7_21, .unset, .unset, .unset, .unset, .unset, .unset, .unset, .unset, .unset, .unset, .unset, .unset, .unset, .unset, .unset, .unset, .unset, .unset, .unset, .unset, .unset, .unset, .unset, .unset, .unset, .unset, .unset, .unset, .unset, .unset] [(.int (((p4.toUInt32 >>> ((6 : Int32) &&& 31).toUInt32).toInt32) &&& (63 : Int32))), (.int (2 : Int32))]))
  refine own_go (XS.bipush X0.here hx rfl (hb hby at_21) (Steps.refl _)) ?_
  show own_Fin _ _ _ _ (s₁.setTop (mkF m 23 #[.val (.long q1), .second, .val (.long q2), .second, .val (.long q3), .second, iv p4, iv v7_21, .unset, .unset, .unset, .unset, .unset, .unset, .unset, .unset, .unset, .unset, .unset, .unset, .unset, .unset, .unset, .unset, .unset, .unset, .unset, .unset, .unset, .unset, .unset, .unset, .unset, .unset, .unset, .unset, .unset, .unset] [(.int (62 : Int32)), (.int (((p4.toUInt32 >>> ((6 : Int32) &&& 31).toUInt32).toInt32) &&& (63 : Int32))), (.int (2 : Int32))]))
  refine own_go (iremM X0 hx rfl (hb hby at_23) rfl (by decide) (Steps.refl _)) ?_
  show own_Fin _ _ _ _ (s₁.setTop (mkF m 24 #[.val (.long q1), .second, .val (.long q2), .second, .val (.long q3), .second, iv p4, iv v7_21, .unset, .unset, .unset, .unset, .unset, .unset, .unset, .unset, .unset, .unset, .unset, .unset, .unset, .unset, .unset, .unset, .unset, .unset, .unset, .unset, .unset, .unset, .unset, .unset, .unset, .unset, .unset, .unset, .unset, .unset] [(.int ((((p4.toUInt32 >>> ((6 : Int32) &&& 31).toUInt32).toInt32) &&& (63 : Int32)) % (62 : Int32))), (.int (2 : Int32))]))
  refine own_go (XS.iadd X0.here hx rfl (hb hby at_24) rfl (Steps.refl _)) ?_
  show own_Fin _ _ _ _ (s₁.setTop (mkF m 25 #[.val (.long q1), .second, .val (.long q2), .second, .val (.long q3), .second, iv p4, iv v7_21, .unset, .unset, .unset, .unset, .unset, .unset, .unset, .unset, .unset, .unset, .unset, .unset, .unset, .unset, .unset, .unset, .unset, .unset, .unset, .unset, .unset, .unset, .unset, .unset, .unset, .unset, .unset, .unset, .unset, .unset] [(.int ((2 : Int32) + ((((p4.toUInt32 >>> ((6 : Int32) &&& 31).toUInt32).toInt32) &&& (63 : Int32)) % (62 : Int32))))]))
  refine own_go (XS.istore X0.here hx rfl (hb hby at_25) rfl rfl (Steps.refl _)) ?_
  show own_Fin _ _ _ _ (s₁.setTop (mkF m 27 #[.val (.long q1), .second, .val (.long q2), .second, .val (.long q3), .second, iv p4, iv v7_21, iv ((2 : Int32) + ((((p4.toUInt32 >>> ((6 : Int32) &&& 31).toUInt32).toInt32) &&& (63 : Int32)) % (62 : Int32))), .unset, .unset, .unset, .unset, .unset, .unset, .unset, .unset, .unset, .unset, .unset, .unset, .unset, .unset, .unset, .unset, .unset, .unset, .unset, .unset, .unset, .unset, .unset, .unset, .unset, .unset, .unset, .unset, .unset] []))
  generalize hz_v8_22 : ((2 : Int32) + ((((p4.toUInt32 >>> ((6 : Int32) &&& 31).toUInt32).toInt32) &&& (63 : Int32)) % (62 : Int32))) = v8_22
  refine own_go (XS.iconst X0.here hx rfl (hb hby at_27) (Steps.refl _)) ?_
  show own_Fin _ _ _ _ (s₁.setTop (mkF m 28 #[.val (.long q1), .second, .val (.long q2), .second, .val (.long q3), .second, iv p4, iv v7_21, iv v8_22, .unset, .unset, .unset, .unset, .unset, .unset, .unset, .unset, .unset, .unset, .unset, .unset, .unset, .unset, .unset, .unset, .unset, .unset, .unset, .unset, .unset, .unset, .unset, .unset, .unset, .unset, .unset, .unset, .unset] [(.int (2 : Int32))]))
  refine own_go (XS.iload X0.here hx rfl (hb hby at_28) rfl (Steps.refl _)) ?_
  show own_Fin _ _ _ _ (s₁.setTop (mkF m 30 #[.val (.long q1), .second, .val (.long q2), .second, .val (.long q3), .second, iv p4, iv v7_21, iv v8_22, .unset, .unset, .unset, .unset, .unset, .unset, .unset, .unset, .unset, .unset, .unset, .unset, .unset, .unset, .unset, .unset, .unset, .unset, .unset, .unset, .unset, .unset, .unset, .unset, .unset, .unset, .unset, .unset, .unset] [(.int p4), (.int (2 : Int32))]))
  refine own_go (XS.bipush X0.here hx rfl (hb hby at_30) (Steps.refl _)) ?_
  show own_Fin _ _ _ _ (s₁.setTop (mkF m 32 #[.val (.long q1), .second, .val (.long q2), .second, .val (.long q3), .second, iv p4, iv v7_21, iv v8_22, .unset, .unset, .unset, .unset, .unset, .unset, .unset, .unset, .unset, .unset, .unset, .unset, .unset, .unset, .unset, .unset, .unset, .unset, .unset, .unset, .unset, .unset, .unset, .unset, .unset, .unset, .unset, .unset, .unset] [(.int (12 : Int32)), (.int p4), (.int (2 : Int32))]))
  refine own_go (XS.iushr X0.here hx rfl (hb hby at_32) rfl (Steps.refl _)) ?_
  show own_Fin _ _ _ _ (s₁.setTop (mkF m 33 #[.val (.long q1), .second, .val (.long q2), .second, .val (.long q3), .second, iv p4, iv v7_21, iv v8_22, .unset, .unset, .unset, .unset, .unset, .unset, .unset, .unset, .unset, .unset, .unset, .unset, .unset, .unset, .unset, .unset, .unset, .unset, .unset, .unset, .unset, .unset, .unset, .unset, .unset, .unset, .unset, .unset, .unset] [(.int ((p4.toUInt32 >>> ((12 : Int32) &&& 31).toUInt32).toInt32)), (.int (2 : Int32))]))
  refine own_go (XS.bipush X0.here hx rfl (hb hby at_33) (Steps.refl _)) ?_
  show own_Fin _ _ _ _ (s₁.setTop (mkF m 35 #[.val (.long q1), .second, .val (.long q2), .second, .val (.long q3), .second, iv p4, iv v7_21, iv v8_22, .unset, .unset, .unset, .unset, .unset, .unset, .unset, .unset, .unset, .unset, .unset, .unset, .unset, .unset, .unset, .unset, .unset, .unset, .unset, .unset, .unset, .unset, .unset, .unset, .unset, .unset, .unset, .unset, .unset] [(.int (63 : Int32)), (.int ((p4.toUInt32 >>> ((12 : Int32) &&& 31).toUInt32).toInt32)), (.int (2 : Int32))]))
  refine own_go (XS.iand X0.here hx rfl (hb hby at_35) rfl (Steps.refl _)) ?_
  show own_Fin _ _ _ _ (s₁.setTop (mkF m 36 #[.val (.long q1), .second, .val (.long q2), .second, .val (.long q3), .second, iv p4, iv v7_21, iv v8_22, .unset, .unset, .unset, .unset, .unset, .unset, .unset, .unset, .unset, .unset, .unset, .unset, .unset, .unset, .unset, .unset, .unset, .unset, .unset, .unset, .unset, .unset, .unset, .unset, .unset, .unset, .unset, .unset, .unset] [(.int (((p4.toUInt32 >>> ((12 : Int32) &&& 31).toUInt32).toInt32) &&& (63 : Int32))), (.int (2 : Int32))]))
  refine own_go (XS.bipush X0.here hx rfl (hb hby at_36) (Steps.refl _)) ?_
  show own_Fin _ _ _ _ (s₁.setTop (mkF m 38 #[.val (.long q1), .second, .val (.long q2), .second, .val (.long q3), .second, iv p4, iv v7_21, iv v8_22, .unset, .unset, .unset, .unset, .unset, .unset, .unset, .unset, .unset, .unset, .unset, .unset, .unset, .unset, .unset, .unset, .unset, .unset, .unset, .unset, .unset, .unset, .unset, .unset, .unset, .unset, .unset, .unset, .unset] [(.int (62 : Int32)), (.int (((p4.toUInt32 >>> ((12 : Int32) &&& 31).toUInt32).toInt32) &&& (63 : Int32))), (.int (2 : Int32))]))
  refine own_go (iremM X0 hx rfl (hb hby at_38) rfl (by decide) (Steps.refl _)) ?_
  show own_Fin _ _ _ _ (s₁.setTop (mkF m 39 #[.val (.long q1), .second, .val (.long q2), .second, .val (.long q3), .second, iv p4, iv v7_21, iv v8_22, .unset, .unset, .unset, .unset, .unset, .unset, .unset, .unset, .unset, .unset, .unset, .unset, .unset, .unset, .unset, .unset, .unset, .unset, .unset, .unset, .unset, .unset, .unset, .unset, .unset, .unset, .unset, .unset, .unset] [(.int ((((p4.toUInt32 >>> ((12 : Int32) &&& 31).toUInt32).toInt32) &&& (63 : Int32)) % (62 : Int32))), (.int (2 : Int32))]))
  refine own_go (XS.iadd X0.here hx rfl (hb hby at_39) rfl (Steps.refl _)) ?_
  show own_Fin _ _ _ _ (s₁.setTop (mkF m 40 #[.val (.long q1), .second, .val (.long q2), .second, .val (.long q3), .second, iv p4, iv v7_21, iv v8_22, .unset, .unset, .unset, .unset, .unset, .unset, .unset, .unset, .unset, .unset, .unset, .unset, .unset, .unset, .unset, .unset, .unset, .unset, .unset, .unset, .unset, .unset, .unset, .unset, .unset, .unset, .unset, .unset, .unset] [(.int ((2 : Int32) + ((((p4.toUInt32 >>> ((12 : Int32) &&& 31).toUInt32).toInt32) &&& (63 : Int32)) % (62 : Int32))))]))
  refine own_go (XS.istore X0.here hx rfl (hb hby at_40) rfl rfl (Steps.refl _)) ?_
  show own_Fin _ _ _ _ (s₁.setTop (mkF m 42 #[.val (.long q1), .second, .val (.long q2), .second, .val (.long q3), .second, iv p4, iv v7_21, iv v8_22, iv ((2 : Int32) + ((((p4.toUInt32 >>> ((12 : Int32) &&& 31).toUInt32).toInt32) &&& (63 : Int32)) % (62 : Int32))), .unset, .unset, .unset, .unset, .unset, .unset, .unset, .unset, .unset, .unset, .unset, .unset, .unset, .unset, .unset, .unset, .unset, .unset, .unset, .unset, .unset, .unset, .unset, .unset, .unset, .unset, .unset, .unset] []))
  generalize hz_v9_23 : ((2 : Int32) + ((((p4.toUInt32 >>> ((12 : Int32) &&& 31).toUInt32).toInt32) &&& (63 : Int32)) % (62 : Int32))) = v9_23
  refine own_go (XS.lloadN X0.here hx rfl (hb hby at_42) rfl (Steps.refl _)) ?_
  show own_Fin _ _ _ _ (s₁.setTop (mkF m 43 #[.val (.long q1), .second, .val (.long q2), .second, .val (.long q3), .second, iv p4, iv v7_21, iv v8_22, iv v9_23, .unset, .unset, .unset, .unset, .unset, .unset, .unset, .unset, .unset, .unset, .unset, .unset, .unset, .unset, .unset, .unset, .unset, .unset, .unset, .unset, .unset, .unset, .unset, .unset, .unset, .unset, .unset, .unset] [(.long q1)]))
  refine own_go (XS.iload X0.here hx rfl (hb hby at_43) rfl (Steps.refl _)) ?_
  show own_Fin _ _ _ _ (s₁.setTop (mkF m 45 #[.val (.long q1), .second, .val (.long q2), .second, .val (.long q3), .second, iv p4, iv v7_21, iv v8_22, iv v9_23, .unset, .unset, .unset, .unset, .unset, .unset, .unset, .unset, .unset, .unset, .unset, .unset, .unset, .unset, .unset, .unset, .unset, .unset, .unset, .unset, .unset, .unset, .unset, .unset, .unset, .unset, .unset, .unset] [(.int v7_21), (.long q1)]))
  refine own_go (XS.lshr X0.here hx rfl (hb hby at_45) rfl (Steps.refl _)) ?_
  show own_Fin _ _ _ _ (s₁.setTop (mkF m 46 #[.val (.long q1), .second, .val (.long q2), .second, .val (.long q3), .second, iv p4, iv v7_21, iv v8_22, iv v9_23, .unset, .unset, .unset, .unset, .unset, .unset, .unset, .unset, .unset, .unset, .unset, .unset, .unset, .unset, .unset, .unset, .unset, .unset, .unset, .unset, .unset, .unset, .unset, .unset, .unset, .unset, .unset, .unset] [(.long (q1 >>> (v7_21 &&& 0x3f).toInt64))]))
  refine own_go (XS.lstore X0.here hx rfl (hb hby at_46) rfl rfl (Steps.refl _)) ?_
  show own_Fin _ _ _ _ (s₁.setTop (mkF m 48 #[.val (.long q1), .second, .val (.long q2), .second, .val (.long q3), .second, iv p4, iv v7_21, iv v8_22, iv v9_23, .val (.long (q1 >>> (v7_21 &&& 0x3f).toInt64)), .second, .unset, .unset, .unset, .unset, .unset, .unset, .unset, .unset, .unset, .unset, .unset, .unset, .unset, .unset, .unset, .unset, .unset, .unset, .unset, .unset, .unset, .unset, .unset, .unset, .unset, .unset] []))
  generalize hz_v10_24 : (q1 >>> (v7_21 &&& 0x3f).toInt64) = v10_24
  refine own_go (XS.lloadN X0.here hx rfl (hb hby at_48) rfl (Steps.refl _)) ?_
  show own_Fin _ _ _ _ (s₁.setTop (mkF m 49 #[.val (.long q1), .second, .val (.long q2), .second, .val (.long q3), .second, iv p4, iv v7_21, iv v8_22, iv v9_23, .val (.long v10_24), .second, .unset, .unset, .unset, .unset, .unset, .unset, .unset, .unset, .unset, .unset, .unset, .unset, .unset, .unset, .unset, .unset, .unset, .unset, .unset, .unset, .unset, .unset, .unset, .unset, .unset, .unset] [(.long q2)]))
  refine own_go (XS.iload X0.here hx rfl (hb hby at_49) rfl (Steps.refl _)) ?_
  show own_Fin _ _ _ _ (s₁.setTop (mkF m 51 #[.val (.long q1), .second, .val (.long q2), .second, .val (.long q3), .second, iv p4, iv v7_21, iv v8_22, iv v9_23, .val (.long v10_24), .second, .unset, .unset, .unset, .unset, .unset, .unset, .unset, .unset, .unset, .unset, .unset, .unset, .unset, .unset, .unset, .unset, .unset, .unset, .unset, .unset, .unset, .unset, .unset, .unset, .unset, .unset] [(.int v8_22), (.long q2)]))
  refine own_go (XS.lshr X0.here hx rfl (hb hby at_51) rfl (Steps.refl _)) ?_
  show own_Fin _ _ _ _ (s₁.setTop (mkF m 52 #[.val (.long q1), .second, .val (.long q2), .second, .val (.long q3), .second, iv p4, iv v7_21, iv v8_22, iv v9_23, .val (.long v10_24), .second, .unset, .unset, .unset, .unset, .unset, .unset, .unset, .unset, .unset, .unset, .unset, .unset, .unset, .unset, .unset, .unset, .unset, .unset, .unset, .unset, .unset, .unset, .unset, .unset, .unset, .unset] [(.long (q2 >>> (v8_22 &&& 0x3f).toInt64))]))
  refine own_go (XS.lstore X0.here hx rfl (hb hby at_52) rfl rfl (Steps.refl _)) ?_
  show own_Fin _ _ _ _ (s₁.setTop (mkF m 54 #[.val (.long q1), .second, .val (.long q2), .second, .val (.long q3), .second, iv p4, iv v7_21, iv v8_22, iv v9_23, .val (.long v10_24), .second, .val (.long (q2 >>> (v8_22 &&& 0x3f).toInt64)), .second, .unset, .unset, .unset, .unset, .unset, .unset, .unset, .unset, .unset, .unset, .unset, .unset, .unset, .unset, .unset, .unset, .unset, .unset, .unset, .unset, .unset, .unset, .unset, .unset] []))
  generalize hz_v12_25 : (q2 >>> (v8_22 &&& 0x3f).toInt64) = v12_25
  refine own_go (XS.lload X0.here hx rfl (hb hby at_54) rfl (Steps.refl _)) ?_
  show own_Fin _ _ _ _ (s₁.setTop (mkF m 56 #[.val (.long q1), .second, .val (.long q2), .second, .val (.long q3), .second, iv p4, iv v7_21, iv v8_22, iv v9_23, .val (.long v10_24), .second, .val (.long v12_25), .second, .unset, .unset, .unset, .unset, .unset, .unset, .unset, .unset, .unset, .unset, .unset, .unset, .unset, .unset, .unset, .unset, .unset, .unset, .unset, .unset, .unset, .unset, .unset, .unset] [(.long q3)]))
  refine own_go (XS.iload X0.here hx rfl (hb hby at_56) rfl (Steps.refl _)) ?_
  show own_Fin _ _ _ _ (s₁.setTop (mkF m 58 #[.val (.long q1), .second, .val (.long q2), .second, .val (.long q3), .second, iv p4, iv v7_21, iv v8_22, iv v9_23, .val (.long v10_24), .second, .val (.long v12_25), .second, .unset, .unset, .unset, .unset, .unset, .unset, .unset, .unset, .unset, .unset, .unset, .unset, .unset, .unset, .unset, .unset, .unset, .unset, .unset, .unset, .unset, .unset, .unset, .unset] [(.int v9_23), (.long q3)]))
  refine own_go (XS.lshr X0.here hx rfl (hb hby at_58) rfl (Steps.refl _)) ?_
  show own_Fin _ _ _ _ (s₁.setTop (mkF m 59 #[.val (.long q1), .second, .val (.long q2), .second, .val (.long q3), .second, iv p4, iv v7_21, iv v8_22, iv v9_23, .val (.long v10_24), .second, .val (.long v12_25), .second, .unset, .unset, .unset, .unset, .unset, .unset, .unset, .unset, .unset, .unset, .unset, .unset, .unset, .unset, .unset, .unset, .unset, .unset, .unset, .unset, .unset, .unset, .unset, .unset] [(.long (q3 >>> (v9_23 &&& 0x3f).toInt64))]))
  refine own_go (XS.lstore X0.here hx rfl (hb hby at_59) rfl rfl (Steps.refl _)) ?_
  show own_Fin _ _ _ _ (s₁.setTop (mkF m 61 #[.val (.long q1), .second, .val (.long q2), .second, .val (.long q3), .second, iv p4, iv v7_21, iv v8_22, iv v9_23, .val (.long v10_24), .second, .val (.long v12_25), .second, .val (.long (q3 >>> (v9_23 &&& 0x3f).toInt64)), .second, .unset, .unset, .unset, .unset, .unset, .unset, .unset, .unset, .unset, .unset, .unset, .unset, .unset, .unset, .unset, .unset, .unset, .unset, .unset, .unset, .unset, .unset] []))
  generalize hz_v14_26 : (q3 >>> (v9_23 &&& 0x3f).toInt64) = v14_26
  refine own_go (XS.lload X0.here hx rfl (hb hby at_61) rfl (Steps.refl _)) ?_
  show own_Fin _ _ _ _ (s₁.setTop (mkF m 63 #[.val (.long q1), .second, .val (.long q2), .second, .val (.long q3), .second, iv p4, iv v7_21, iv v8_22, iv v9_23, .val (.long v10_24), .second, .val (.long v12_25), .second, .val (.long v14_26), .second, .unset, .unset, .unset, .unset, .unset, .unset, .unset, .unset, .unset, .unset, .unset, .unset, .unset, .unset, .unset, .unset, .unset, .unset, .unset, .unset, .unset, .unset] [(.long v10_24)]))
  refine own_go (XS.l2dS X0.here hx rfl (hb hby at_63) rfl rfl (Steps.refl _)) ?_
  show own_Fin _ _ _ _ (s₁.setTop (mkF m 64 #[.val (.long q1), .second, .val (.long q2), .second, .val (.long q3), .second, iv p4, iv v7_21, iv v8_22, iv v9_23, .val (.long v10_24), .second, .val (.long v12_25), .second, .val (.long v14_26), .second, .unset, .unset, .unset, .unset, .unset, .unset, .unset, .unset, .unset, .unset, .unset, .unset, .unset, .unset, .unset, .unset, .unset, .unset, .unset, .unset, .unset, .unset] [(.double (FP.l2d v10_24))]))
  have hk64 : (2 : Int32) ≤ v7_21 ∧ v7_21 ≤ (63 : Int32) := hz_v7_21 ▸ own_kk _
  obtain ⟨vx64, hD64, hR64, hBa64, hBb64⟩ := own_lx H hk64.1 hk64.2 hz_v10_24
  refine own_go (XS.dstore X0.here hx rfl (hb hby at_64) rfl rfl (Steps.refl _)) ?_
  show own_Fin _ _ _ _ (s₁.setTop (mkF m 66 #[.val (.long q1), .second, .val (.long q2), .second, .val (.long q3), .second, iv p4, iv v7_21, iv v8_22, iv v9_23, .val (.long v10_24), .second, .val (.long v12_25), .second, .val (.long v14_26), .second, .val (.double (FP.l2d v10_24)), .second, .unset, .unset, .unset, .unset, .unset, .unset, .unset, .unset, .unset, .unset, .unset, .unset, .unset, .unset, .unset, .unset, .unset, .unset, .unset, .unset] []))
  refine own_go (XS.lload X0.here hx rfl (hb hby at_66) rfl (Steps.refl _)) ?_
  show own_Fin _ _ _ _ (s₁.setTop (mkF m 68 #[.val (.long q1), .second, .val (.long q2), .second, .val (.long q3), .second, iv p4, iv v7_21, iv v8_22, iv v9_23, .val (.long v10_24), .second, .val (.long v12_25), .second, .val (.long v14_26), .second, .val (.double (FP.l2d v10_24)), .second, .unset, .unset, .unset, .unset, .unset, .unset, .unset, .unset, .unset, .unset, .unset, .unset, .unset, .unset, .unset, .unset, .unset, .unset, .unset, .unset] [(.long v12_25)]))
  refine own_go (XS.l2dS X0.here hx rfl (hb hby at_68) rfl rfl (Steps.refl _)) ?_
  show own_Fin _ _ _ _ (s₁.setTop (mkF m 69 #[.val (.long q1), .second, .val (.long q2), .second, .val (.long q3), .second, iv p4, iv v7_21, iv v8_22, iv v9_23, .val (.long v10_24), .second, .val (.long v12_25), .second, .val (.long v14_26), .second, .val (.double (FP.l2d v10_24)), .second, .unset, .unset, .unset, .unset, .unset, .unset, .unset, .unset, .unset, .unset, .unset, .unset, .unset, .unset, .unset, .unset, .unset, .unset, .unset, .unset] [(.double (FP.l2d v12_25))]))
  have hk69 : (2 : Int32) ≤ v8_22 ∧ v8_22 ≤ (63 : Int32) := hz_v8_22 ▸ own_kk _
  obtain ⟨vx69, hD69, hR69, hBa69, hBb69⟩ := own_lx H hk69.1 hk69.2 hz_v12_25
  refine own_go (XS.dstore X0.here hx rfl (hb hby at_69) rfl rfl (Steps.refl _)) ?_
  show own_Fin _ _ _ _ (s₁.setTop (mkF m 71 #[.val (.long q1), .second, .val (.long q2), .second, .val (.long q3), .second, iv p4, iv v7_21, iv v8_22, iv v9_23, .val (.long v10_24), .second, .val (.long v12_25), .second, .val (.long v14_26), .second, .val (.double (FP.l2d v10_24)), .second, .val (.double (FP.l2d v12_25)), .second, .unset, .unset, .unset, .unset, .unset, .unset, .unset, .unset, .unset, .unset, .unset, .unset, .unset, .unset, .unset, .unset, .unset, .unset] []))
  refine own_go (XS.lload X0.here hx rfl (hb hby at_71) rfl (Steps.refl _)) ?_
  show own_Fin _ _ _ _ (s₁.setTop (mkF m 73 #[.val (.long q1), .second, .val (.long q2), .second, .val (.long q3), .second, iv p4, iv v7_21, iv v8_22, iv v9_23, .val (.long v10_24), .second, .val (.long v12_25), .second, .val (.long v14_26), .second, .val (.double (FP.l2d v10_24)), .second, .val (.double (FP.l2d v12_25)), .second, .unset, .unset, .unset, .unset, .unset, .unset, .unset, .unset, .unset, .unset, .unset, .unset, .unset, .unset, .unset, .unset, .unset, .unset] [(.long v14_26)]))
  refine own_go (XS.l2dS X0.here hx rfl (hb hby at_73) rfl rfl (Steps.refl _)) ?_
  show own_Fin _ _ _ _ (s₁.setTop (mkF m 74 #[.val (.long q1), .second, .val (.long q2), .second, .val (.long q3), .second, iv p4, iv v7_21, iv v8_22, iv v9_23, .val (.long v10_24), .second, .val (.long v12_25), .second, .val (.long v14_26), .second, .val (.double (FP.l2d v10_24)), .second, .val (.double (FP.l2d v12_25)), .second, .unset, .unset, .unset, .unset, .unset, .unset, .unset, .unset, .unset, .unset, .unset, .unset, .unset, .unset, .unset, .unset, .unset, .unset] [(.double (FP.l2d v14_26))]))
  have hk74 : (2 : Int32) ≤ v9_23 ∧ v9_23 ≤ (63 : Int32) := hz_v9_23 ▸ own_kk _
  obtain ⟨vx74, hD74, hR74, hBa74, hBb74⟩ := own_lx H hk74.1 hk74.2 hz_v14_26
  refine own_go (XS.dstore X0.here hx rfl (hb hby at_74) rfl rfl (Steps.refl _)) ?_
  show own_Fin _ _ _ _ (s₁.setTop (mkF m 76 #[.val (.long q1), .second, .val (.long q2), .second, .val (.long q3), .second, iv p4, iv v7_21, iv v8_22, iv v9_23, .val (.long v10_24), .second, .val (.long v12_25), .second, .val (.long v14_26), .second, .val (.double (FP.l2d v10_24)), .second, .val (.double (FP.l2d v12_25)), .second, .val (.double (FP.l2d v14_26)), .second, .unset, .unset, .unset, .unset, .unset, .unset, .unset, .unset, .unset, .unset, .unset, .unset, .unset, .unset, .unset, .unset] []))
  refine own_go (XS.dload X0.here hx rfl (hb hby at_76) rfl (Steps.refl _)) ?_
  show own_Fin _ _ _ _ (s₁.setTop (mkF m 78 #[.val (.long q1), .second, .val (.long q2), .second, .val (.long q3), .second, iv p4, iv v7_21, iv v8_22, iv v9_23, .val (.long v10_24), .second, .val (.long v12_25), .second, .val (.long v14_26), .second, .val (.double (FP.l2d v10_24)), .second, .val (.double (FP.l2d v12_25)), .second, .val (.double (FP.l2d v14_26)), .second, .unset, .unset, .unset, .unset, .unset, .unset, .unset, .unset, .unset, .unset, .unset, .unset, .unset, .unset, .unset, .unset] [(.double (FP.l2d v10_24))]))
  refine own_go (XS.d2lS X0.here hx rfl (hb hby at_78) rfl rfl (Steps.refl _)) ?_
  show own_Fin _ _ _ _ (s₁.setTop (mkF m 79 #[.val (.long q1), .second, .val (.long q2), .second, .val (.long q3), .second, iv p4, iv v7_21, iv v8_22, iv v9_23, .val (.long v10_24), .second, .val (.long v12_25), .second, .val (.long v14_26), .second, .val (.double (FP.l2d v10_24)), .second, .val (.double (FP.l2d v12_25)), .second, .val (.double (FP.l2d v14_26)), .second, .unset, .unset, .unset, .unset, .unset, .unset, .unset, .unset, .unset, .unset, .unset, .unset, .unset, .unset, .unset, .unset] [(.long (FP.d2l (FP.l2d v10_24)))]))
  have hl79 := own_d2l hD64 (by omega)
  refine own_go (XS.lstore X0.here hx rfl (hb hby at_79) rfl rfl (Steps.refl _)) ?_
  show own_Fin _ _ _ _ (s₁.setTop (mkF m 81 #[.val (.long q1), .second, .val (.long q2), .second, .val (.long q3), .second, iv p4, iv v7_21, iv v8_22, iv v9_23, .val (.long v10_24), .second, .val (.long v12_25), .second, .val (.long v14_26), .second, .val (.double (FP.l2d v10_24)), .second, .val (.double (FP.l2d v12_25)), .second, .val (.double (FP.l2d v14_26)), .second, .val (.long (FP.d2l (FP.l2d v10_24))), .second, .unset, .unset, .unset, .unset, .unset, .unset, .unset, .unset, .unset, .unset, .unset, .unset, .unset, .unset] []))
  generalize hz_v22_27 : (FP.d2l (FP.l2d v10_24)) = v22_27
  refine own_go (XS.dload X0.here hx rfl (hb hby at_81) rfl (Steps.refl _)) ?_
  show own_Fin _ _ _ _ (s₁.setTop (mkF m 83 #[.val (.long q1), .second, .val (.long q2), .second, .val (.long q3), .second, iv p4, iv v7_21, iv v8_22, iv v9_23, .val (.long v10_24), .second, .val (.long v12_25), .second, .val (.long v14_26), .second, .val (.double (FP.l2d v10_24)), .second, .val (.double (FP.l2d v12_25)), .second, .val (.double (FP.l2d v14_26)), .second, .val (.long v22_27), .second, .unset, .unset, .unset, .unset, .unset, .unset, .unset, .unset, .unset, .unset, .unset, .unset, .unset, .unset] [(.double (FP.l2d v12_25))]))
  refine own_go (XS.d2lS X0.here hx rfl (hb hby at_83) rfl rfl (Steps.refl _)) ?_
  show own_Fin _ _ _ _ (s₁.setTop (mkF m 84 #[.val (.long q1), .second, .val (.long q2), .second, .val (.long q3), .second, iv p4, iv v7_21, iv v8_22, iv v9_23, .val (.long v10_24), .second, .val (.long v12_25), .second, .val (.long v14_26), .second, .val (.double (FP.l2d v10_24)), .second, .val (.double (FP.l2d v12_25)), .second, .val (.double (FP.l2d v14_26)), .second, .val (.long v22_27), .second, .unset, .unset, .unset, .unset, .unset, .unset, .unset, .unset, .unset, .unset, .unset, .unset, .unset, .unset] [(.long (FP.d2l (FP.l2d v12_25)))]))
  have hl84 := own_d2l hD69 (by omega)
  refine own_go (XS.lstore X0.here hx rfl (hb hby at_84) rfl rfl (Steps.refl _)) ?_
  show own_Fin _ _ _ _ (s₁.setTop (mkF m 86 #[.val (.long q1), .second, .val (.long q2), .second, .val (.long q3), .second, iv p4, iv v7_21, iv v8_22, iv v9_23, .val (.long v10_24), .second, .val (.long v12_25), .second, .val (.long v14_26), .second, .val (.double (FP.l2d v10_24)), .second, .val (.double (FP.l2d v12_25)), .second, .val (.double (FP.l2d v14_26)), .second, .val (.long v22_27), .second, .val (.long (FP.d2l (FP.l2d v12_25))), .second, .unset, .unset, .unset, .unset, .unset, .unset, .unset, .unset, .unset, .unset, .unset, .unset] []))
  generalize hz_v24_28 : (FP.d2l (FP.l2d v12_25)) = v24_28
  refine own_go (XS.dload X0.here hx rfl (hb hby at_86) rfl (Steps.refl _)) ?_
  show own_Fin _ _ _ _ (s₁.setTop (mkF m 88 #[.val (.long q1), .second, .val (.long q2), .second, .val (.long q3), .second, iv p4, iv v7_21, iv v8_22, iv v9_23, .val (.long v10_24), .second, .val (.long v12_25), .second, .val (.long v14_26), .second, .val (.double (FP.l2d v10_24)), .second, .val (.double (FP.l2d v12_25)), .second, .val (.double (FP.l2d v14_26)), .second, .val (.long v22_27), .second, .val (.long v24_28), .second, .unset, .unset, .unset, .unset, .unset, .unset, .unset, .unset, .unset, .unset, .unset, .unset] [(.double (FP.l2d v14_26))]))
  refine own_go (XS.d2lS X0.here hx rfl (hb hby at_88) rfl rfl (Steps.refl _)) ?_
  show own_Fin _ _ _ _ (s₁.setTop (mkF m 89 #[.val (.long q1), .second, .val (.long q2), .second, .val (.long q3), .second, iv p4, iv v7_21, iv v8_22, iv v9_23, .val (.long v10_24), .second, .val (.long v12_25), .second, .val (.long v14_26), .second, .val (.double (FP.l2d v10_24)), .second, .val (.double (FP.l2d v12_25)), .second, .val (.double (FP.l2d v14_26)), .second, .val (.long v22_27), .second, .val (.long v24_28), .second, .unset, .unset, .unset, .unset, .unset, .unset, .unset, .unset, .unset, .unset, .unset, .unset] [(.long (FP.d2l (FP.l2d v14_26)))]))
  have hl89 := own_d2l hD74 (by omega)
  refine own_go (XS.lstore X0.here hx rfl (hb hby at_89) rfl rfl (Steps.refl _)) ?_
  show own_Fin _ _ _ _ (s₁.setTop (mkF m 91 #[.val (.long q1), .second, .val (.long q2), .second, .val (.long q3), .second, iv p4, iv v7_21, iv v8_22, iv v9_23, .val (.long v10_24), .second, .val (.long v12_25), .second, .val (.long v14_26), .second, .val (.double (FP.l2d v10_24)), .second, .val (.double (FP.l2d v12_25)), .second, .val (.double (FP.l2d v14_26)), .second, .val (.long v22_27), .second, .val (.long v24_28), .second, .val (.long (FP.d2l (FP.l2d v14_26))), .second, .unset, .unset, .unset, .unset, .unset, .unset, .unset, .unset, .unset, .unset] []))
  generalize hz_v26_29 : (FP.d2l (FP.l2d v14_26)) = v26_29
  obtain ⟨T30, h30, X30, e30, E30, A30, D30, U30, st30⟩ := newO X0 hx hZ hown (hw _ (List.mem_of_getElem? (i := 0) rfl)) (hw _ (List.mem_of_getElem? (i := 1) rfl)) (hw _ (List.mem_of_getElem? (i := 2) rfl)) e0 (g := (mkF m 91 #[.val (.long q1), .second, .val (.long q2), .second, .val (.long q3), .second, iv p4, iv v7_21, iv v8_22, iv v9_23, .val (.long v10_24), .second, .val (.long v12_25), .second, .val (.long v14_26), .second, .val (.double (FP.l2d v10_24)), .second, .val (.double (FP.l2d v12_25)), .second, .val (.double (FP.l2d v14_26)), .second, .val (.long v22_27), .second, .val (.long v24_28), .second, .val (.long v26_29), .second, .unset, .unset, .unset, .unset, .unset, .unset, .unset, .unset, .unset, .unset] [])) rfl (hb hby at_91) (by decide) (by decide)
  obtain ⟨b30, g30⟩ : ∃ z, z = h0.size := ⟨_, rfl⟩
  rw [← g30] at A30 D30 U30 st30
  refine own_by st30 ?_
  have g_b30 : n0 ≤ b30 := Nat.le_trans Z0 (Nat.le_of_eq g30.symm)
  have Z30 : n0 ≤ h30.size := Nat.le_trans Z0 E30.1
  have E_b30 := A30
  have F_hi_b30 : Fld Z h30 b30 "com/example/nosto/nosto/LogProduct" "hi" "D" (.double (0 : UInt64)) := D30 (Or.inl (hw _ (List.mem_of_getElem? (i := 15) rfl))) (ty := .double) (by decide)
  have F_lo_b30 : Fld Z h30 b30 "com/example/nosto/nosto/LogProduct" "lo" "D" (.double (0 : UInt64)) := D30 (Or.inl (hw _ (List.mem_of_getElem? (i := 17) rfl))) (ty := .double) (by decide)
  show own_Fin _ _ _ _ (T30.setTop (mkF m 94 #[.val (.long q1), .second, .val (.long q2), .second, .val (.long q3), .second, iv p4, iv v7_21, iv v8_22, iv v9_23, .val (.long v10_24), .second, .val (.long v12_25), .second, .val (.long v14_26), .second, .val (.double (FP.l2d v10_24)), .second, .val (.double (FP.l2d v12_25)), .second, .val (.double (FP.l2d v14_26)), .second, .val (.long v22_27), .second, .val (.long v24_28), .second, .val (.long v26_29), .second, .unset, .unset, .unset, .unset, .unset, .unset, .unset, .unset, .unset, .unset] [(.ref b30)]))
  refine own_go (XS.dup X30.here hx rfl (hb hby at_94) rfl rfl (Steps.refl _)) ?_
  show own_Fin _ _ _ _ (T30.setTop (mkF m 95 #[.val (.long q1), .second, .val (.long q2), .second, .val (.long q3), .second, iv p4, iv v7_21, iv v8_22, iv v9_23, .val (.long v10_24), .second, .val (.long v12_25), .second, .val (.long v14_26), .second, .val (.double (FP.l2d v10_24)), .second, .val (.double (FP.l2d v12_25)), .second, .val (.double (FP.l2d v14_26)), .second, .val (.long v22_27), .second, .val (.long v24_28), .second, .val (.long v26_29), .second, .unset, .unset, .unset, .unset, .unset, .unset, .unset, .unset, .unset, .unset] [(.ref b30), (.ref b30)]))
  obtain ⟨_, _, ⟨T31, L31, k31, n31⟩, -, X31, ⟨Lc31, hQ31, l31, y31, z31⟩, st31⟩ := X30.specialBack hx (y := (⟨"com/example/nosto/nosto/LogProduct", "<init>", "()V"⟩ : MethodName)) rfl hown (mvT hZ (hw _ (List.mem_of_getElem? (i := 3) rfl))) (mvT hZ (hw _ (List.mem_of_getElem? (i := 4) rfl))) (mvT hZ (hw _ (List.mem_of_getElem? (i := 5) rfl))) (by decide) (backOf (W := 1) (rminit l Z a0 hw [] b30 h30 n0 Z30) hZ (hw _ (List.mem_of_getElem? (i := 5) rfl)) (hw _ (List.mem_of_getElem? (i := 2) rfl)) (by decide) (by decide)) (g := (mkF m 95 #[.val (.long q1), .second, .val (.long q2), .second, .val (.long q3), .second, iv p4, iv v7_21, iv v8_22, iv v9_23, .val (.long v10_24), .second, .val (.long v12_25), .second, .val (.long v14_26), .second, .val (.double (FP.l2d v10_24)), .second, .val (.double (FP.l2d v12_25)), .second, .val (.double (FP.l2d v14_26)), .second, .val (.long v22_27), .second, .val (.long v24_28), .second, .val (.long v26_29), .second, .unset, .unset, .unset, .unset, .unset, .unset, .unset, .unset, .unset, .unset] [(.ref b30), (.ref b30)])) rfl (by rw [hml]; rfl) (Steps.refl _) (a := b30) (argsL := []) (rest := [(.ref b30)]) (lenOf pd__28__29_V rfl) rfl (by show 2 * 0 + _ ≤ _; exact Nat.le_of_eq rfl) (hb hby at_95) (fun _ hv => ⟨rfl, e30, (by decide : 1 + 0 ≤ _), (by decide : 2 + 0 ≤ _)⟩)
  dsimp only [Pt.U, Pt.locs, Pt.cells, Pt.slots] at X31 l31 y31 z31 st31 hQ31
  subst l31 y31 z31
  obtain ⟨rfl, Nq31, e31⟩ := hQ31
  refine own_go st31 ?_
  have N31 := Fr.app N0 Nq31
  show own_Fin _ _ _ _ (T31.setTop (mkF m 98 #[.val (.long q1), .second, .val (.long q2), .second, .val (.long q3), .second, iv p4, iv v7_21, iv v8_22, iv v9_23, .val (.long v10_24), .second, .val (.long v12_25), .second, .val (.long v14_26), .second, .val (.double (FP.l2d v10_24)), .second, .val (.double (FP.l2d v12_25)), .second, .val (.double (FP.l2d v14_26)), .second, .val (.long v22_27), .second, .val (.long v24_28), .second, .val (.long v26_29), .second, .unset, .unset, .unset, .unset, .unset, .unset, .unset, .unset, .unset, .unset] [(.ref b30)]))
  refine own_go (XS.astore X31.here hx rfl (hb hby at_98) rfl rfl rfl (Steps.refl _)) ?_
  show own_Fin _ _ _ _ (T31.setTop (mkF m 100 #[.val (.long q1), .second, .val (.long q2), .second, .val (.long q3), .second, iv p4, iv v7_21, iv v8_22, iv v9_23, .val (.long v10_24), .second, .val (.long v12_25), .second, .val (.long v14_26), .second, .val (.double (FP.l2d v10_24)), .second, .val (.double (FP.l2d v12_25)), .second, .val (.double (FP.l2d v14_26)), .second, .val (.long v22_27), .second, .val (.long v24_28), .second, .val (.long v26_29), .second, rv b30, .unset, .unset, .unset, .unset, .unset, .unset, .unset, .unset, .unset] []))
  refine own_go (XS.aload X31.here hx rfl (hb hby at_100) rfl rfl (Steps.refl _)) ?_
  show own_Fin _ _ _ _ (T31.setTop (mkF m 102 #[.val (.long q1), .second, .val (.long q2), .second, .val (.long q3), .second, iv p4, iv v7_21, iv v8_22, iv v9_23, .val (.long v10_24), .second, .val (.long v12_25), .second, .val (.long v14_26), .second, .val (.double (FP.l2d v10_24)), .second, .val (.double (FP.l2d v12_25)), .second, .val (.double (FP.l2d v14_26)), .second, .val (.long v22_27), .second, .val (.long v24_28), .second, .val (.long v26_29), .second, rv b30, .unset, .unset, .unset, .unset, .unset, .unset, .unset, .unset, .unset] [(.ref b30)]))
  refine own_go (XS.dload X31.here hx rfl (hb hby at_102) rfl (Steps.refl _)) ?_
  show own_Fin _ _ _ _ (T31.setTop (mkF m 104 #[.val (.long q1), .second, .val (.long q2), .second, .val (.long q3), .second, iv p4, iv v7_21, iv v8_22, iv v9_23, .val (.long v10_24), .second, .val (.long v12_25), .second, .val (.long v14_26), .second, .val (.double (FP.l2d v10_24)), .second, .val (.double (FP.l2d v12_25)), .second, .val (.double (FP.l2d v14_26)), .second, .val (.long v22_27), .second, .val (.long v24_28), .second, .val (.long v26_29), .second, rv b30, .unset, .unset, .unset, .unset, .unset, .unset, .unset, .unset, .unset] [(.double (FP.l2d v10_24)), (.ref b30)]))
  obtain ⟨cq32, kq32, q32a, q32b, q32c⟩ := isOf hZ e31 E_b30
  obtain ⟨_, _, ⟨T32, L32, k32, n32⟩, -, X32, ⟨Lc32, hQ32, l32, y32, z32⟩, st32⟩ := X31.virtualBack hx (y := (⟨"com/example/nosto/nosto/LogProduct", "add", "(D)V"⟩ : MethodName)) (z := (⟨"com/example/nosto/nosto/LogProduct", "add", "(D)V"⟩ : MethodName)) hown (mvT hZ (hw _ (List.mem_of_getElem? (i := 9) rfl))) (mvT hZ (hw _ (List.mem_of_getElem? (i := 10) rfl))) (notFace_of_selects (args := #[]) (mvT hZ (hw _ (List.mem_of_getElem? (i := 12) rfl)))) (mvT hZ (hw _ (List.mem_of_getElem? (i := 12) rfl))) (mvT hZ (hw _ (List.mem_of_getElem? (i := 11) rfl))) (by decide) (backOf (W := 0) (rmadd l Z a0 hw [] b30 (FP.l2d v10_24) (0 : UInt64) (0 : UInt64) (0) (0) (vx64) rn h30 n0 Z30 E_b30 F_hi_b30 F_lo_b30 g_b30 H own_d0 own_d0 hD64 own_rep0 hR64 (by omega) (by omega) (by omega)) hZ (hw _ (List.mem_of_getElem? (i := 13) rfl)) (hw _ (List.mem_of_getElem? (i := 2) rfl)) (by decide) (by decide)) q32a q32c (g := (mkF m 104 #[.val (.long q1), .second, .val (.long q2), .second, .val (.long q3), .second, iv p4, iv v7_21, iv v8_22, iv v9_23, .val (.long v10_24), .second, .val (.long v12_25), .second, .val (.long v14_26), .second, .val (.double (FP.l2d v10_24)), .second, .val (.double (FP.l2d v12_25)), .second, .val (.double (FP.l2d v14_26)), .second, .val (.long v22_27), .second, .val (.long v24_28), .second, .val (.long v26_29), .second, rv b30, .unset, .unset, .unset, .unset, .unset, .unset, .unset, .unset, .unset] [(.double (FP.l2d v10_24)), (.ref b30)])) rfl (by rw [hml]; rfl) (Steps.refl _) (argsL := [(.double (FP.l2d v10_24))]) (rest := []) (lenOf pd__28_D_29_V rfl) rfl (by show 2 * 0 + _ ≤ _; exact Nat.le_of_eq rfl) (hb hby at_104) (fun _ hv => ⟨rfl, e31, (by decide : 1 + 0 ≤ _), (by decide : 2 + 0 ≤ _)⟩)
  dsimp only [Pt.U, Pt.locs, Pt.cells, Pt.slots] at X32 l32 y32 z32 st32 hQ32
  subst l32 y32 z32
  refine own_go st32 ?_
  obtain ⟨u2_32, w2_32, rfl, Nq32, K32, r32_0, r32_1, r32_2, r32_3, r32_4⟩ := hQ32
  have E_b30_32 := E_b30.keep K32
  have Z32 : n0 ≤ T32.heap.size := Nat.le_trans Z30 K32.1
  have ht0 : rn (0 + vx64) = vx64 := by rw [Int.zero_add]; exact own_ex H (by omega) hR64
  rw [ht0] at r32_3 r32_4
  rw [show 0 + (0 + vx64 - vx64) = 0 by omega] at r32_4
  have N32 := Fr.app N31 Nq32
  show own_Fin _ _ _ _ (T32.setTop (mkF m 107 #[.val (.long q1), .second, .val (.long q2), .second, .val (.long q3), .second, iv p4, iv v7_21, iv v8_22, iv v9_23, .val (.long v10_24), .second, .val (.long v12_25), .second, .val (.long v14_26), .second, .val (.double (FP.l2d v10_24)), .second, .val (.double (FP.l2d v12_25)), .second, .val (.double (FP.l2d v14_26)), .second, .val (.long v22_27), .second, .val (.long v24_28), .second, .val (.long v26_29), .second, rv b30, .unset, .unset, .unset, .unset, .unset, .unset, .unset, .unset, .unset] []))
  refine own_go (XS.aload X32.here hx rfl (hb hby at_107) rfl rfl (Steps.refl _)) ?_
  show own_Fin _ _ _ _ (T32.setTop (mkF m 109 #[.val (.long q1), .second, .val (.long q2), .second, .val (.long q3), .second, iv p4, iv v7_21, iv v8_22, iv v9_23, .val (.long v10_24), .second, .val (.long v12_25), .second, .val (.long v14_26), .second, .val (.double (FP.l2d v10_24)), .second, .val (.double (FP.l2d v12_25)), .second, .val (.double (FP.l2d v14_26)), .second, .val (.long v22_27), .second, .val (.long v24_28), .second, .val (.long v26_29), .second, rv b30, .unset, .unset, .unset, .unset, .unset, .unset, .unset, .unset, .unset] [(.ref b30)]))
  obtain ⟨cq33, kq33, q33a, q33b, q33c⟩ := isOf hZ rfl r32_0
  obtain ⟨_, _, ⟨T33, L33, k33, n33⟩, -, X33, ⟨Lc33, hQ33, l33, y33, z33⟩, st33⟩ := X32.virtualBack hx (y := (⟨"com/example/nosto/nosto/LogProduct", "hi", "()D"⟩ : MethodName)) (z := (⟨"com/example/nosto/nosto/LogProduct", "hi", "()D"⟩ : MethodName)) hown (mvT hZ (hw _ (List.mem_of_getElem? (i := 18) rfl))) (mvT hZ (hw _ (List.mem_of_getElem? (i := 19) rfl))) (notFace_of_selects (args := #[]) (mvT hZ (hw _ (List.mem_of_getElem? (i := 21) rfl)))) (mvT hZ (hw _ (List.mem_of_getElem? (i := 21) rfl))) (mvT hZ (hw _ (List.mem_of_getElem? (i := 20) rfl))) (by decide) (backOf (W := 0) (rmhi l Z a0 hw [] b30 u2_32 T32.heap n0 Z32 r32_1) hZ (hw _ (List.mem_of_getElem? (i := 22) rfl)) (hw _ (List.mem_of_getElem? (i := 2) rfl)) (by decide) (by decide)) q33a q33c (g := (mkF m 109 #[.val (.long q1), .second, .val (.long q2), .second, .val (.long q3), .second, iv p4, iv v7_21, iv v8_22, iv v9_23, .val (.long v10_24), .second, .val (.long v12_25), .second, .val (.long v14_26), .second, .val (.double (FP.l2d v10_24)), .second, .val (.double (FP.l2d v12_25)), .second, .val (.double (FP.l2d v14_26)), .second, .val (.long v22_27), .second, .val (.long v24_28), .second, .val (.long v26_29), .second, rv b30, .unset, .unset, .unset, .unset, .unset, .unset, .unset, .unset, .unset] [(.ref b30)])) rfl (by rw [hml]; rfl) (Steps.refl _) (argsL := []) (rest := []) (lenOf pd__28__29_D rfl) rfl (by show 2 * 0 + _ ≤ _; exact Nat.le_of_eq rfl) (hb hby at_109) (fun _ hv => ⟨rfl, rfl, (by decide : 1 + 0 ≤ _), (by decide : 2 + 0 ≤ _)⟩)
  dsimp only [Pt.U, Pt.locs, Pt.cells, Pt.slots] at X33 l33 y33 z33 st33 hQ33
  subst l33 y33 z33
  obtain ⟨rfl, Nq33, e33⟩ := hQ33
  refine own_go st33 ?_
  have N33 := Fr.app N32 Nq33
  show own_Fin _ _ _ _ (T33.setTop (mkF m 112 #[.val (.long q1), .second, .val (.long q2), .second, .val (.long q3), .second, iv p4, iv v7_21, iv v8_22, iv v9_23, .val (.long v10_24), .second, .val (.long v12_25), .second, .val (.long v14_26), .second, .val (.double (FP.l2d v10_24)), .second, .val (.double (FP.l2d v12_25)), .second, .val (.double (FP.l2d v14_26)), .second, .val (.long v22_27), .second, .val (.long v24_28), .second, .val (.long v26_29), .second, rv b30, .unset, .unset, .unset, .unset, .unset, .unset, .unset, .unset, .unset] [(.double u2_32)]))
  refine own_go (XS.dload X33.here hx rfl (hb hby at_112) rfl (Steps.refl _)) ?_
  show own_Fin _ _ _ _ (T33.setTop (mkF m 114 #[.val (.long q1), .second, .val (.long q2), .second, .val (.long q3), .second, iv p4, iv v7_21, iv v8_22, iv v9_23, .val (.long v10_24), .second, .val (.long v12_25), .second, .val (.long v14_26), .second, .val (.double (FP.l2d v10_24)), .second, .val (.double (FP.l2d v12_25)), .second, .val (.double (FP.l2d v14_26)), .second, .val (.long v22_27), .second, .val (.long v24_28), .second, .val (.long v26_29), .second, rv b30, .unset, .unset, .unset, .unset, .unset, .unset, .unset, .unset, .unset] [(.double (FP.l2d v10_24)), (.double u2_32)]))
  refine own_go (XS.dcmpS X33.here hx rfl (hb hby at_114) rfl (show cmpValue (FP.dcmp u2_32 (FP.l2d v10_24)) .l = (0 : Int32) from own_dc r32_3 hD64 .l) (Steps.refl _)) ?_
  show own_Fin _ _ _ _ (T33.setTop (mkF m 115 #[.val (.long q1), .second, .val (.long q2), .second, .val (.long q3), .second, iv p4, iv v7_21, iv v8_22, iv v9_23, .val (.long v10_24), .second, .val (.long v12_25), .second, .val (.long v14_26), .second, .val (.double (FP.l2d v10_24)), .second, .val (.double (FP.l2d v12_25)), .second, .val (.double (FP.l2d v14_26)), .second, .val (.long v22_27), .second, .val (.long v24_28), .second, .val (.long v26_29), .second, rv b30, .unset, .unset, .unset, .unset, .unset, .unset, .unset, .unset, .unset] [(.int (0 : Int32))]))
  refine own_go (XS.ifNo X33.here hx rfl (hb hby at_115) rfl ((if0 _ _).trans (teq (by decide : (0 : Int32) = (0 : Int32))).2) (Steps.refl _)) ?_
  show own_Fin _ _ _ _ (T33.setTop (mkF m 118 #[.val (.long q1), .second, .val (.long q2), .second, .val (.long q3), .second, iv p4, iv v7_21, iv v8_22, iv v9_23, .val (.long v10_24), .second, .val (.long v12_25), .second, .val (.long v14_26), .second, .val (.double (FP.l2d v10_24)), .second, .val (.double (FP.l2d v12_25)), .second, .val (.double (FP.l2d v14_26)), .second, .val (.long v22_27), .second, .val (.long v24_28), .second, .val (.long v26_29), .second, rv b30, .unset, .unset, .unset, .unset, .unset, .unset, .unset, .unset, .unset] []))
  refine own_go (XS.aload X33.here hx rfl (hb hby at_118) rfl rfl (Steps.refl _)) ?_
  show own_Fin _ _ _ _ (T33.setTop (mkF m 120 #[.val (.long q1), .second, .val (.long q2), .second, .val (.long q3), .second, iv p4, iv v7_21, iv v8_22, iv v9_23, .val (.long v10_24), .second, .val (.long v12_25), .second, .val (.long v14_26), .second, .val (.double (FP.l2d v10_24)), .second, .val (.double (FP.l2d v12_25)), .second, .val (.double (FP.l2d v14_26)), .second, .val (.long v22_27), .second, .val (.long v24_28), .second, .val (.long v26_29), .second, rv b30, .unset, .unset, .unset, .unset, .unset, .unset, .unset, .unset, .unset] [(.ref b30)]))
  obtain ⟨cq34, kq34, q34a, q34b, q34c⟩ := isOf hZ e33 r32_0
  obtain ⟨_, _, ⟨T34, L34, k34, n34⟩, -, X34, ⟨Lc34, hQ34, l34, y34, z34⟩, st34⟩ := X33.virtualBack hx (y := (⟨"com/example/nosto/nosto/LogProduct", "lo", "()D"⟩ : MethodName)) (z := (⟨"com/example/nosto/nosto/LogProduct", "lo", "()D"⟩ : MethodName)) hown (mvT hZ (hw _ (List.mem_of_getElem? (i := 23) rfl))) (mvT hZ (hw _ (List.mem_of_getElem? (i := 24) rfl))) (notFace_of_selects (args := #[]) (mvT hZ (hw _ (List.mem_of_getElem? (i := 26) rfl)))) (mvT hZ (hw _ (List.mem_of_getElem? (i := 26) rfl))) (mvT hZ (hw _ (List.mem_of_getElem? (i := 25) rfl))) (by decide) (backOf (W := 0) (rmlo l Z a0 hw [] b30 w2_32 T32.heap n0 Z32 r32_2) hZ (hw _ (List.mem_of_getElem? (i := 27) rfl)) (hw _ (List.mem_of_getElem? (i := 2) rfl)) (by decide) (by decide)) q34a q34c (g := (mkF m 120 #[.val (.long q1), .second, .val (.long q2), .second, .val (.long q3), .second, iv p4, iv v7_21, iv v8_22, iv v9_23, .val (.long v10_24), .second, .val (.long v12_25), .second, .val (.long v14_26), .second, .val (.double (FP.l2d v10_24)), .second, .val (.double (FP.l2d v12_25)), .second, .val (.double (FP.l2d v14_26)), .second, .val (.long v22_27), .second, .val (.long v24_28), .second, .val (.long v26_29), .second, rv b30, .unset, .unset, .unset, .unset, .unset, .unset, .unset, .unset, .unset] [(.ref b30)])) rfl (by rw [hml]; rfl) (Steps.refl _) (argsL := []) (rest := []) (lenOf pd__28__29_D rfl) rfl (by show 2 * 0 + _ ≤ _; exact Nat.le_of_eq rfl) (hb hby at_120) (fun _ hv => ⟨rfl, e33, (by decide : 1 + 0 ≤ _), (by decide : 2 + 0 ≤ _)⟩)
  dsimp only [Pt.U, Pt.locs, Pt.cells, Pt.slots] at X34 l34 y34 z34 st34 hQ34
  subst l34 y34 z34
  obtain ⟨rfl, Nq34, e34⟩ := hQ34
  refine own_go st34 ?_
  have N34 := Fr.app N33 Nq34
  show own_Fin _ _ _ _ (T34.setTop (mkF m 123 #[.val (.long q1), .second, .val (.long q2), .second, .val (.long q3), .second, iv p4, iv v7_21, iv v8_22, iv v9_23, .val (.long v10_24), .second, .val (.long v12_25), .second, .val (.long v14_26), .second, .val (.double (FP.l2d v10_24)), .second, .val (.double (FP.l2d v12_25)), .second, .val (.double (FP.l2d v14_26)), .second, .val (.long v22_27), .second, .val (.long v24_28), .second, .val (.long v26_29), .second, rv b30, .unset, .unset, .unset, .unset, .unset, .unset, .unset, .unset, .unset] [(.double w2_32)]))
  refine own_go (XS.dconst0 X34.here hx rfl (hb hby at_123) rfl (Steps.refl _)) ?_
  show own_Fin _ _ _ _ (T34.setTop (mkF m 124 #[.val (.long q1), .second, .val (.long q2), .second, .val (.long q3), .second, iv p4, iv v7_21, iv v8_22, iv v9_23, .val (.long v10_24), .second, .val (.long v12_25), .second, .val (.long v14_26), .second, .val (.double (FP.l2d v10_24)), .second, .val (.double (FP.l2d v12_25)), .second, .val (.double (FP.l2d v14_26)), .second, .val (.long v22_27), .second, .val (.long v24_28), .second, .val (.long v26_29), .second, rv b30, .unset, .unset, .unset, .unset, .unset, .unset, .unset, .unset, .unset] [(.double (0 : UInt64)), (.double w2_32)]))
  refine own_go (XS.dcmpS X34.here hx rfl (hb hby at_124) rfl (show cmpValue (FP.dcmp w2_32 (0 : UInt64)) .l = (0 : Int32) from own_dc r32_4 own_d0 .l) (Steps.refl _)) ?_
  show own_Fin _ _ _ _ (T34.setTop (mkF m 125 #[.val (.long q1), .second, .val (.long q2), .second, .val (.long q3), .second, iv p4, iv v7_21, iv v8_22, iv v9_23, .val (.long v10_24), .second, .val (.long v12_25), .second, .val (.long v14_26), .second, .val (.double (FP.l2d v10_24)), .second, .val (.double (FP.l2d v12_25)), .second, .val (.double (FP.l2d v14_26)), .second, .val (.long v22_27), .second, .val (.long v24_28), .second, .val (.long v26_29), .second, rv b30, .unset, .unset, .unset, .unset, .unset, .unset, .unset, .unset, .unset] [(.int (0 : Int32))]))
  refine own_go (XS.ifNo X34.here hx rfl (hb hby at_125) rfl ((if0 _ _).trans (teq (by decide : (0 : Int32) = (0 : Int32))).2) (Steps.refl _)) ?_
  show own_Fin _ _ _ _ (T34.setTop (mkF m 128 #[.val (.long q1), .second, .val (.long q2), .second, .val (.long q3), .second, iv p4, iv v7_21, iv v8_22, iv v9_23, .val (.long v10_24), .second, .val (.long v12_25), .second, .val (.long v14_26), .second, .val (.double (FP.l2d v10_24)), .second, .val (.double (FP.l2d v12_25)), .second, .val (.double (FP.l2d v14_26)), .second, .val (.long v22_27), .second, .val (.long v24_28), .second, .val (.long v26_29), .second, rv b30, .unset, .unset, .unset, .unset, .unset, .unset, .unset, .unset, .unset] []))
  refine own_go (XS.iconst X34.here hx rfl (hb hby at_128) (Steps.refl _)) ?_
  show own_Fin _ _ _ _ (T34.setTop (mkF m 129 #[.val (.long q1), .second, .val (.long q2), .second, .val (.long q3), .second, iv p4, iv v7_21, iv v8_22, iv v9_23, .val (.long v10_24), .second, .val (.long v12_25), .second, .val (.long v14_26), .second, .val (.double (FP.l2d v10_24)), .second, .val (.double (FP.l2d v12_25)), .second, .val (.double (FP.l2d v14_26)), .second, .val (.long v22_27), .second, .val (.long v24_28), .second, .val (.long v26_29), .second, rv b30, .unset, .unset, .unset, .unset, .unset, .unset, .unset, .unset, .unset] [(.int (1 : Int32))]))
  refine own_go (XS.goto X34.here hx rfl (pc0 := 129) (pc' := 133) rfl (hb hby at_129) (by decide) (by decide) (Steps.refl _)) ?_
  show own_Fin _ _ _ _ (T34.setTop (mkF m 133 #[.val (.long q1), .second, .val (.long q2), .second, .val (.long q3), .second, iv p4, iv v7_21, iv v8_22, iv v9_23, .val (.long v10_24), .second, .val (.long v12_25), .second, .val (.long v14_26), .second, .val (.double (FP.l2d v10_24)), .second, .val (.double (FP.l2d v12_25)), .second, .val (.double (FP.l2d v14_26)), .second, .val (.long v22_27), .second, .val (.long v24_28), .second, .val (.long v26_29), .second, rv b30, .unset, .unset, .unset, .unset, .unset, .unset, .unset, .unset, .unset] [(.int (1 : Int32))]))
  refine own_go (XS.istore X34.here hx rfl (hb hby at_133) rfl rfl (Steps.refl _)) ?_
  show own_Fin _ _ _ _ (T34.setTop (mkF m 135 #[.val (.long q1), .second, .val (.long q2), .second, .val (.long q3), .second, iv p4, iv v7_21, iv v8_22, iv v9_23, .val (.long v10_24), .second, .val (.long v12_25), .second, .val (.long v14_26), .second, .val (.double (FP.l2d v10_24)), .second, .val (.double (FP.l2d v12_25)), .second, .val (.double (FP.l2d v14_26)), .second, .val (.long v22_27), .second, .val (.long v24_28), .second, .val (.long v26_29), .second, rv b30, iv (1 : Int32), .unset, .unset, .unset, .unset, .unset, .unset, .unset, .unset] []))
  refine own_go (XS.aload X34.here hx rfl (hb hby at_135) rfl rfl (Steps.refl _)) ?_
  show own_Fin _ _ _ _ (T34.setTop (mkF m 137 #[.val (.long q1), .second, .val (.long q2), .second, .val (.long q3), .second, iv p4, iv v7_21, iv v8_22, iv v9_23, .val (.long v10_24), .second, .val (.long v12_25), .second, .val (.long v14_26), .second, .val (.double (FP.l2d v10_24)), .second, .val (.double (FP.l2d v12_25)), .second, .val (.double (FP.l2d v14_26)), .second, .val (.long v22_27), .second, .val (.long v24_28), .second, .val (.long v26_29), .second, rv b30, iv (1 : Int32), .unset, .unset, .unset, .unset, .unset, .unset, .unset, .unset] [(.ref b30)]))
  refine own_go (XS.dload X34.here hx rfl (hb hby at_137) rfl (Steps.refl _)) ?_
  show own_Fin _ _ _ _ (T34.setTop (mkF m 139 #[.val (.long q1), .second, .val (.long q2), .second, .val (.long q3), .second, iv p4, iv v7_21, iv v8_22, iv v9_23, .val (.long v10_24), .second, .val (.long v12_25), .second, .val (.long v14_26), .second, .val (.double (FP.l2d v10_24)), .second, .val (.double (FP.l2d v12_25)), .second, .val (.double (FP.l2d v14_26)), .second, .val (.long v22_27), .second, .val (.long v24_28), .second, .val (.long v26_29), .second, rv b30, iv (1 : Int32), .unset, .unset, .unset, .unset, .unset, .unset, .unset, .unset] [(.double (FP.l2d v12_25)), (.ref b30)]))
  obtain ⟨cq35, kq35, q35a, q35b, q35c⟩ := isOf hZ e34 r32_0
  obtain ⟨_, _, ⟨T35, L35, k35, n35⟩, -, X35, ⟨Lc35, hQ35, l35, y35, z35⟩, st35⟩ := X34.virtualBack hx (y := (⟨"com/example/nosto/nosto/LogProduct", "add", "(D)V"⟩ : MethodName)) (z := (⟨"com/example/nosto/nosto/LogProduct", "add", "(D)V"⟩ : MethodName)) hown (mvT hZ (hw _ (List.mem_of_getElem? (i := 9) rfl))) (mvT hZ (hw _ (List.mem_of_getElem? (i := 10) rfl))) (notFace_of_selects (args := #[]) (mvT hZ (hw _ (List.mem_of_getElem? (i := 12) rfl)))) (mvT hZ (hw _ (List.mem_of_getElem? (i := 12) rfl))) (mvT hZ (hw _ (List.mem_of_getElem? (i := 11) rfl))) (by decide) (backOf (W := 0) (rmadd l Z a0 hw [] b30 (FP.l2d v12_25) u2_32 w2_32 (vx64) (0) (vx69) rn T32.heap n0 Z32 r32_0 r32_1 r32_2 g_b30 H r32_3 r32_4 hD69 hR64 hR69 (by omega) (by omega) (by omega)) hZ (hw _ (List.mem_of_getElem? (i := 13) rfl)) (hw _ (List.mem_of_getElem? (i := 2) rfl)) (by decide) (by decide)) q35a q35c (g := (mkF m 139 #[.val (.long q1), .second, .val (.long q2), .second, .val (.long q3), .second, iv p4, iv v7_21, iv v8_22, iv v9_23, .val (.long v10_24), .second, .val (.long v12_25), .second, .val (.long v14_26), .second, .val (.double (FP.l2d v10_24)), .second, .val (.double (FP.l2d v12_25)), .second, .val (.double (FP.l2d v14_26)), .second, .val (.long v22_27), .second, .val (.long v24_28), .second, .val (.long v26_29), .second, rv b30, iv (1 : Int32), .unset, .unset, .unset, .unset, .unset, .unset, .unset, .unset] [(.double (FP.l2d v12_25)), (.ref b30)])) rfl (by rw [hml]; rfl) (Steps.refl _) (argsL := [(.double (FP.l2d v12_25))]) (rest := []) (lenOf pd__28_D_29_V rfl) rfl (by show 2 * 0 + _ ≤ _; exact Nat.le_of_eq rfl) (hb hby at_139) (fun _ hv => ⟨rfl, e34, (by decide : 1 + 0 ≤ _), (by decide : 2 + 0 ≤ _)⟩)
  dsimp only [Pt.U, Pt.locs, Pt.cells, Pt.slots] at X35 l35 y35 z35 st35 hQ35
  subst l35 y35 z35
  refine own_go st35 ?_
  obtain ⟨u2_35, w2_35, rfl, Nq35, K35, r35_0, r35_1, r35_2, r35_3, r35_4⟩ := hQ35
  have r32_0_35 := r32_0.keep K35
  have Z35 : n0 ≤ T35.heap.size := Nat.le_trans Z32 K35.1
  obtain ⟨hbt1, hea1, heb1⟩ := own_b2 H (v := vx64 + vx69) (by omega) (by omega)
  have hrt1 := (H _ hbt1).1.1
  have N35 := Fr.app N34 Nq35
  show own_Fin _ _ _ _ (T35.setTop (mkF m 142 #[.val (.long q1), .second, .val (.long q2), .second, .val (.long q3), .second, iv p4, iv v7_21, iv v8_22, iv v9_23, .val (.long v10_24), .second, .val (.long v12_25), .second, .val (.long v14_26), .second, .val (.double (FP.l2d v10_24)), .second, .val (.double (FP.l2d v12_25)), .second, .val (.double (FP.l2d v14_26)), .second, .val (.long v22_27), .second, .val (.long v24_28), .second, .val (.long v26_29), .second, rv b30, iv (1 : Int32), .unset, .unset, .unset, .unset, .unset, .unset, .unset, .unset] []))
  refine own_go (XS.aload X35.here hx rfl (hb hby at_142) rfl rfl (Steps.refl _)) ?_
  show own_Fin _ _ _ _ (T35.setTop (mkF m 144 #[.val (.long q1), .second, .val (.long q2), .second, .val (.long q3), .second, iv p4, iv v7_21, iv v8_22, iv v9_23, .val (.long v10_24), .second, .val (.long v12_25), .second, .val (.long v14_26), .second, .val (.double (FP.l2d v10_24)), .second, .val (.double (FP.l2d v12_25)), .second, .val (.double (FP.l2d v14_26)), .second, .val (.long v22_27), .second, .val (.long v24_28), .second, .val (.long v26_29), .second, rv b30, iv (1 : Int32), .unset, .unset, .unset, .unset, .unset, .unset, .unset, .unset] [(.ref b30)]))
  obtain ⟨cq36, kq36, q36a, q36b, q36c⟩ := isOf hZ rfl r35_0
  obtain ⟨_, _, ⟨T36, L36, k36, n36⟩, -, X36, ⟨Lc36, hQ36, l36, y36, z36⟩, st36⟩ := X35.virtualBack hx (y := (⟨"com/example/nosto/nosto/LogProduct", "hi", "()D"⟩ : MethodName)) (z := (⟨"com/example/nosto/nosto/LogProduct", "hi", "()D"⟩ : MethodName)) hown (mvT hZ (hw _ (List.mem_of_getElem? (i := 18) rfl))) (mvT hZ (hw _ (List.mem_of_getElem? (i := 19) rfl))) (notFace_of_selects (args := #[]) (mvT hZ (hw _ (List.mem_of_getElem? (i := 21) rfl)))) (mvT hZ (hw _ (List.mem_of_getElem? (i := 21) rfl))) (mvT hZ (hw _ (List.mem_of_getElem? (i := 20) rfl))) (by decide) (backOf (W := 0) (rmhi l Z a0 hw [] b30 u2_35 T35.heap n0 Z35 r35_1) hZ (hw _ (List.mem_of_getElem? (i := 22) rfl)) (hw _ (List.mem_of_getElem? (i := 2) rfl)) (by decide) (by decide)) q36a q36c (g := (mkF m 144 #[.val (.long q1), .second, .val (.long q2), .second, .val (.long q3), .second, iv p4, iv v7_21, iv v8_22, iv v9_23, .val (.long v10_24), .second, .val (.long v12_25), .second, .val (.long v14_26), .second, .val (.double (FP.l2d v10_24)), .second, .val (.double (FP.l2d v12_25)), .second, .val (.double (FP.l2d v14_26)), .second, .val (.long v22_27), .second, .val (.long v24_28), .second, .val (.long v26_29), .second, rv b30, iv (1 : Int32), .unset, .unset, .unset, .unset, .unset, .unset, .unset, .unset] [(.ref b30)])) rfl (by rw [hml]; rfl) (Steps.refl _) (argsL := []) (rest := []) (lenOf pd__28__29_D rfl) rfl (by show 2 * 0 + _ ≤ _; exact Nat.le_of_eq rfl) (hb hby at_144) (fun _ hv => ⟨rfl, rfl, (by decide : 1 + 0 ≤ _), (by decide : 2 + 0 ≤ _)⟩)
  dsimp only [Pt.U, Pt.locs, Pt.cells, Pt.slots] at X36 l36 y36 z36 st36 hQ36
  subst l36 y36 z36
  obtain ⟨rfl, Nq36, e36⟩ := hQ36
  refine own_go st36 ?_
  have N36 := Fr.app N35 Nq36
  show own_Fin _ _ _ _ (T36.setTop (mkF m 147 #[.val (.long q1), .second, .val (.long q2), .second, .val (.long q3), .second, iv p4, iv v7_21, iv v8_22, iv v9_23, .val (.long v10_24), .second, .val (.long v12_25), .second, .val (.long v14_26), .second, .val (.double (FP.l2d v10_24)), .second, .val (.double (FP.l2d v12_25)), .second, .val (.double (FP.l2d v14_26)), .second, .val (.long v22_27), .second, .val (.long v24_28), .second, .val (.long v26_29), .second, rv b30, iv (1 : Int32), .unset, .unset, .unset, .unset, .unset, .unset, .unset, .unset] [(.double u2_35)]))
  refine own_go (XS.dstore X36.here hx rfl (hb hby at_147) rfl rfl (Steps.refl _)) ?_
  show own_Fin _ _ _ _ (T36.setTop (mkF m 149 #[.val (.long q1), .second, .val (.long q2), .second, .val (.long q3), .second, iv p4, iv v7_21, iv v8_22, iv v9_23, .val (.long v10_24), .second, .val (.long v12_25), .second, .val (.long v14_26), .second, .val (.double (FP.l2d v10_24)), .second, .val (.double (FP.l2d v12_25)), .second, .val (.double (FP.l2d v14_26)), .second, .val (.long v22_27), .second, .val (.long v24_28), .second, .val (.long v26_29), .second, rv b30, iv (1 : Int32), .val (.double u2_35), .second, .unset, .unset, .unset, .unset, .unset, .unset] []))
  refine own_go (XS.aload X36.here hx rfl (hb hby at_149) rfl rfl (Steps.refl _)) ?_
  show own_Fin _ _ _ _ (T36.setTop (mkF m 151 #[.val (.long q1), .second, .val (.long q2), .second, .val (.long q3), .second, iv p4, iv v7_21, iv v8_22, iv v9_23, .val (.long v10_24), .second, .val (.long v12_25), .second, .val (.long v14_26), .second, .val (.double (FP.l2d v10_24)), .second, .val (.double (FP.l2d v12_25)), .second, .val (.double (FP.l2d v14_26)), .second, .val (.long v22_27), .second, .val (.long v24_28), .second, .val (.long v26_29), .second, rv b30, iv (1 : Int32), .val (.double u2_35), .second, .unset, .unset, .unset, .unset, .unset, .unset] [(.ref b30)]))
  obtain ⟨cq37, kq37, q37a, q37b, q37c⟩ := isOf hZ e36 r35_0
  obtain ⟨_, _, ⟨T37, L37, k37, n37⟩, -, X37, ⟨Lc37, hQ37, l37, y37, z37⟩, st37⟩ := X36.virtualBack hx (y := (⟨"com/example/nosto/nosto/LogProduct", "lo", "()D"⟩ : MethodName)) (z := (⟨"com/example/nosto/nosto/LogProduct", "lo", "()D"⟩ : MethodName)) hown (mvT hZ (hw _ (List.mem_of_getElem? (i := 23) rfl))) (mvT hZ (hw _ (List.mem_of_getElem? (i := 24) rfl))) (notFace_of_selects (args := #[]) (mvT hZ (hw _ (List.mem_of_getElem? (i := 26) rfl)))) (mvT hZ (hw _ (List.mem_of_getElem? (i := 26) rfl))) (mvT hZ (hw _ (List.mem_of_getElem? (i := 25) rfl))) (by decide) (backOf (W := 0) (rmlo l Z a0 hw [] b30 w2_35 T35.heap n0 Z35 r35_2) hZ (hw _ (List.mem_of_getElem? (i := 27) rfl)) (hw _ (List.mem_of_getElem? (i := 2) rfl)) (by decide) (by decide)) q37a q37c (g := (mkF m 151 #[.val (.long q1), .second, .val (.long q2), .second, .val (.long q3), .second, iv p4, iv v7_21, iv v8_22, iv v9_23, .val (.long v10_24), .second, .val (.long v12_25), .second, .val (.long v14_26), .second, .val (.double (FP.l2d v10_24)), .second, .val (.double (FP.l2d v12_25)), .second, .val (.double (FP.l2d v14_26)), .second, .val (.long v22_27), .second, .val (.long v24_28), .second, .val (.long v26_29), .second, rv b30, iv (1 : Int32), .val (.double u2_35), .second, .unset, .unset, .unset, .unset, .unset, .unset] [(.ref b30)])) rfl (by rw [hml]; rfl) (Steps.refl _) (argsL := []) (rest := []) (lenOf pd__28__29_D rfl) rfl (by show 2 * 0 + _ ≤ _; exact Nat.le_of_eq rfl) (hb hby at_151) (fun _ hv => ⟨rfl, e36, (by decide : 1 + 0 ≤ _), (by decide : 2 + 0 ≤ _)⟩)
  dsimp only [Pt.U, Pt.locs, Pt.cells, Pt.slots] at X37 l37 y37 z37 st37 hQ37
  subst l37 y37 z37
  obtain ⟨rfl, Nq37, e37⟩ := hQ37
  refine own_go st37 ?_
  have N37 := Fr.app N36 Nq37
  show own_Fin _ _ _ _ (T37.setTop (mkF m 154 #[.val (.long q1), .second, .val (.long q2), .second, .val (.long q3), .second, iv p4, iv v7_21, iv v8_22, iv v9_23, .val (.long v10_24), .second, .val (.long v12_25), .second, .val (.long v14_26), .second, .val (.double (FP.l2d v10_24)), .second, .val (.double (FP.l2d v12_25)), .second, .val (.double (FP.l2d v14_26)), .second, .val (.long v22_27), .second, .val (.long v24_28), .second, .val (.long v26_29), .second, rv b30, iv (1 : Int32), .val (.double u2_35), .second, .unset, .unset, .unset, .unset, .unset, .unset] [(.double w2_35)]))
  refine own_go (XS.dstore X37.here hx rfl (hb hby at_154) rfl rfl (Steps.refl _)) ?_
  show own_Fin _ _ _ _ (T37.setTop (mkF m 156 #[.val (.long q1), .second, .val (.long q2), .second, .val (.long q3), .second, iv p4, iv v7_21, iv v8_22, iv v9_23, .val (.long v10_24), .second, .val (.long v12_25), .second, .val (.long v14_26), .second, .val (.double (FP.l2d v10_24)), .second, .val (.double (FP.l2d v12_25)), .second, .val (.double (FP.l2d v14_26)), .second, .val (.long v22_27), .second, .val (.long v24_28), .second, .val (.long v26_29), .second, rv b30, iv (1 : Int32), .val (.double u2_35), .second, .val (.double w2_35), .second, .unset, .unset, .unset, .unset] []))
  refine own_go (XS.iload X37.here hx rfl (hb hby at_156) rfl (Steps.refl _)) ?_
  show own_Fin _ _ _ _ (T37.setTop (mkF m 158 #[.val (.long q1), .second, .val (.long q2), .second, .val (.long q3), .second, iv p4, iv v7_21, iv v8_22, iv v9_23, .val (.long v10_24), .second, .val (.long v12_25), .second, .val (.long v14_26), .second, .val (.double (FP.l2d v10_24)), .second, .val (.double (FP.l2d v12_25)), .second, .val (.double (FP.l2d v14_26)), .second, .val (.long v22_27), .second, .val (.long v24_28), .second, .val (.long v26_29), .second, rv b30, iv (1 : Int32), .val (.double u2_35), .second, .val (.double w2_35), .second, .unset, .unset, .unset, .unset] [(.int (1 : Int32))]))
  refine own_go (XS.ifNo X37.here hx rfl (hb hby at_158) rfl ((if0 _ _).trans (feq (by decide : ¬ ((1 : Int32) = (0 : Int32)))).1) (Steps.refl _)) ?_
  show own_Fin _ _ _ _ (T37.setTop (mkF m 161 #[.val (.long q1), .second, .val (.long q2), .second, .val (.long q3), .second, iv p4, iv v7_21, iv v8_22, iv v9_23, .val (.long v10_24), .second, .val (.long v12_25), .second, .val (.long v14_26), .second, .val (.double (FP.l2d v10_24)), .second, .val (.double (FP.l2d v12_25)), .second, .val (.double (FP.l2d v14_26)), .second, .val (.long v22_27), .second, .val (.long v24_28), .second, .val (.long v26_29), .second, rv b30, iv (1 : Int32), .val (.double u2_35), .second, .val (.double w2_35), .second, .unset, .unset, .unset, .unset] []))
  refine own_go (XS.dload X37.here hx rfl (hb hby at_161) rfl (Steps.refl _)) ?_
  show own_Fin _ _ _ _ (T37.setTop (mkF m 163 #[.val (.long q1), .second, .val (.long q2), .second, .val (.long q3), .second, iv p4, iv v7_21, iv v8_22, iv v9_23, .val (.long v10_24), .second, .val (.long v12_25), .second, .val (.long v14_26), .second, .val (.double (FP.l2d v10_24)), .second, .val (.double (FP.l2d v12_25)), .second, .val (.double (FP.l2d v14_26)), .second, .val (.long v22_27), .second, .val (.long v24_28), .second, .val (.long v26_29), .second, rv b30, iv (1 : Int32), .val (.double u2_35), .second, .val (.double w2_35), .second, .unset, .unset, .unset, .unset] [(.double u2_35)]))
  refine own_go (XS.dload X37.here hx rfl (hb hby at_163) rfl (Steps.refl _)) ?_
  show own_Fin _ _ _ _ (T37.setTop (mkF m 165 #[.val (.long q1), .second, .val (.long q2), .second, .val (.long q3), .second, iv p4, iv v7_21, iv v8_22, iv v9_23, .val (.long v10_24), .second, .val (.long v12_25), .second, .val (.long v14_26), .second, .val (.double (FP.l2d v10_24)), .second, .val (.double (FP.l2d v12_25)), .second, .val (.double (FP.l2d v14_26)), .second, .val (.long v22_27), .second, .val (.long v24_28), .second, .val (.long v26_29), .second, rv b30, iv (1 : Int32), .val (.double u2_35), .second, .val (.double w2_35), .second, .unset, .unset, .unset, .unset] [(.double (FP.l2d v10_24)), (.double u2_35)]))
  refine own_go (XS.dload X37.here hx rfl (hb hby at_165) rfl (Steps.refl _)) ?_
  show own_Fin _ _ _ _ (T37.setTop (mkF m 167 #[.val (.long q1), .second, .val (.long q2), .second, .val (.long q3), .second, iv p4, iv v7_21, iv v8_22, iv v9_23, .val (.long v10_24), .second, .val (.long v12_25), .second, .val (.long v14_26), .second, .val (.double (FP.l2d v10_24)), .second, .val (.double (FP.l2d v12_25)), .second, .val (.double (FP.l2d v14_26)), .second, .val (.long v22_27), .second, .val (.long v24_28), .second, .val (.long v26_29), .second, rv b30, iv (1 : Int32), .val (.double u2_35), .second, .val (.double w2_35), .second, .unset, .unset, .unset, .unset] [(.double (FP.l2d v12_25)), (.double (FP.l2d v10_24)), (.double u2_35)]))
  have hd38 : Jvm.FP.Core.DInt (rn (vx64 + vx69)) (FP.dadd (FP.l2d v10_24) (FP.l2d v12_25)) := own_da H hD64 hD69 (by omega)
  refine own_go (XS.daddS X37.here hx rfl (hb hby at_167) rfl (own_nn64 hd38) rfl (Steps.refl _)) ?_
  show own_Fin _ _ _ _ (T37.setTop (mkF m 168 #[.val (.long q1), .second, .val (.long q2), .second, .val (.long q3), .second, iv p4, iv v7_21, iv v8_22, iv v9_23, .val (.long v10_24), .second, .val (.long v12_25), .second, .val (.long v14_26), .second, .val (.double (FP.l2d v10_24)), .second, .val (.double (FP.l2d v12_25)), .second, .val (.double (FP.l2d v14_26)), .second, .val (.long v22_27), .second, .val (.long v24_28), .second, .val (.long v26_29), .second, rv b30, iv (1 : Int32), .val (.double u2_35), .second, .val (.double w2_35), .second, .unset, .unset, .unset, .unset] [(.double (FP.dadd (FP.l2d v10_24) (FP.l2d v12_25))), (.double u2_35)]))
  refine own_go (XS.dcmpS X37.here hx rfl (hb hby at_168) rfl (show cmpValue (FP.dcmp u2_35 (FP.dadd (FP.l2d v10_24) (FP.l2d v12_25))) .l = (0 : Int32) from own_dc r35_3 hd38 .l) (Steps.refl _)) ?_
  show own_Fin _ _ _ _ (T37.setTop (mkF m 169 #[.val (.long q1), .second, .val (.long q2), .second, .val (.long q3), .second, iv p4, iv v7_21, iv v8_22, iv v9_23, .val (.long v10_24), .second, .val (.long v12_25), .second, .val (.long v14_26), .second, .val (.double (FP.l2d v10_24)), .second, .val (.double (FP.l2d v12_25)), .second, .val (.double (FP.l2d v14_26)), .second, .val (.long v22_27), .second, .val (.long v24_28), .second, .val (.long v26_29), .second, rv b30, iv (1 : Int32), .val (.double u2_35), .second, .val (.double w2_35), .second, .unset, .unset, .unset, .unset] [(.int (0 : Int32))]))
  refine own_go (XS.ifNo X37.here hx rfl (hb hby at_169) rfl ((if0 _ _).trans (teq (by decide : (0 : Int32) = (0 : Int32))).2) (Steps.refl _)) ?_
  show own_Fin _ _ _ _ (T37.setTop (mkF m 172 #[.val (.long q1), .second, .val (.long q2), .second, .val (.long q3), .second, iv p4, iv v7_21, iv v8_22, iv v9_23, .val (.long v10_24), .second, .val (.long v12_25), .second, .val (.long v14_26), .second, .val (.double (FP.l2d v10_24)), .second, .val (.double (FP.l2d v12_25)), .second, .val (.double (FP.l2d v14_26)), .second, .val (.long v22_27), .second, .val (.long v24_28), .second, .val (.long v26_29), .second, rv b30, iv (1 : Int32), .val (.double u2_35), .second, .val (.double w2_35), .second, .unset, .unset, .unset, .unset] []))
  refine own_go (XS.dload X37.here hx rfl (hb hby at_172) rfl (Steps.refl _)) ?_
  show own_Fin _ _ _ _ (T37.setTop (mkF m 174 #[.val (.long q1), .second, .val (.long q2), .second, .val (.long q3), .second, iv p4, iv v7_21, iv v8_22, iv v9_23, .val (.long v10_24), .second, .val (.long v12_25), .second, .val (.long v14_26), .second, .val (.double (FP.l2d v10_24)), .second, .val (.double (FP.l2d v12_25)), .second, .val (.double (FP.l2d v14_26)), .second, .val (.long v22_27), .second, .val (.long v24_28), .second, .val (.long v26_29), .second, rv b30, iv (1 : Int32), .val (.double u2_35), .second, .val (.double w2_35), .second, .unset, .unset, .unset, .unset] [(.double w2_35)]))
  refine own_go (XS.d2lS X37.here hx rfl (hb hby at_174) rfl rfl (Steps.refl _)) ?_
  show own_Fin _ _ _ _ (T37.setTop (mkF m 175 #[.val (.long q1), .second, .val (.long q2), .second, .val (.long q3), .second, iv p4, iv v7_21, iv v8_22, iv v9_23, .val (.long v10_24), .second, .val (.long v12_25), .second, .val (.long v14_26), .second, .val (.double (FP.l2d v10_24)), .second, .val (.double (FP.l2d v12_25)), .second, .val (.double (FP.l2d v14_26)), .second, .val (.long v22_27), .second, .val (.long v24_28), .second, .val (.long v26_29), .second, rv b30, iv (1 : Int32), .val (.double u2_35), .second, .val (.double w2_35), .second, .unset, .unset, .unset, .unset] [(.long (FP.d2l w2_35))]))
  have hq175 := own_d2l r35_4 (by omega)
  refine own_go (XS.l2dS X37.here hx rfl (hb hby at_175) rfl rfl (Steps.refl _)) ?_
  show own_Fin _ _ _ _ (T37.setTop (mkF m 176 #[.val (.long q1), .second, .val (.long q2), .second, .val (.long q3), .second, iv p4, iv v7_21, iv v8_22, iv v9_23, .val (.long v10_24), .second, .val (.long v12_25), .second, .val (.long v14_26), .second, .val (.double (FP.l2d v10_24)), .second, .val (.double (FP.l2d v12_25)), .second, .val (.double (FP.l2d v14_26)), .second, .val (.long v22_27), .second, .val (.long v24_28), .second, .val (.long v26_29), .second, rv b30, iv (1 : Int32), .val (.double u2_35), .second, .val (.double w2_35), .second, .unset, .unset, .unset, .unset] [(.double (FP.l2d (FP.d2l w2_35)))]))
  have hD176 : Jvm.FP.Core.DInt (0 + (vx64 + vx69 - rn (vx64 + vx69))) (FP.l2d (FP.d2l w2_35)) := by have q := own_dl H (a := (FP.d2l w2_35)) (by rw [hq175]; omega); rw [hq175, own_ex H (by omega) (own_sml (by omega))] at q; exact q
  refine own_go (XS.dload X37.here hx rfl (hb hby at_176) rfl (Steps.refl _)) ?_
  show own_Fin _ _ _ _ (T37.setTop (mkF m 178 #[.val (.long q1), .second, .val (.long q2), .second, .val (.long q3), .second, iv p4, iv v7_21, iv v8_22, iv v9_23, .val (.long v10_24), .second, .val (.long v12_25), .second, .val (.long v14_26), .second, .val (.double (FP.l2d v10_24)), .second, .val (.double (FP.l2d v12_25)), .second, .val (.double (FP.l2d v14_26)), .second, .val (.long v22_27), .second, .val (.long v24_28), .second, .val (.long v26_29), .second, rv b30, iv (1 : Int32), .val (.double u2_35), .second, .val (.double w2_35), .second, .unset, .unset, .unset, .unset] [(.double w2_35), (.double (FP.l2d (FP.d2l w2_35)))]))
  refine own_go (XS.dcmpS X37.here hx rfl (hb hby at_178) rfl (show cmpValue (FP.dcmp (FP.l2d (FP.d2l w2_35)) w2_35) .l = (0 : Int32) from own_dc hD176 r35_4 .l) (Steps.refl _)) ?_
  show own_Fin _ _ _ _ (T37.setTop (mkF m 179 #[.val (.long q1), .second, .val (.long q2), .second, .val (.long q3), .second, iv p4, iv v7_21, iv v8_22, iv v9_23, .val (.long v10_24), .second, .val (.long v12_25), .second, .val (.long v14_26), .second, .val (.double (FP.l2d v10_24)), .second, .val (.double (FP.l2d v12_25)), .second, .val (.double (FP.l2d v14_26)), .second, .val (.long v22_27), .second, .val (.long v24_28), .second, .val (.long v26_29), .second, rv b30, iv (1 : Int32), .val (.double u2_35), .second, .val (.double w2_35), .second, .unset, .unset, .unset, .unset] [(.int (0 : Int32))]))
  refine own_go (XS.ifNo X37.here hx rfl (hb hby at_179) rfl ((if0 _ _).trans (teq (by decide : (0 : Int32) = (0 : Int32))).2) (Steps.refl _)) ?_
  show own_Fin _ _ _ _ (T37.setTop (mkF m 182 #[.val (.long q1), .second, .val (.long q2), .second, .val (.long q3), .second, iv p4, iv v7_21, iv v8_22, iv v9_23, .val (.long v10_24), .second, .val (.long v12_25), .second, .val (.long v14_26), .second, .val (.double (FP.l2d v10_24)), .second, .val (.double (FP.l2d v12_25)), .second, .val (.double (FP.l2d v14_26)), .second, .val (.long v22_27), .second, .val (.long v24_28), .second, .val (.long v26_29), .second, rv b30, iv (1 : Int32), .val (.double u2_35), .second, .val (.double w2_35), .second, .unset, .unset, .unset, .unset] []))
  refine own_go (XS.dload X37.here hx rfl (hb hby at_182) rfl (Steps.refl _)) ?_
  show own_Fin _ _ _ _ (T37.setTop (mkF m 184 #[.val (.long q1), .second, .val (.long q2), .second, .val (.long q3), .second, iv p4, iv v7_21, iv v8_22, iv v9_23, .val (.long v10_24), .second, .val (.long v12_25), .second, .val (.long v14_26), .second, .val (.double (FP.l2d v10_24)), .second, .val (.double (FP.l2d v12_25)), .second, .val (.double (FP.l2d v14_26)), .second, .val (.long v22_27), .second, .val (.long v24_28), .second, .val (.long v26_29), .second, rv b30, iv (1 : Int32), .val (.double u2_35), .second, .val (.double w2_35), .second, .unset, .unset, .unset, .unset] [(.double u2_35)]))
  refine own_go (XS.d2lS X37.here hx rfl (hb hby at_184) rfl rfl (Steps.refl _)) ?_
  show own_Fin _ _ _ _ (T37.setTop (mkF m 185 #[.val (.long q1), .second, .val (.long q2), .second, .val (.long q3), .second, iv p4, iv v7_21, iv v8_22, iv v9_23, .val (.long v10_24), .second, .val (.long v12_25), .second, .val (.long v14_26), .second, .val (.double (FP.l2d v10_24)), .second, .val (.double (FP.l2d v12_25)), .second, .val (.double (FP.l2d v14_26)), .second, .val (.long v22_27), .second, .val (.long v24_28), .second, .val (.long v26_29), .second, rv b30, iv (1 : Int32), .val (.double u2_35), .second, .val (.double w2_35), .second, .unset, .unset, .unset, .unset] [(.long (FP.d2l u2_35))]))
  refine own_go (XS.dload X37.here hx rfl (hb hby at_185) rfl (Steps.refl _)) ?_
  show own_Fin _ _ _ _ (T37.setTop (mkF m 187 #[.val (.long q1), .second, .val (.long q2), .second, .val (.long q3), .second, iv p4, iv v7_21, iv v8_22, iv v9_23, .val (.long v10_24), .second, .val (.long v12_25), .second, .val (.long v14_26), .second, .val (.double (FP.l2d v10_24)), .second, .val (.double (FP.l2d v12_25)), .second, .val (.double (FP.l2d v14_26)), .second, .val (.long v22_27), .second, .val (.long v24_28), .second, .val (.long v26_29), .second, rv b30, iv (1 : Int32), .val (.double u2_35), .second, .val (.double w2_35), .second, .unset, .unset, .unset, .unset] [(.double w2_35), (.long (FP.d2l u2_35))]))
  refine own_go (XS.d2lS X37.here hx rfl (hb hby at_187) rfl rfl (Steps.refl _)) ?_
  show own_Fin _ _ _ _ (T37.setTop (mkF m 188 #[.val (.long q1), .second, .val (.long q2), .second, .val (.long q3), .second, iv p4, iv v7_21, iv v8_22, iv v9_23, .val (.long v10_24), .second, .val (.long v12_25), .second, .val (.long v14_26), .second, .val (.double (FP.l2d v10_24)), .second, .val (.double (FP.l2d v12_25)), .second, .val (.double (FP.l2d v14_26)), .second, .val (.long v22_27), .second, .val (.long v24_28), .second, .val (.long v26_29), .second, rv b30, iv (1 : Int32), .val (.double u2_35), .second, .val (.double w2_35), .second, .unset, .unset, .unset, .unset] [(.long (FP.d2l w2_35)), (.long (FP.d2l u2_35))]))
  refine own_go (XS.ladd X37.here hx rfl (hb hby at_188) rfl (Steps.refl _)) ?_
  show own_Fin _ _ _ _ (T37.setTop (mkF m 189 #[.val (.long q1), .second, .val (.long q2), .second, .val (.long q3), .second, iv p4, iv v7_21, iv v8_22, iv v9_23, .val (.long v10_24), .second, .val (.long v12_25), .second, .val (.long v14_26), .second, .val (.double (FP.l2d v10_24)), .second, .val (.double (FP.l2d v12_25)), .second, .val (.double (FP.l2d v14_26)), .second, .val (.long v22_27), .second, .val (.long v24_28), .second, .val (.long v26_29), .second, rv b30, iv (1 : Int32), .val (.double u2_35), .second, .val (.double w2_35), .second, .unset, .unset, .unset, .unset] [(.long ((FP.d2l u2_35) + (FP.d2l w2_35)))]))
  refine own_go (XS.lload X37.here hx rfl (hb hby at_189) rfl (Steps.refl _)) ?_
  show own_Fin _ _ _ _ (T37.setTop (mkF m 191 #[.val (.long q1), .second, .val (.long q2), .second, .val (.long q3), .second, iv p4, iv v7_21, iv v8_22, iv v9_23, .val (.long v10_24), .second, .val (.long v12_25), .second, .val (.long v14_26), .second, .val (.double (FP.l2d v10_24)), .second, .val (.double (FP.l2d v12_25)), .second, .val (.double (FP.l2d v14_26)), .second, .val (.long v22_27), .second, .val (.long v24_28), .second, .val (.long v26_29), .second, rv b30, iv (1 : Int32), .val (.double u2_35), .second, .val (.double w2_35), .second, .unset, .unset, .unset, .unset] [(.long v22_27), (.long ((FP.d2l u2_35) + (FP.d2l w2_35)))]))
  refine own_go (XS.lload X37.here hx rfl (hb hby at_191) rfl (Steps.refl _)) ?_
  show own_Fin _ _ _ _ (T37.setTop (mkF m 193 #[.val (.long q1), .second, .val (.long q2), .second, .val (.long q3), .second, iv p4, iv v7_21, iv v8_22, iv v9_23, .val (.long v10_24), .second, .val (.long v12_25), .second, .val (.long v14_26), .second, .val (.double (FP.l2d v10_24)), .second, .val (.double (FP.l2d v12_25)), .second, .val (.double (FP.l2d v14_26)), .second, .val (.long v22_27), .second, .val (.long v24_28), .second, .val (.long v26_29), .second, rv b30, iv (1 : Int32), .val (.double u2_35), .second, .val (.double w2_35), .second, .unset, .unset, .unset, .unset] [(.long v24_28), (.long v22_27), (.long ((FP.d2l u2_35) + (FP.d2l w2_35)))]))
  refine own_go (XS.ladd X37.here hx rfl (hb hby at_193) rfl (Steps.refl _)) ?_
  show own_Fin _ _ _ _ (T37.setTop (mkF m 194 #[.val (.long q1), .second, .val (.long q2), .second, .val (.long q3), .second, iv p4, iv v7_21, iv v8_22, iv v9_23, .val (.long v10_24), .second, .val (.long v12_25), .second, .val (.long v14_26), .second, .val (.double (FP.l2d v10_24)), .second, .val (.double (FP.l2d v12_25)), .second, .val (.double (FP.l2d v14_26)), .second, .val (.long v22_27), .second, .val (.long v24_28), .second, .val (.long v26_29), .second, rv b30, iv (1 : Int32), .val (.double u2_35), .second, .val (.double w2_35), .second, .unset, .unset, .unset, .unset] [(.long (v22_27 + v24_28)), (.long ((FP.d2l u2_35) + (FP.d2l w2_35)))]))
  refine own_go (XS.lcmp X37.here hx rfl (hb hby at_194) rfl (Steps.refl _)) ?_
  show own_Fin _ _ _ _ (T37.setTop (mkF m 195 #[.val (.long q1), .second, .val (.long q2), .second, .val (.long q3), .second, iv p4, iv v7_21, iv v8_22, iv v9_23, .val (.long v10_24), .second, .val (.long v12_25), .second, .val (.long v14_26), .second, .val (.double (FP.l2d v10_24)), .second, .val (.double (FP.l2d v12_25)), .second, .val (.double (FP.l2d v14_26)), .second, .val (.long v22_27), .second, .val (.long v24_28), .second, .val (.long v26_29), .second, rv b30, iv (1 : Int32), .val (.double u2_35), .second, .val (.double w2_35), .second, .unset, .unset, .unset, .unset] [(.int (lcmpW ((FP.d2l u2_35) + (FP.d2l w2_35)) (v22_27 + v24_28)))]))
  have hh39 := own_d2l r35_3 (by omega)
  have hz39_0 : v22_27.toInt = vx64 := hz_v22_27 ▸ hl79
  have hz39_1 : v24_28.toInt = vx69 := hz_v24_28 ▸ hl84
  have hz39_2 : v26_29.toInt = vx74 := hz_v26_29 ▸ hl89
  refine own_go (XS.ifNo X37.here hx rfl (hb hby at_195) rfl ((if0 _ _).trans (teq (show (lcmpW ((FP.d2l u2_35) + (FP.d2l w2_35)) (v22_27 + v24_28)) = (0 : Int32) from own_lc (own_sum2 (by rw [hh39, hq175, hz39_0, hz39_1]; omega) (by rw [hh39, hq175]; omega)))).2) (Steps.refl _)) ?_
  show own_Fin _ _ _ _ (T37.setTop (mkF m 198 #[.val (.long q1), .second, .val (.long q2), .second, .val (.long q3), .second, iv p4, iv v7_21, iv v8_22, iv v9_23, .val (.long v10_24), .second, .val (.long v12_25), .second, .val (.long v14_26), .second, .val (.double (FP.l2d v10_24)), .second, .val (.double (FP.l2d v12_25)), .second, .val (.double (FP.l2d v14_26)), .second, .val (.long v22_27), .second, .val (.long v24_28), .second, .val (.long v26_29), .second, rv b30, iv (1 : Int32), .val (.double u2_35), .second, .val (.double w2_35), .second, .unset, .unset, .unset, .unset] []))
  refine own_go (XS.iconst X37.here hx rfl (hb hby at_198) (Steps.refl _)) ?_
  show own_Fin _ _ _ _ (T37.setTop (mkF m 199 #[.val (.long q1), .second, .val (.long q2), .second, .val (.long q3), .second, iv p4, iv v7_21, iv v8_22, iv v9_23, .val (.long v10_24), .second, .val (.long v12_25), .second, .val (.long v14_26), .second, .val (.double (FP.l2d v10_24)), .second, .val (.double (FP.l2d v12_25)), .second, .val (.double (FP.l2d v14_26)), .second, .val (.long v22_27), .second, .val (.long v24_28), .second, .val (.long v26_29), .second, rv b30, iv (1 : Int32), .val (.double u2_35), .second, .val (.double w2_35), .second, .unset, .unset, .unset, .unset] [(.int (1 : Int32))]))
  refine own_go (XS.goto X37.here hx rfl (pc0 := 199) (pc' := 203) rfl (hb hby at_199) (by decide) (by decide) (Steps.refl _)) ?_
  show own_Fin _ _ _ _ (T37.setTop (mkF m 203 #[.val (.long q1), .second, .val (.long q2), .second, .val (.long q3), .second, iv p4, iv v7_21, iv v8_22, iv v9_23, .val (.long v10_24), .second, .val (.long v12_25), .second, .val (.long v14_26), .second, .val (.double (FP.l2d v10_24)), .second, .val (.double (FP.l2d v12_25)), .second, .val (.double (FP.l2d v14_26)), .second, .val (.long v22_27), .second, .val (.long v24_28), .second, .val (.long v26_29), .second, rv b30, iv (1 : Int32), .val (.double u2_35), .second, .val (.double w2_35), .second, .unset, .unset, .unset, .unset] [(.int (1 : Int32))]))
  refine own_go (XS.istore X37.here hx rfl (hb hby at_203) rfl rfl (Steps.refl _)) ?_
  show own_Fin _ _ _ _ (T37.setTop (mkF m 205 #[.val (.long q1), .second, .val (.long q2), .second, .val (.long q3), .second, iv p4, iv v7_21, iv v8_22, iv v9_23, .val (.long v10_24), .second, .val (.long v12_25), .second, .val (.long v14_26), .second, .val (.double (FP.l2d v10_24)), .second, .val (.double (FP.l2d v12_25)), .second, .val (.double (FP.l2d v14_26)), .second, .val (.long v22_27), .second, .val (.long v24_28), .second, .val (.long v26_29), .second, rv b30, iv (1 : Int32), .val (.double u2_35), .second, .val (.double w2_35), .second, .unset, .unset, .unset, .unset] []))
  refine own_go (XS.aload X37.here hx rfl (hb hby at_205) rfl rfl (Steps.refl _)) ?_
  show own_Fin _ _ _ _ (T37.setTop (mkF m 207 #[.val (.long q1), .second, .val (.long q2), .second, .val (.long q3), .second, iv p4, iv v7_21, iv v8_22, iv v9_23, .val (.long v10_24), .second, .val (.long v12_25), .second, .val (.long v14_26), .second, .val (.double (FP.l2d v10_24)), .second, .val (.double (FP.l2d v12_25)), .second, .val (.double (FP.l2d v14_26)), .second, .val (.long v22_27), .second, .val (.long v24_28), .second, .val (.long v26_29), .second, rv b30, iv (1 : Int32), .val (.double u2_35), .second, .val (.double w2_35), .second, .unset, .unset, .unset, .unset] [(.ref b30)]))
  refine own_go (XS.dload X37.here hx rfl (hb hby at_207) rfl (Steps.refl _)) ?_
  show own_Fin _ _ _ _ (T37.setTop (mkF m 209 #[.val (.long q1), .second, .val (.long q2), .second, .val (.long q3), .second, iv p4, iv v7_21, iv v8_22, iv v9_23, .val (.long v10_24), .second, .val (.long v12_25), .second, .val (.long v14_26), .second, .val (.double (FP.l2d v10_24)), .second, .val (.double (FP.l2d v12_25)), .second, .val (.double (FP.l2d v14_26)), .second, .val (.long v22_27), .second, .val (.long v24_28), .second, .val (.long v26_29), .second, rv b30, iv (1 : Int32), .val (.double u2_35), .second, .val (.double w2_35), .second, .unset, .unset, .unset, .unset] [(.double (FP.l2d v14_26)), (.ref b30)]))
  obtain ⟨cq40, kq40, q40a, q40b, q40c⟩ := isOf hZ e37 r35_0
  obtain ⟨_, _, ⟨T40, L40, k40, n40⟩, -, X40, ⟨Lc40, hQ40, l40, y40, z40⟩, st40⟩ := X37.virtualBack hx (y := (⟨"com/example/nosto/nosto/LogProduct", "add", "(D)V"⟩ : MethodName)) (z := (⟨"com/example/nosto/nosto/LogProduct", "add", "(D)V"⟩ : MethodName)) hown (mvT hZ (hw _ (List.mem_of_getElem? (i := 9) rfl))) (mvT hZ (hw _ (List.mem_of_getElem? (i := 10) rfl))) (notFace_of_selects (args := #[]) (mvT hZ (hw _ (List.mem_of_getElem? (i := 12) rfl)))) (mvT hZ (hw _ (List.mem_of_getElem? (i := 12) rfl))) (mvT hZ (hw _ (List.mem_of_getElem? (i := 11) rfl))) (by decide) (backOf (W := 0) (rmadd l Z a0 hw [] b30 (FP.l2d v14_26) u2_35 w2_35 (rn (vx64 + vx69)) (0 + (vx64 + vx69 - rn (vx64 + vx69))) (vx74) rn T35.heap n0 Z35 r35_0 r35_1 r35_2 g_b30 H r35_3 r35_4 hD74 hrt1 hR74 (by omega) (by omega) (by omega)) hZ (hw _ (List.mem_of_getElem? (i := 13) rfl)) (hw _ (List.mem_of_getElem? (i := 2) rfl)) (by decide) (by decide)) q40a q40c (g := (mkF m 209 #[.val (.long q1), .second, .val (.long q2), .second, .val (.long q3), .second, iv p4, iv v7_21, iv v8_22, iv v9_23, .val (.long v10_24), .second, .val (.long v12_25), .second, .val (.long v14_26), .second, .val (.double (FP.l2d v10_24)), .second, .val (.double (FP.l2d v12_25)), .second, .val (.double (FP.l2d v14_26)), .second, .val (.long v22_27), .second, .val (.long v24_28), .second, .val (.long v26_29), .second, rv b30, iv (1 : Int32), .val (.double u2_35), .second, .val (.double w2_35), .second, .unset, .unset, .unset, .unset] [(.double (FP.l2d v14_26)), (.ref b30)])) rfl (by rw [hml]; rfl) (Steps.refl _) (argsL := [(.double (FP.l2d v14_26))]) (rest := []) (lenOf pd__28_D_29_V rfl) rfl (by show 2 * 0 + _ ≤ _; exact Nat.le_of_eq rfl) (hb hby at_209) (fun _ hv => ⟨rfl, e37, (by decide : 1 + 0 ≤ _), (by decide : 2 + 0 ≤ _)⟩)
  dsimp only [Pt.U, Pt.locs, Pt.cells, Pt.slots] at X40 l40 y40 z40 st40 hQ40
  subst l40 y40 z40
  refine own_go st40 ?_
  obtain ⟨u2_40, w2_40, rfl, Nq40, K40, r40_0, r40_1, r40_2, r40_3, r40_4⟩ := hQ40
  have r35_0_40 := r35_0.keep K40
  have Z40 : n0 ≤ T40.heap.size := Nat.le_trans Z35 K40.1
  obtain ⟨hbt2, hea2, heb2⟩ := own_b2 H (v := rn (vx64 + vx69) + vx74) (by omega) (by omega)
  have hrt2 := (H _ hbt2).1.1
  have N40 := Fr.app N37 Nq40
  show own_Fin _ _ _ _ (T40.setTop (mkF m 212 #[.val (.long q1), .second, .val (.long q2), .second, .val (.long q3), .second, iv p4, iv v7_21, iv v8_22, iv v9_23, .val (.long v10_24), .second, .val (.long v12_25), .second, .val (.long v14_26), .second, .val (.double (FP.l2d v10_24)), .second, .val (.double (FP.l2d v12_25)), .second, .val (.double (FP.l2d v14_26)), .second, .val (.long v22_27), .second, .val (.long v24_28), .second, .val (.long v26_29), .second, rv b30, iv (1 : Int32), .val (.double u2_35), .second, .val (.double w2_35), .second, .unset, .unset, .unset, .unset] []))
  refine own_go (XS.aload X40.here hx rfl (hb hby at_212) rfl rfl (Steps.refl _)) ?_
  show own_Fin _ _ _ _ (T40.setTop (mkF m 214 #[.val (.long q1), .second, .val (.long q2), .second, .val (.long q3), .second, iv p4, iv v7_21, iv v8_22, iv v9_23, .val (.long v10_24), .second, .val (.long v12_25), .second, .val (.long v14_26), .second, .val (.double (FP.l2d v10_24)), .second, .val (.double (FP.l2d v12_25)), .second, .val (.double (FP.l2d v14_26)), .second, .val (.long v22_27), .second, .val (.long v24_28), .second, .val (.long v26_29), .second, rv b30, iv (1 : Int32), .val (.double u2_35), .second, .val (.double w2_35), .second, .unset, .unset, .unset, .unset] [(.ref b30)]))
  obtain ⟨cq41, kq41, q41a, q41b, q41c⟩ := isOf hZ rfl r40_0
  obtain ⟨_, _, ⟨T41, L41, k41, n41⟩, -, X41, ⟨Lc41, hQ41, l41, y41, z41⟩, st41⟩ := X40.virtualBack hx (y := (⟨"com/example/nosto/nosto/LogProduct", "hi", "()D"⟩ : MethodName)) (z := (⟨"com/example/nosto/nosto/LogProduct", "hi", "()D"⟩ : MethodName)) hown (mvT hZ (hw _ (List.mem_of_getElem? (i := 18) rfl))) (mvT hZ (hw _ (List.mem_of_getElem? (i := 19) rfl))) (notFace_of_selects (args := #[]) (mvT hZ (hw _ (List.mem_of_getElem? (i := 21) rfl)))) (mvT hZ (hw _ (List.mem_of_getElem? (i := 21) rfl))) (mvT hZ (hw _ (List.mem_of_getElem? (i := 20) rfl))) (by decide) (backOf (W := 0) (rmhi l Z a0 hw [] b30 u2_40 T40.heap n0 Z40 r40_1) hZ (hw _ (List.mem_of_getElem? (i := 22) rfl)) (hw _ (List.mem_of_getElem? (i := 2) rfl)) (by decide) (by decide)) q41a q41c (g := (mkF m 214 #[.val (.long q1), .second, .val (.long q2), .second, .val (.long q3), .second, iv p4, iv v7_21, iv v8_22, iv v9_23, .val (.long v10_24), .second, .val (.long v12_25), .second, .val (.long v14_26), .second, .val (.double (FP.l2d v10_24)), .second, .val (.double (FP.l2d v12_25)), .second, .val (.double (FP.l2d v14_26)), .second, .val (.long v22_27), .second, .val (.long v24_28), .second, .val (.long v26_29), .second, rv b30, iv (1 : Int32), .val (.double u2_35), .second, .val (.double w2_35), .second, .unset, .unset, .unset, .unset] [(.ref b30)])) rfl (by rw [hml]; rfl) (Steps.refl _) (argsL := []) (rest := []) (lenOf pd__28__29_D rfl) rfl (by show 2 * 0 + _ ≤ _; exact Nat.le_of_eq rfl) (hb hby at_214) (fun _ hv => ⟨rfl, rfl, (by decide : 1 + 0 ≤ _), (by decide : 2 + 0 ≤ _)⟩)
  dsimp only [Pt.U, Pt.locs, Pt.cells, Pt.slots] at X41 l41 y41 z41 st41 hQ41
  subst l41 y41 z41
  obtain ⟨rfl, Nq41, e41⟩ := hQ41
  refine own_go st41 ?_
  have N41 := Fr.app N40 Nq41
  show own_Fin _ _ _ _ (T41.setTop (mkF m 217 #[.val (.long q1), .second, .val (.long q2), .second, .val (.long q3), .second, iv p4, iv v7_21, iv v8_22, iv v9_23, .val (.long v10_24), .second, .val (.long v12_25), .second, .val (.long v14_26), .second, .val (.double (FP.l2d v10_24)), .second, .val (.double (FP.l2d v12_25)), .second, .val (.double (FP.l2d v14_26)), .second, .val (.long v22_27), .second, .val (.long v24_28), .second, .val (.long v26_29), .second, rv b30, iv (1 : Int32), .val (.double u2_35), .second, .val (.double w2_35), .second, .unset, .unset, .unset, .unset] [(.double u2_40)]))
  refine own_go (XS.dstore X41.here hx rfl (hb hby at_217) rfl rfl (Steps.refl _)) ?_
  show own_Fin _ _ _ _ (T41.setTop (mkF m 219 #[.val (.long q1), .second, .val (.long q2), .second, .val (.long q3), .second, iv p4, iv v7_21, iv v8_22, iv v9_23, .val (.long v10_24), .second, .val (.long v12_25), .second, .val (.long v14_26), .second, .val (.double (FP.l2d v10_24)), .second, .val (.double (FP.l2d v12_25)), .second, .val (.double (FP.l2d v14_26)), .second, .val (.long v22_27), .second, .val (.long v24_28), .second, .val (.long v26_29), .second, rv b30, iv (1 : Int32), .val (.double u2_35), .second, .val (.double w2_35), .second, .val (.double u2_40), .second, .unset, .unset] []))
  refine own_go (XS.aload X41.here hx rfl (hb hby at_219) rfl rfl (Steps.refl _)) ?_
  show own_Fin _ _ _ _ (T41.setTop (mkF m 221 #[.val (.long q1), .second, .val (.long q2), .second, .val (.long q3), .second, iv p4, iv v7_21, iv v8_22, iv v9_23, .val (.long v10_24), .second, .val (.long v12_25), .second, .val (.long v14_26), .second, .val (.double (FP.l2d v10_24)), .second, .val (.double (FP.l2d v12_25)), .second, .val (.double (FP.l2d v14_26)), .second, .val (.long v22_27), .second, .val (.long v24_28), .second, .val (.long v26_29), .second, rv b30, iv (1 : Int32), .val (.double u2_35), .second, .val (.double w2_35), .second, .val (.double u2_40), .second, .unset, .unset] [(.ref b30)]))
  obtain ⟨cq42, kq42, q42a, q42b, q42c⟩ := isOf hZ e41 r40_0
  obtain ⟨_, _, ⟨T42, L42, k42, n42⟩, -, X42, ⟨Lc42, hQ42, l42, y42, z42⟩, st42⟩ := X41.virtualBack hx (y := (⟨"com/example/nosto/nosto/LogProduct", "lo", "()D"⟩ : MethodName)) (z := (⟨"com/example/nosto/nosto/LogProduct", "lo", "()D"⟩ : MethodName)) hown (mvT hZ (hw _ (List.mem_of_getElem? (i := 23) rfl))) (mvT hZ (hw _ (List.mem_of_getElem? (i := 24) rfl))) (notFace_of_selects (args := #[]) (mvT hZ (hw _ (List.mem_of_getElem? (i := 26) rfl)))) (mvT hZ (hw _ (List.mem_of_getElem? (i := 26) rfl))) (mvT hZ (hw _ (List.mem_of_getElem? (i := 25) rfl))) (by decide) (backOf (W := 0) (rmlo l Z a0 hw [] b30 w2_40 T40.heap n0 Z40 r40_2) hZ (hw _ (List.mem_of_getElem? (i := 27) rfl)) (hw _ (List.mem_of_getElem? (i := 2) rfl)) (by decide) (by decide)) q42a q42c (g := (mkF m 221 #[.val (.long q1), .second, .val (.long q2), .second, .val (.long q3), .second, iv p4, iv v7_21, iv v8_22, iv v9_23, .val (.long v10_24), .second, .val (.long v12_25), .second, .val (.long v14_26), .second, .val (.double (FP.l2d v10_24)), .second, .val (.double (FP.l2d v12_25)), .second, .val (.double (FP.l2d v14_26)), .second, .val (.long v22_27), .second, .val (.long v24_28), .second, .val (.long v26_29), .second, rv b30, iv (1 : Int32), .val (.double u2_35), .second, .val (.double w2_35), .second, .val (.double u2_40), .second, .unset, .unset] [(.ref b30)])) rfl (by rw [hml]; rfl) (Steps.refl _) (argsL := []) (rest := []) (lenOf pd__28__29_D rfl) rfl (by show 2 * 0 + _ ≤ _; exact Nat.le_of_eq rfl) (hb hby at_221) (fun _ hv => ⟨rfl, e41, (by decide : 1 + 0 ≤ _), (by decide : 2 + 0 ≤ _)⟩)
  dsimp only [Pt.U, Pt.locs, Pt.cells, Pt.slots] at X42 l42 y42 z42 st42 hQ42
  subst l42 y42 z42
  obtain ⟨rfl, Nq42, e42⟩ := hQ42
  refine own_go st42 ?_
  have N42 := Fr.app N41 Nq42
  show own_Fin _ _ _ _ (T42.setTop (mkF m 224 #[.val (.long q1), .second, .val (.long q2), .second, .val (.long q3), .second, iv p4, iv v7_21, iv v8_22, iv v9_23, .val (.long v10_24), .second, .val (.long v12_25), .second, .val (.long v14_26), .second, .val (.double (FP.l2d v10_24)), .second, .val (.double (FP.l2d v12_25)), .second, .val (.double (FP.l2d v14_26)), .second, .val (.long v22_27), .second, .val (.long v24_28), .second, .val (.long v26_29), .second, rv b30, iv (1 : Int32), .val (.double u2_35), .second, .val (.double w2_35), .second, .val (.double u2_40), .second, .unset, .unset] [(.double w2_40)]))
  refine own_go (XS.dstore X42.here hx rfl (hb hby at_224) rfl rfl (Steps.refl _)) ?_
  show own_Fin _ _ _ _ (T42.setTop (mkF m 226 #[.val (.long q1), .second, .val (.long q2), .second, .val (.long q3), .second, iv p4, iv v7_21, iv v8_22, iv v9_23, .val (.long v10_24), .second, .val (.long v12_25), .second, .val (.long v14_26), .second, .val (.double (FP.l2d v10_24)), .second, .val (.double (FP.l2d v12_25)), .second, .val (.double (FP.l2d v14_26)), .second, .val (.long v22_27), .second, .val (.long v24_28), .second, .val (.long v26_29), .second, rv b30, iv (1 : Int32), .val (.double u2_35), .second, .val (.double w2_35), .second, .val (.double u2_40), .second, .val (.double w2_40), .second] []))
  refine own_go (XS.iload X42.here hx rfl (hb hby at_226) rfl (Steps.refl _)) ?_
  show own_Fin _ _ _ _ (T42.setTop (mkF m 228 #[.val (.long q1), .second, .val (.long q2), .second, .val (.long q3), .second, iv p4, iv v7_21, iv v8_22, iv v9_23, .val (.long v10_24), .second, .val (.long v12_25), .second, .val (.long v14_26), .second, .val (.double (FP.l2d v10_24)), .second, .val (.double (FP.l2d v12_25)), .second, .val (.double (FP.l2d v14_26)), .second, .val (.long v22_27), .second, .val (.long v24_28), .second, .val (.long v26_29), .second, rv b30, iv (1 : Int32), .val (.double u2_35), .second, .val (.double w2_35), .second, .val (.double u2_40), .second, .val (.double w2_40), .second] [(.int (1 : Int32))]))
  refine own_go (XS.ifNo X42.here hx rfl (hb hby at_228) rfl ((if0 _ _).trans (feq (by decide : ¬ ((1 : Int32) = (0 : Int32)))).1) (Steps.refl _)) ?_
  show own_Fin _ _ _ _ (T42.setTop (mkF m 231 #[.val (.long q1), .second, .val (.long q2), .second, .val (.long q3), .second, iv p4, iv v7_21, iv v8_22, iv v9_23, .val (.long v10_24), .second, .val (.long v12_25), .second, .val (.long v14_26), .second, .val (.double (FP.l2d v10_24)), .second, .val (.double (FP.l2d v12_25)), .second, .val (.double (FP.l2d v14_26)), .second, .val (.long v22_27), .second, .val (.long v24_28), .second, .val (.long v26_29), .second, rv b30, iv (1 : Int32), .val (.double u2_35), .second, .val (.double w2_35), .second, .val (.double u2_40), .second, .val (.double w2_40), .second] []))
  refine own_go (XS.dload X42.here hx rfl (hb hby at_231) rfl (Steps.refl _)) ?_
  show own_Fin _ _ _ _ (T42.setTop (mkF m 233 #[.val (.long q1), .second, .val (.long q2), .second, .val (.long q3), .second, iv p4, iv v7_21, iv v8_22, iv v9_23, .val (.long v10_24), .second, .val (.long v12_25), .second, .val (.long v14_26), .second, .val (.double (FP.l2d v10_24)), .second, .val (.double (FP.l2d v12_25)), .second, .val (.double (FP.l2d v14_26)), .second, .val (.long v22_27), .second, .val (.long v24_28), .second, .val (.long v26_29), .second, rv b30, iv (1 : Int32), .val (.double u2_35), .second, .val (.double w2_35), .second, .val (.double u2_40), .second, .val (.double w2_40), .second] [(.double u2_40)]))
  refine own_go (XS.dload X42.here hx rfl (hb hby at_233) rfl (Steps.refl _)) ?_
  show own_Fin _ _ _ _ (T42.setTop (mkF m 235 #[.val (.long q1), .second, .val (.long q2), .second, .val (.long q3), .second, iv p4, iv v7_21, iv v8_22, iv v9_23, .val (.long v10_24), .second, .val (.long v12_25), .second, .val (.long v14_26), .second, .val (.double (FP.l2d v10_24)), .second, .val (.double (FP.l2d v12_25)), .second, .val (.double (FP.l2d v14_26)), .second, .val (.long v22_27), .second, .val (.long v24_28), .second, .val (.long v26_29), .second, rv b30, iv (1 : Int32), .val (.double u2_35), .second, .val (.double w2_35), .second, .val (.double u2_40), .second, .val (.double w2_40), .second] [(.double u2_35), (.double u2_40)]))
  refine own_go (XS.dload X42.here hx rfl (hb hby at_235) rfl (Steps.refl _)) ?_
  show own_Fin _ _ _ _ (T42.setTop (mkF m 237 #[.val (.long q1), .second, .val (.long q2), .second, .val (.long q3), .second, iv p4, iv v7_21, iv v8_22, iv v9_23, .val (.long v10_24), .second, .val (.long v12_25), .second, .val (.long v14_26), .second, .val (.double (FP.l2d v10_24)), .second, .val (.double (FP.l2d v12_25)), .second, .val (.double (FP.l2d v14_26)), .second, .val (.long v22_27), .second, .val (.long v24_28), .second, .val (.long v26_29), .second, rv b30, iv (1 : Int32), .val (.double u2_35), .second, .val (.double w2_35), .second, .val (.double u2_40), .second, .val (.double w2_40), .second] [(.double (FP.l2d v14_26)), (.double u2_35), (.double u2_40)]))
  have hd43 : Jvm.FP.Core.DInt (rn (rn (vx64 + vx69) + vx74)) (FP.dadd u2_35 (FP.l2d v14_26)) := own_da H r35_3 hD74 (by omega)
  refine own_go (XS.daddS X42.here hx rfl (hb hby at_237) rfl (own_nn64 hd43) rfl (Steps.refl _)) ?_
  show own_Fin _ _ _ _ (T42.setTop (mkF m 238 #[.val (.long q1), .second, .val (.long q2), .second, .val (.long q3), .second, iv p4, iv v7_21, iv v8_22, iv v9_23, .val (.long v10_24), .second, .val (.long v12_25), .second, .val (.long v14_26), .second, .val (.double (FP.l2d v10_24)), .second, .val (.double (FP.l2d v12_25)), .second, .val (.double (FP.l2d v14_26)), .second, .val (.long v22_27), .second, .val (.long v24_28), .second, .val (.long v26_29), .second, rv b30, iv (1 : Int32), .val (.double u2_35), .second, .val (.double w2_35), .second, .val (.double u2_40), .second, .val (.double w2_40), .second] [(.double (FP.dadd u2_35 (FP.l2d v14_26))), (.double u2_40)]))
  refine own_go (XS.dcmpS X42.here hx rfl (hb hby at_238) rfl (show cmpValue (FP.dcmp u2_40 (FP.dadd u2_35 (FP.l2d v14_26))) .l = (0 : Int32) from own_dc r40_3 hd43 .l) (Steps.refl _)) ?_
  show own_Fin _ _ _ _ (T42.setTop (mkF m 239 #[.val (.long q1), .second, .val (.long q2), .second, .val (.long q3), .second, iv p4, iv v7_21, iv v8_22, iv v9_23, .val (.long v10_24), .second, .val (.long v12_25), .second, .val (.long v14_26), .second, .val (.double (FP.l2d v10_24)), .second, .val (.double (FP.l2d v12_25)), .second, .val (.double (FP.l2d v14_26)), .second, .val (.long v22_27), .second, .val (.long v24_28), .second, .val (.long v26_29), .second, rv b30, iv (1 : Int32), .val (.double u2_35), .second, .val (.double w2_35), .second, .val (.double u2_40), .second, .val (.double w2_40), .second] [(.int (0 : Int32))]))
  refine own_go (XS.ifNo X42.here hx rfl (hb hby at_239) rfl ((if0 _ _).trans (teq (by decide : (0 : Int32) = (0 : Int32))).2) (Steps.refl _)) ?_
  show own_Fin _ _ _ _ (T42.setTop (mkF m 242 #[.val (.long q1), .second, .val (.long q2), .second, .val (.long q3), .second, iv p4, iv v7_21, iv v8_22, iv v9_23, .val (.long v10_24), .second, .val (.long v12_25), .second, .val (.long v14_26), .second, .val (.double (FP.l2d v10_24)), .second, .val (.double (FP.l2d v12_25)), .second, .val (.double (FP.l2d v14_26)), .second, .val (.long v22_27), .second, .val (.long v24_28), .second, .val (.long v26_29), .second, rv b30, iv (1 : Int32), .val (.double u2_35), .second, .val (.double w2_35), .second, .val (.double u2_40), .second, .val (.double w2_40), .second] []))
  refine own_go (XS.dload X42.here hx rfl (hb hby at_242) rfl (Steps.refl _)) ?_
  show own_Fin _ _ _ _ (T42.setTop (mkF m 244 #[.val (.long q1), .second, .val (.long q2), .second, .val (.long q3), .second, iv p4, iv v7_21, iv v8_22, iv v9_23, .val (.long v10_24), .second, .val (.long v12_25), .second, .val (.long v14_26), .second, .val (.double (FP.l2d v10_24)), .second, .val (.double (FP.l2d v12_25)), .second, .val (.double (FP.l2d v14_26)), .second, .val (.long v22_27), .second, .val (.long v24_28), .second, .val (.long v26_29), .second, rv b30, iv (1 : Int32), .val (.double u2_35), .second, .val (.double w2_35), .second, .val (.double u2_40), .second, .val (.double w2_40), .second] [(.double w2_40)]))
  refine own_go (XS.d2lS X42.here hx rfl (hb hby at_244) rfl rfl (Steps.refl _)) ?_
  show own_Fin _ _ _ _ (T42.setTop (mkF m 245 #[.val (.long q1), .second, .val (.long q2), .second, .val (.long q3), .second, iv p4, iv v7_21, iv v8_22, iv v9_23, .val (.long v10_24), .second, .val (.long v12_25), .second, .val (.long v14_26), .second, .val (.double (FP.l2d v10_24)), .second, .val (.double (FP.l2d v12_25)), .second, .val (.double (FP.l2d v14_26)), .second, .val (.long v22_27), .second, .val (.long v24_28), .second, .val (.long v26_29), .second, rv b30, iv (1 : Int32), .val (.double u2_35), .second, .val (.double w2_35), .second, .val (.double u2_40), .second, .val (.double w2_40), .second] [(.long (FP.d2l w2_40))]))
  have hq245 := own_d2l r40_4 (by omega)
  refine own_go (XS.l2dS X42.here hx rfl (hb hby at_245) rfl rfl (Steps.refl _)) ?_
  show own_Fin _ _ _ _ (T42.setTop (mkF m 246 #[.val (.long q1), .second, .val (.long q2), .second, .val (.long q3), .second, iv p4, iv v7_21, iv v8_22, iv v9_23, .val (.long v10_24), .second, .val (.long v12_25), .second, .val (.long v14_26), .second, .val (.double (FP.l2d v10_24)), .second, .val (.double (FP.l2d v12_25)), .second, .val (.double (FP.l2d v14_26)), .second, .val (.long v22_27), .second, .val (.long v24_28), .second, .val (.long v26_29), .second, rv b30, iv (1 : Int32), .val (.double u2_35), .second, .val (.double w2_35), .second, .val (.double u2_40), .second, .val (.double w2_40), .second] [(.double (FP.l2d (FP.d2l w2_40)))]))
  have hD246 : Jvm.FP.Core.DInt (0 + (vx64 + vx69 - rn (vx64 + vx69)) + (rn (vx64 + vx69) + vx74 - rn (rn (vx64 + vx69) + vx74))) (FP.l2d (FP.d2l w2_40)) := by have q := own_dl H (a := (FP.d2l w2_40)) (by rw [hq245]; omega); rw [hq245, own_ex H (by omega) (own_sml (by omega))] at q; exact q
  refine own_go (XS.dload X42.here hx rfl (hb hby at_246) rfl (Steps.refl _)) ?_
  show own_Fin _ _ _ _ (T42.setTop (mkF m 248 #[.val (.long q1), .second, .val (.long q2), .second, .val (.long q3), .second, iv p4, iv v7_21, iv v8_22, iv v9_23, .val (.long v10_24), .second, .val (.long v12_25), .second, .val (.long v14_26), .second, .val (.double (FP.l2d v10_24)), .second, .val (.double (FP.l2d v12_25)), .second, .val (.double (FP.l2d v14_26)), .second, .val (.long v22_27), .second, .val (.long v24_28), .second, .val (.long v26_29), .second, rv b30, iv (1 : Int32), .val (.double u2_35), .second, .val (.double w2_35), .second, .val (.double u2_40), .second, .val (.double w2_40), .second] [(.double w2_40), (.double (FP.l2d (FP.d2l w2_40)))]))
  refine own_go (XS.dcmpS X42.here hx rfl (hb hby at_248) rfl (show cmpValue (FP.dcmp (FP.l2d (FP.d2l w2_40)) w2_40) .l = (0 : Int32) from own_dc hD246 r40_4 .l) (Steps.refl _)) ?_
  show own_Fin _ _ _ _ (T42.setTop (mkF m 249 #[.val (.long q1), .second, .val (.long q2), .second, .val (.long q3), .second, iv p4, iv v7_21, iv v8_22, iv v9_23, .val (.long v10_24), .second, .val (.long v12_25), .second, .val (.long v14_26), .second, .val (.double (FP.l2d v10_24)), .second, .val (.double (FP.l2d v12_25)), .second, .val (.double (FP.l2d v14_26)), .second, .val (.long v22_27), .second, .val (.long v24_28), .second, .val (.long v26_29), .second, rv b30, iv (1 : Int32), .val (.double u2_35), .second, .val (.double w2_35), .second, .val (.double u2_40), .second, .val (.double w2_40), .second] [(.int (0 : Int32))]))
  refine own_go (XS.ifNo X42.here hx rfl (hb hby at_249) rfl ((if0 _ _).trans (teq (by decide : (0 : Int32) = (0 : Int32))).2) (Steps.refl _)) ?_
  show own_Fin _ _ _ _ (T42.setTop (mkF m 252 #[.val (.long q1), .second, .val (.long q2), .second, .val (.long q3), .second, iv p4, iv v7_21, iv v8_22, iv v9_23, .val (.long v10_24), .second, .val (.long v12_25), .second, .val (.long v14_26), .second, .val (.double (FP.l2d v10_24)), .second, .val (.double (FP.l2d v12_25)), .second, .val (.double (FP.l2d v14_26)), .second, .val (.long v22_27), .second, .val (.long v24_28), .second, .val (.long v26_29), .second, rv b30, iv (1 : Int32), .val (.double u2_35), .second, .val (.double w2_35), .second, .val (.double u2_40), .second, .val (.double w2_40), .second] []))
  refine own_go (XS.dload X42.here hx rfl (hb hby at_252) rfl (Steps.refl _)) ?_
  show own_Fin _ _ _ _ (T42.setTop (mkF m 254 #[.val (.long q1), .second, .val (.long q2), .second, .val (.long q3), .second, iv p4, iv v7_21, iv v8_22, iv v9_23, .val (.long v10_24), .second, .val (.long v12_25), .second, .val (.long v14_26), .second, .val (.double (FP.l2d v10_24)), .second, .val (.double (FP.l2d v12_25)), .second, .val (.double (FP.l2d v14_26)), .second, .val (.long v22_27), .second, .val (.long v24_28), .second, .val (.long v26_29), .second, rv b30, iv (1 : Int32), .val (.double u2_35), .second, .val (.double w2_35), .second, .val (.double u2_40), .second, .val (.double w2_40), .second] [(.double u2_40)]))
  refine own_go (XS.d2lS X42.here hx rfl (hb hby at_254) rfl rfl (Steps.refl _)) ?_
  show own_Fin _ _ _ _ (T42.setTop (mkF m 255 #[.val (.long q1), .second, .val (.long q2), .second, .val (.long q3), .second, iv p4, iv v7_21, iv v8_22, iv v9_23, .val (.long v10_24), .second, .val (.long v12_25), .second, .val (.long v14_26), .second, .val (.double (FP.l2d v10_24)), .second, .val (.double (FP.l2d v12_25)), .second, .val (.double (FP.l2d v14_26)), .second, .val (.long v22_27), .second, .val (.long v24_28), .second, .val (.long v26_29), .second, rv b30, iv (1 : Int32), .val (.double u2_35), .second, .val (.double w2_35), .second, .val (.double u2_40), .second, .val (.double w2_40), .second] [(.long (FP.d2l u2_40))]))
  refine own_go (XS.dload X42.here hx rfl (hb hby at_255) rfl (Steps.refl _)) ?_
  show own_Fin _ _ _ _ (T42.setTop (mkF m 257 #[.val (.long q1), .second, .val (.long q2), .second, .val (.long q3), .second, iv p4, iv v7_21, iv v8_22, iv v9_23, .val (.long v10_24), .second, .val (.long v12_25), .second, .val (.long v14_26), .second, .val (.double (FP.l2d v10_24)), .second, .val (.double (FP.l2d v12_25)), .second, .val (.double (FP.l2d v14_26)), .second, .val (.long v22_27), .second, .val (.long v24_28), .second, .val (.long v26_29), .second, rv b30, iv (1 : Int32), .val (.double u2_35), .second, .val (.double w2_35), .second, .val (.double u2_40), .second, .val (.double w2_40), .second] [(.double w2_40), (.long (FP.d2l u2_40))]))
  refine own_go (XS.d2lS X42.here hx rfl (hb hby at_257) rfl rfl (Steps.refl _)) ?_
  show own_Fin _ _ _ _ (T42.setTop (mkF m 258 #[.val (.long q1), .second, .val (.long q2), .second, .val (.long q3), .second, iv p4, iv v7_21, iv v8_22, iv v9_23, .val (.long v10_24), .second, .val (.long v12_25), .second, .val (.long v14_26), .second, .val (.double (FP.l2d v10_24)), .second, .val (.double (FP.l2d v12_25)), .second, .val (.double (FP.l2d v14_26)), .second, .val (.long v22_27), .second, .val (.long v24_28), .second, .val (.long v26_29), .second, rv b30, iv (1 : Int32), .val (.double u2_35), .second, .val (.double w2_35), .second, .val (.double u2_40), .second, .val (.double w2_40), .second] [(.long (FP.d2l w2_40)), (.long (FP.d2l u2_40))]))
  refine own_go (XS.ladd X42.here hx rfl (hb hby at_258) rfl (Steps.refl _)) ?_
  show own_Fin _ _ _ _ (T42.setTop (mkF m 259 #[.val (.long q1), .second, .val (.long q2), .second, .val (.long q3), .second, iv p4, iv v7_21, iv v8_22, iv v9_23, .val (.long v10_24), .second, .val (.long v12_25), .second, .val (.long v14_26), .second, .val (.double (FP.l2d v10_24)), .second, .val (.double (FP.l2d v12_25)), .second, .val (.double (FP.l2d v14_26)), .second, .val (.long v22_27), .second, .val (.long v24_28), .second, .val (.long v26_29), .second, rv b30, iv (1 : Int32), .val (.double u2_35), .second, .val (.double w2_35), .second, .val (.double u2_40), .second, .val (.double w2_40), .second] [(.long ((FP.d2l u2_40) + (FP.d2l w2_40)))]))
  refine own_go (XS.lload X42.here hx rfl (hb hby at_259) rfl (Steps.refl _)) ?_
  show own_Fin _ _ _ _ (T42.setTop (mkF m 261 #[.val (.long q1), .second, .val (.long q2), .second, .val (.long q3), .second, iv p4, iv v7_21, iv v8_22, iv v9_23, .val (.long v10_24), .second, .val (.long v12_25), .second, .val (.long v14_26), .second, .val (.double (FP.l2d v10_24)), .second, .val (.double (FP.l2d v12_25)), .second, .val (.double (FP.l2d v14_26)), .second, .val (.long v22_27), .second, .val (.long v24_28), .second, .val (.long v26_29), .second, rv b30, iv (1 : Int32), .val (.double u2_35), .second, .val (.double w2_35), .second, .val (.double u2_40), .second, .val (.double w2_40), .second] [(.long v22_27), (.long ((FP.d2l u2_40) + (FP.d2l w2_40)))]))
  refine own_go (XS.lload X42.here hx rfl (hb hby at_261) rfl (Steps.refl _)) ?_
  show own_Fin _ _ _ _ (T42.setTop (mkF m 263 #[.val (.long q1), .second, .val (.long q2), .second, .val (.long q3), .second, iv p4, iv v7_21, iv v8_22, iv v9_23, .val (.long v10_24), .second, .val (.long v12_25), .second, .val (.long v14_26), .second, .val (.double (FP.l2d v10_24)), .second, .val (.double (FP.l2d v12_25)), .second, .val (.double (FP.l2d v14_26)), .second, .val (.long v22_27), .second, .val (.long v24_28), .second, .val (.long v26_29), .second, rv b30, iv (1 : Int32), .val (.double u2_35), .second, .val (.double w2_35), .second, .val (.double u2_40), .second, .val (.double w2_40), .second] [(.long v24_28), (.long v22_27), (.long ((FP.d2l u2_40) + (FP.d2l w2_40)))]))
  refine own_go (XS.ladd X42.here hx rfl (hb hby at_263) rfl (Steps.refl _)) ?_
  show own_Fin _ _ _ _ (T42.setTop (mkF m 264 #[.val (.long q1), .second, .val (.long q2), .second, .val (.long q3), .second, iv p4, iv v7_21, iv v8_22, iv v9_23, .val (.long v10_24), .second, .val (.long v12_25), .second, .val (.long v14_26), .second, .val (.double (FP.l2d v10_24)), .second, .val (.double (FP.l2d v12_25)), .second, .val (.double (FP.l2d v14_26)), .second, .val (.long v22_27), .second, .val (.long v24_28), .second, .val (.long v26_29), .second, rv b30, iv (1 : Int32), .val (.double u2_35), .second, .val (.double w2_35), .second, .val (.double u2_40), .second, .val (.double w2_40), .second] [(.long (v22_27 + v24_28)), (.long ((FP.d2l u2_40) + (FP.d2l w2_40)))]))
  refine own_go (XS.lload X42.here hx rfl (hb hby at_264) rfl (Steps.refl _)) ?_
  show own_Fin _ _ _ _ (T42.setTop (mkF m 266 #[.val (.long q1), .second, .val (.long q2), .second, .val (.long q3), .second, iv p4, iv v7_21, iv v8_22, iv v9_23, .val (.long v10_24), .second, .val (.long v12_25), .second, .val (.long v14_26), .second, .val (.double (FP.l2d v10_24)), .second, .val (.double (FP.l2d v12_25)), .second, .val (.double (FP.l2d v14_26)), .second, .val (.long v22_27), .second, .val (.long v24_28), .second, .val (.long v26_29), .second, rv b30, iv (1 : Int32), .val (.double u2_35), .second, .val (.double w2_35), .second, .val (.double u2_40), .second, .val (.double w2_40), .second] [(.long v26_29), (.long (v22_27 + v24_28)), (.long ((FP.d2l u2_40) + (FP.d2l w2_40)))]))
  refine own_go (XS.ladd X42.here hx rfl (hb hby at_266) rfl (Steps.refl _)) ?_
  show own_Fin _ _ _ _ (T42.setTop (mkF m 267 #[.val (.long q1), .second, .val (.long q2), .second, .val (.long q3), .second, iv p4, iv v7_21, iv v8_22, iv v9_23, .val (.long v10_24), .second, .val (.long v12_25), .second, .val (.long v14_26), .second, .val (.double (FP.l2d v10_24)), .second, .val (.double (FP.l2d v12_25)), .second, .val (.double (FP.l2d v14_26)), .second, .val (.long v22_27), .second, .val (.long v24_28), .second, .val (.long v26_29), .second, rv b30, iv (1 : Int32), .val (.double u2_35), .second, .val (.double w2_35), .second, .val (.double u2_40), .second, .val (.double w2_40), .second] [(.long ((v22_27 + v24_28) + v26_29)), (.long ((FP.d2l u2_40) + (FP.d2l w2_40)))]))
  refine own_go (XS.lcmp X42.here hx rfl (hb hby at_267) rfl (Steps.refl _)) ?_
  show own_Fin _ _ _ _ (T42.setTop (mkF m 268 #[.val (.long q1), .second, .val (.long q2), .second, .val (.long q3), .second, iv p4, iv v7_21, iv v8_22, iv v9_23, .val (.long v10_24), .second, .val (.long v12_25), .second, .val (.long v14_26), .second, .val (.double (FP.l2d v10_24)), .second, .val (.double (FP.l2d v12_25)), .second, .val (.double (FP.l2d v14_26)), .second, .val (.long v22_27), .second, .val (.long v24_28), .second, .val (.long v26_29), .second, rv b30, iv (1 : Int32), .val (.double u2_35), .second, .val (.double w2_35), .second, .val (.double u2_40), .second, .val (.double w2_40), .second] [(.int (lcmpW ((FP.d2l u2_40) + (FP.d2l w2_40)) ((v22_27 + v24_28) + v26_29)))]))
  have hh44 := own_d2l r40_3 (by omega)
  have hz44_0 : v22_27.toInt = vx64 := hz_v22_27 ▸ hl79
  have hz44_1 : v24_28.toInt = vx69 := hz_v24_28 ▸ hl84
  have hz44_2 : v26_29.toInt = vx74 := hz_v26_29 ▸ hl89
  refine own_go (XS.ifNo X42.here hx rfl (hb hby at_268) rfl ((if0 _ _).trans (teq (show (lcmpW ((FP.d2l u2_40) + (FP.d2l w2_40)) ((v22_27 + v24_28) + v26_29)) = (0 : Int32) from own_lc (own_sum3 (by rw [hh44, hq245, hz44_0, hz44_1, hz44_2]; omega) (by rw [hh44, hq245]; omega) (by rw [hz44_0, hz44_1]; omega)))).2) (Steps.refl _)) ?_
  show own_Fin _ _ _ _ (T42.setTop (mkF m 271 #[.val (.long q1), .second, .val (.long q2), .second, .val (.long q3), .second, iv p4, iv v7_21, iv v8_22, iv v9_23, .val (.long v10_24), .second, .val (.long v12_25), .second, .val (.long v14_26), .second, .val (.double (FP.l2d v10_24)), .second, .val (.double (FP.l2d v12_25)), .second, .val (.double (FP.l2d v14_26)), .second, .val (.long v22_27), .second, .val (.long v24_28), .second, .val (.long v26_29), .second, rv b30, iv (1 : Int32), .val (.double u2_35), .second, .val (.double w2_35), .second, .val (.double u2_40), .second, .val (.double w2_40), .second] []))
  refine own_go (XS.iconst X42.here hx rfl (hb hby at_271) (Steps.refl _)) ?_
  show own_Fin _ _ _ _ (T42.setTop (mkF m 272 #[.val (.long q1), .second, .val (.long q2), .second, .val (.long q3), .second, iv p4, iv v7_21, iv v8_22, iv v9_23, .val (.long v10_24), .second, .val (.long v12_25), .second, .val (.long v14_26), .second, .val (.double (FP.l2d v10_24)), .second, .val (.double (FP.l2d v12_25)), .second, .val (.double (FP.l2d v14_26)), .second, .val (.long v22_27), .second, .val (.long v24_28), .second, .val (.long v26_29), .second, rv b30, iv (1 : Int32), .val (.double u2_35), .second, .val (.double w2_35), .second, .val (.double u2_40), .second, .val (.double w2_40), .second] [(.int (1 : Int32))]))
  refine own_go (XS.goto X42.here hx rfl (pc0 := 272) (pc' := 276) rfl (hb hby at_272) (by decide) (by decide) (Steps.refl _)) ?_
  show own_Fin _ _ _ _ (T42.setTop (mkF m 276 #[.val (.long q1), .second, .val (.long q2), .second, .val (.long q3), .second, iv p4, iv v7_21, iv v8_22, iv v9_23, .val (.long v10_24), .second, .val (.long v12_25), .second, .val (.long v14_26), .second, .val (.double (FP.l2d v10_24)), .second, .val (.double (FP.l2d v12_25)), .second, .val (.double (FP.l2d v14_26)), .second, .val (.long v22_27), .second, .val (.long v24_28), .second, .val (.long v26_29), .second, rv b30, iv (1 : Int32), .val (.double u2_35), .second, .val (.double w2_35), .second, .val (.double u2_40), .second, .val (.double w2_40), .second] [(.int (1 : Int32))]))
  refine own_go (XS.istore X42.here hx rfl (hb hby at_276) rfl rfl (Steps.refl _)) ?_
  show own_Fin _ _ _ _ (T42.setTop (mkF m 278 #[.val (.long q1), .second, .val (.long q2), .second, .val (.long q3), .second, iv p4, iv v7_21, iv v8_22, iv v9_23, .val (.long v10_24), .second, .val (.long v12_25), .second, .val (.long v14_26), .second, .val (.double (FP.l2d v10_24)), .second, .val (.double (FP.l2d v12_25)), .second, .val (.double (FP.l2d v14_26)), .second, .val (.long v22_27), .second, .val (.long v24_28), .second, .val (.long v26_29), .second, rv b30, iv (1 : Int32), .val (.double u2_35), .second, .val (.double w2_35), .second, .val (.double u2_40), .second, .val (.double w2_40), .second] []))
  refine own_go (XS.iload X42.here hx rfl (hb hby at_278) rfl (Steps.refl _)) ?_
  show own_Fin _ _ _ _ (T42.setTop (mkF m 280 #[.val (.long q1), .second, .val (.long q2), .second, .val (.long q3), .second, iv p4, iv v7_21, iv v8_22, iv v9_23, .val (.long v10_24), .second, .val (.long v12_25), .second, .val (.long v14_26), .second, .val (.double (FP.l2d v10_24)), .second, .val (.double (FP.l2d v12_25)), .second, .val (.double (FP.l2d v14_26)), .second, .val (.long v22_27), .second, .val (.long v24_28), .second, .val (.long v26_29), .second, rv b30, iv (1 : Int32), .val (.double u2_35), .second, .val (.double w2_35), .second, .val (.double u2_40), .second, .val (.double w2_40), .second] [(.int (1 : Int32))]))
  obtain ⟨fs45, hr45, hrun45, hended45, hW45, hsame45⟩ := X42.leave (v := some (.int (1 : Int32))) (fun h => by rw [Bd.returns] at h; cases h)
  refine own_done (retN X42 hx (t := .boolean) Bd.returns (by simp) (hb hby at_280) hr45) hrun45 hended45 ⟨_, _, rfl, ?_, ⟨_, rfl⟩, hW45, hsame45.mono (by decide) (by decide)⟩
  show Q0 Z p1 p2 p3 p4 h0 n0 _ T42.heap _
  rw [e42]
  exact ⟨rfl, N42⟩
set_option maxRecDepth 65536 in
set_option maxHeartbeats 40000000 in
theorem comes_1 {Post : Tables → Env → Array Value → State → Outcome → State → Prop} (hpost : ∀ tb e args s v u, (limb_1_1.after args s (.returned v) u = true ∧ limb_1_2.after args s (.returned v) u = true ∧ True) → FrameEnd s (.returned v) u (Jvm.fieldLocs frame_1_writes args s ++ Jvm.arrayLocs frame_1_arrays args s ++ Jvm.staticLocs frame_1_statics s) 16 128 → Post tb e args s (.returned v) u) :
    ArmFor flags0 classFile x code maxLocals ret World_1 tables_1 room_1 Calls_1 rest_1 Pre_1 Post := by
  intro l hfl _ _ p e ha hc hk s m args below hf hA hF happ hP
  obtain ⟨hcalls, hrest, hpre⟩ := hP
  obtain ⟨-, -, -, hnamed, -, -, -, hat⟩ := (Spec.applies_iff hf).mp happ
  obtain ⟨hg, hn⟩ := and_e (Cond.before_iff.mp (show (Jvm.Cond.and given_1 narrow_1).before args s = true from hpre))
  obtain ⟨gg1, gg2⟩ := and_e hg
  obtain ⟨gg3, gg4⟩ := and_e gg2
  obtain ⟨gg5, gg6⟩ := and_e gg4
  obtain ⟨gg7, gg8⟩ := and_e gg6
  obtain ⟨w0, w1, w2, w3, rfl⟩ : ∃ w0 w1 w2 w3 : Value, args = #[w0, w1, w2, w3] := by
    have hs : args.size = 4 := by simpa [Cond.value, given_1] using gg1
    obtain ⟨L⟩ := args
    match L, hs with
    | [w0, w1, w2, w3], _ => exact ⟨w0, w1, w2, w3, rfl⟩
  have hw := fun d (hd : d ∈ tables_1) => atoms_spec (ws := Jvm.Cond.code x code maxLocals ret :: tables_1) hat d (List.mem_cons_of_mem _ hd)
  obtain ⟨i0, ei0⟩ := isL_v gg3
  obtain rfl : w0 = (.long i0) := Option.some.inj ei0
  obtain ⟨i1, ei1⟩ := isL_v gg5
  obtain rfl : w1 = (.long i1) := Option.some.inj ei1
  obtain ⟨i2, ei2⟩ := isL_v gg7
  obtain rfl : w2 = (.long i2) := Option.some.inj ei2
  obtain ⟨i3, ei3⟩ := is_v gg8
  obtain rfl : w3 = (.int i3) := Option.some.inj ei3
  obtain ⟨n, o, h1, h2, h3, _, L, rfl, ⟨rfl, N⟩, hq⟩ := rm0 l s _ hw tables_1 i0 i1 i2 i3  s.heap s.heap.size (Nat.le_refl _)  p e ha hc hk s m _ below hf ((Spec.applies_iff_loose hf).mp happ).1 ⟨rfl, State.Warmed39.refl s, rfl⟩ trivial
  refine ⟨n, _, h1, h2, h3, hpost _ _ _ _ _ _ ⟨Cond.after_iff.mpr rfl, Cond.after_iff.mpr (eq_i res_at (Term.int_eval (1)) rfl), trivial⟩ ⟨hq.1, hq.2.1, (hq.2.2.sift fun y hy => Or.inr (N y hy)).mono (by decide) (by decide)⟩⟩
theorem main_1_1 : Claimed_1_1 := comes_1 fun _ _ _ _ _ _ h hF => ⟨h.1, hF⟩
theorem main_1_2 : Claimed_1_2 := comes_1 fun _ _ _ _ _ _ h hF => ⟨h.2.1, hF⟩
end Jvm.Pilot.@@N@@
namespace Jvm.Pilot.@@N@@
open Jvm Jvm.ClassFile Sem Op Lib Jvm.Free Jvm.Stand Jvm.Pilot.@@N@@.Jvm.D
/-! MADE BY PROGRAM (witnessworld.py) out of the Statement's table words and the real class files: 9 classes; the members and pool entries that the words name. The judged class is class 1, her method 1. -/
namespace start1
open Jvm.ClassFile
def u (s : String) : CpInfo := .utf8 (stringToUtf16 s)
/-- a pool by its gaps: so many unusable entries, then the entry; so many at the end -/
def gap : Nat → List CpInfo → List CpInfo
  | 0, r => r
  | n + 1, r => .unusable :: gap n r
def poolList (es : List (Nat × CpInfo)) (last : Nat) : List CpInfo := es.foldr (fun e r => gap e.1 (e.2 :: r)) (gap last [])
def pool (es : List (Nat × CpInfo)) (last : Nat) : Array CpInfo := ⟨poolList es last⟩
def fileOf (pool : Array CpInfo) (this : Nat) (attrs : Array Attribute := #[]) (ms : Array MethodInfo := #[]) (fl : Nat := 33) (sup : Nat := 0) (ifs : Array Nat := #[]) (fds : Array FieldInfo := #[]) : ClassFile where
  minorVersion := 0
  majorVersion := 65
  constantPool := pool
  accessFlags := fl
  thisClass := this
  superClass := sup
  interfaces := ifs
  fields := fds
  methods := ms
  attributes := attrs
def plain (name : String) (sup : Option ClassId) : Class where
  name := name
  kind := .ordinary
  loader := none
  accessFlags := 33
  super := sup
  interfaces := #[]
  cf := none
  fields := #[]
  methods := #[]
  instanceTypes := #[]
  staticTypes := #[]
  resolved := #[]
  callSites := []
  init := .initialized
  statics := none
  mirror := none

def pool0 : Array CpInfo := pool [(5, u "<init>"), (0, u "()V"), (1, .class_ 10), (1, u "java/lang/Object")] 113

def k0c0 : Code := { maxStack := 0, maxLocals := 1, code := object_method_1_code, exceptionTable := #[], attributes := #[] }
def k0m0 : Method := { name := "<init>", desc := "()V", sig := { parameters := [], returnType := none }, accessFlags := 1, code := some k0c0 }
/-- java/lang/Object -/
def k0 : Class := { plain "java/lang/Object" none with
  accessFlags := 33
  interfaces := #[]
  cf := some (fileOf pool0 8 #[] #[{ accessFlags := 1, nameIndex := 5, descriptorIndex := 6, attributes := #[] }] 33 0 #[] #[])
  fields := #[]
  methods := #[k0m0]
  instanceTypes := #[]
  staticTypes := #[]
  resolved := Array.replicate 124 none
  statics := none }

def pool1 : Array CpInfo := pool [(2, .class_ 4), (0, .nameAndType 5 6), (0, u "java/lang/Object"), (0, u "<init>"), (0, u "()V"), (0, .class_ 8), (0, u "com/example/nosto/nosto/LogProduct"), (0, .methodref 7 3), (0, .methodref 7 11), (0, .nameAndType 12 13), (0, u "add"), (0, u "(D)V"), (0, .methodref 7 15), (0, .nameAndType 16 17), (0, u "hi"), (0, u "()D"), (0, .methodref 7 19), (0, .nameAndType 20 17), (0, u "lo"), (0, .class_ 22), (0, u "com/example/nosto/nosto/LogProductAddPinLaw"), (2, u "law"), (0, u "(JJJI)Z")] 3

def k1m0 : Method := { name := "<init>", desc := "()V", sig := { parameters := [], returnType := none }, accessFlags := 1, code := none }
def k1c1 : Code := { maxStack := 6, maxLocals := 38, code := code, exceptionTable := #[], attributes := #[] }
def k1m1 : Method := { name := "law", desc := "(JJJI)Z", sig := { parameters := [.long, .long, .long, .int], returnType := some .boolean }, accessFlags := 9, code := some k1c1 }
/-- com/example/nosto/nosto/LogProductAddPinLaw -/
def k1 : Class := { plain "com/example/nosto/nosto/LogProductAddPinLaw" (some 0) with
  accessFlags := 49
  interfaces := #[]
  cf := some (fileOf pool1 21 #[] #[{ accessFlags := 1, nameIndex := 5, descriptorIndex := 6, attributes := #[] }, { accessFlags := 9, nameIndex := 25, descriptorIndex := 26, attributes := #[] }] 49 2 #[] #[])
  fields := #[]
  methods := #[k1m0, k1m1]
  instanceTypes := #[]
  staticTypes := #[]
  resolved := Array.replicate 30 none
  statics := none }

def pool2 : Array CpInfo := pool [(1, .methodref 2 3), (0, .class_ 4), (0, .nameAndType 5 6), (0, u "java/lang/Object"), (0, u "<init>"), (0, u "()V"), (0, .fieldref 8 9), (0, .class_ 10), (0, .nameAndType 11 12), (0, u "com/example/nosto/nosto/LogProduct"), (0, u "hi"), (0, u "D"), (0, .fieldref 8 14), (0, .nameAndType 15 12), (0, u "lo"), (2, u "add"), (0, u "(D)V"), (11, u "()D")] 4

def k2c0 : Code := { maxStack := 1, maxLocals := 1, code := prog_46_method_1_code, exceptionTable := #[], attributes := #[] }
def k2m0 : Method := { name := "<init>", desc := "()V", sig := { parameters := [], returnType := none }, accessFlags := 0, code := some k2c0 }
def k2c1 : Code := { maxStack := 2, maxLocals := 1, code := prog_46_method_4_code, exceptionTable := #[], attributes := #[] }
def k2m1 : Method := { name := "hi", desc := "()D", sig := { parameters := [], returnType := some .double }, accessFlags := 0, code := some k2c1 }
def k2c2 : Code := { maxStack := 2, maxLocals := 1, code := prog_46_method_5_code, exceptionTable := #[], attributes := #[] }
def k2m2 : Method := { name := "lo", desc := "()D", sig := { parameters := [], returnType := some .double }, accessFlags := 0, code := some k2c2 }
def k2c3 : Code := { maxStack := 9, maxLocals := 7, code := prog_46_method_6_code, exceptionTable := #[], attributes := #[] }
def k2m3 : Method := { name := "add", desc := "(D)V", sig := { parameters := [.double], returnType := none }, accessFlags := 0, code := some k2c3 }
/-- com/example/nosto/nosto/LogProduct -/
def k2 : Class := { plain "com/example/nosto/nosto/LogProduct" (some 0) with
  accessFlags := 32
  interfaces := #[]
  cf := some (fileOf pool2 8 #[] #[{ accessFlags := 0, nameIndex := 5, descriptorIndex := 6, attributes := #[] }, { accessFlags := 0, nameIndex := 11, descriptorIndex := 31, attributes := #[] }, { accessFlags := 0, nameIndex := 15, descriptorIndex := 31, attributes := #[] }, { accessFlags := 0, nameIndex := 18, descriptorIndex := 19, attributes := #[] }] 32 2 #[] #[{ accessFlags := 2, nameIndex := 11, descriptorIndex := 12, attributes := #[] }, { accessFlags := 2, nameIndex := 15, descriptorIndex := 12, attributes := #[] }])
  fields := #[{ name := "hi", type := .double, accessFlags := 2, slot := 0, constantValue := 0 }, { name := "lo", type := .double, accessFlags := 2, slot := 1, constantValue := 0 }]
  methods := #[k2m0, k2m1, k2m2, k2m3]
  instanceTypes := #[.double, .double]
  staticTypes := #[]
  resolved := Array.replicate 36 none
  statics := none }

def pool3 : Array CpInfo := pool [(1, u "java/lang/Cloneable"), (0, .class_ 1), (0, u "java/lang/Object"), (0, .class_ 3)] 3

/-- java/lang/Cloneable -/
def k3 : Class := { plain "java/lang/Cloneable" (some 0) with
  accessFlags := 1537
  interfaces := #[]
  cf := some (fileOf pool3 2 #[] #[] 1537 4 #[] #[])
  fields := #[]
  methods := #[]
  instanceTypes := #[]
  staticTypes := #[]
  resolved := Array.replicate 8 none
  statics := none }

def pool4 : Array CpInfo := pool [(1, u "java/io/Serializable"), (0, .class_ 1), (0, u "java/lang/Object"), (0, .class_ 3)] 3

/-- java/io/Serializable -/
def k4 : Class := { plain "java/io/Serializable" (some 0) with
  accessFlags := 1537
  interfaces := #[]
  cf := some (fileOf pool4 2 #[] #[] 1537 4 #[] #[])
  fields := #[]
  methods := #[]
  instanceTypes := #[]
  staticTypes := #[]
  resolved := Array.replicate 8 none
  statics := none }

/-- the primitive byte -/
def k5 : Class := { plain "byte" none with kind := .primitive 'B', accessFlags := 0x411 }
/-- [B -/
def k6 : Class := { plain "[B" (some 0) with kind := .array 5 .byte, interfaces := #[3, 4], accessFlags := 1041 }

/-- the primitive int -/
def k7 : Class := { plain "int" none with kind := .primitive 'I', accessFlags := 0x411 }
/-- [I -/
def k8 : Class := { plain "[I" (some 0) with kind := .array 7 .int, interfaces := #[3, 4], accessFlags := 1041 }

def heap : Heap := #[]
def classes : Array Class := #[k0, k1, k2, k3, k4, k5, k6, k7, k8]
def interned : List (Array UInt16 × Addr) := []
def slotsUsed : Nat := 0
def theMethod : MethodId := ⟨1, 1⟩
def args0 : Array Value := #[.long 5, .long 5, .long 5, .int 5]
def aboutOver (below : List Frame) : State where
  vm := { classes := classes, interned := interned.toArray }
  heap := heap
  slotsUsed := slotsUsed
  threads := #[{ frames := .invoking theMethod args0 :: below }]
def below0 : List Frame := [.native { method := ⟨0, 0⟩, args := #[] }]
def about1 : State := aboutOver below0
def p0 : Program := .bare "" "" ""
def e0 : Env := launch0.env 0 0 0
theorem w_frames : about1.frames = Frame.invoking theMethod args0 :: below0 := rfl
set_option maxRecDepth 65536 in
theorem w_args : argsFit about1.vm theMethod args0 = true := by decide +kernel
set_option maxRecDepth 65536 in
theorem w_heap : heapFits about1 = true := by decide +kernel
set_option maxRecDepth 65536 in
theorem w_runnable : about1.curStatus? = some .runnable := by decide +kernel
set_option maxRecDepth 65536 in
theorem w_alone : about1.alone = true := by decide +kernel
set_option maxRecDepth 65536 in
theorem w_named : about1.methodNamed? x = some theMethod := by decide +kernel
set_option maxRecDepth 65536 in
theorem w_hears : about1.hears theMethod below0 = true := by decide +kernel
set_option maxRecDepth 65536 in
theorem w_ripe : about1.ripe theMethod args0 below0 = true := by decide +kernel
theorem w_running : about1.status = .running := rfl
set_option maxRecDepth 65536 in
theorem w_room : about1.hasRoom e0.platform room_1 = true :=
  launch0.hasRoom_least _ room_1 (by decide +kernel) (by decide +kernel) (by decide +kernel) (by decide +kernel) (by decide +kernel) (by decide +kernel)
theorem allAtoms_all (ts : List Jvm.Cond) (a : Array Jvm.Value) (st : Jvm.State) : (allAtoms ts).before a st = ts.all (fun c => c.before a st) := by
  induction ts with
  | nil => rfl
  | cons c t ih =>
    show (Jvm.Cond.and c (allAtoms t)).before a st = _
    rw [Jvm.Cond.before_and, ih, List.all_cons]
def words1 : List Jvm.Cond := Jvm.Cond.code x code maxLocals ret :: tables_1
/-- a 'code' word, met by the world's own term for the bytes: nothing is compared byte by byte -/
theorem code_word {y : MethodName} {bytes : ByteArray} {mx : Nat} {rt : Option FieldType} {a : Array Value} {s : State} {m : MethodId} {meth : Method} {c : Code} (h1 : s.methodNamed? y = some m) (h2 : s.vm.method? m = some meth) (h3 : meth.code = some c) (h4 : c.code = bytes)
    (h5 : (c.maxLocals == mx && c.exceptionTable.isEmpty && decide (c.maxStack ≤ mostOperands) && decide (meth.sig.returnType = rt) && !meth.locks && decide (parseMethodDescriptor y.desc = some meth.sig)) = true) : (Jvm.Cond.code y bytes mx rt).before a s = true := by
  simp only [Bool.and_eq_true, beq_iff_eq, Bool.not_eq_true', decide_eq_true_eq] at h5
  obtain ⟨⟨⟨⟨⟨g1, g2⟩, g3⟩, g4⟩, g5⟩, g6⟩ := h5
  simp [Cond.before, Cond.holds, Cond.value, h1, h2, h3, h4, g1, g2, g3, g4, g5, g6]
def isCode : Jvm.Cond → Bool
  | .code _ _ _ _ => true
  | _ => false
theorem all_split {L : List Jvm.Cond} {P : Jvm.Cond → Bool} (h1 : L.all (fun c => isCode c || P c) = true) (h2 : ∀ c ∈ L.filter isCode, P c = true) : L.all P = true := by
  refine List.all_eq_true.mpr fun c hc => ?_
  have h := List.all_eq_true.mp h1 c hc
  rcases Bool.eq_false_or_eq_true (isCode c) with hi | hi
  · exact h2 c (List.mem_filter.mpr ⟨hc, hi⟩)
  · simpa [hi] using h
set_option maxRecDepth 65536 in
theorem w_c0 : (Jvm.Cond.code x code maxLocals ret).before args0 about1 = true := code_word (m := ⟨1, 1⟩) (meth := k1m1) (c := k1c1) (by decide +kernel) rfl rfl rfl (by decide +kernel)
set_option maxRecDepth 65536 in
theorem w_c1 : (Jvm.Cond.code ({ cls := "com/example/nosto/nosto/LogProduct", name := "<init>", desc := "()V" } : Jvm.MethodName) prog_46_method_1_code (1 : Nat) (Option.none : Option Jvm.ClassFile.FieldType)).before args0 about1 = true := code_word (m := ⟨2, 0⟩) (meth := k2m0) (c := k2c0) (by decide +kernel) rfl rfl rfl (by decide +kernel)
set_option maxRecDepth 65536 in
theorem w_c2 : (Jvm.Cond.code ({ cls := "java/lang/Object", name := "<init>", desc := "()V" } : Jvm.MethodName) object_method_1_code (1 : Nat) (Option.none : Option Jvm.ClassFile.FieldType)).before args0 about1 = true := code_word (m := ⟨0, 0⟩) (meth := k0m0) (c := k0c0) (by decide +kernel) rfl rfl rfl (by decide +kernel)
set_option maxRecDepth 65536 in
theorem w_c3 : (Jvm.Cond.code ({ cls := "com/example/nosto/nosto/LogProduct", name := "add", desc := "(D)V" } : Jvm.MethodName) prog_46_method_6_code (7 : Nat) (Option.none : Option Jvm.ClassFile.FieldType)).before args0 about1 = true := code_word (m := ⟨2, 3⟩) (meth := k2m3) (c := k2c3) (by decide +kernel) rfl rfl rfl (by decide +kernel)
set_option maxRecDepth 65536 in
theorem w_c4 : (Jvm.Cond.code ({ cls := "com/example/nosto/nosto/LogProduct", name := "hi", desc := "()D" } : Jvm.MethodName) prog_46_method_4_code (1 : Nat) (Option.some Jvm.ClassFile.FieldType.double)).before args0 about1 = true := code_word (m := ⟨2, 1⟩) (meth := k2m1) (c := k2c1) (by decide +kernel) rfl rfl rfl (by decide +kernel)
set_option maxRecDepth 65536 in
theorem w_c5 : (Jvm.Cond.code ({ cls := "com/example/nosto/nosto/LogProduct", name := "lo", desc := "()D" } : Jvm.MethodName) prog_46_method_5_code (1 : Nat) (Option.some Jvm.ClassFile.FieldType.double)).before args0 about1 = true := code_word (m := ⟨2, 2⟩) (meth := k2m2) (c := k2c2) (by decide +kernel) rfl rfl rfl (by decide +kernel)
def codes1 : List Jvm.Cond := [Jvm.Cond.code x code maxLocals ret, Jvm.Cond.code ({ cls := "com/example/nosto/nosto/LogProduct", name := "<init>", desc := "()V" } : Jvm.MethodName) prog_46_method_1_code (1 : Nat) (Option.none : Option Jvm.ClassFile.FieldType), Jvm.Cond.code ({ cls := "java/lang/Object", name := "<init>", desc := "()V" } : Jvm.MethodName) object_method_1_code (1 : Nat) (Option.none : Option Jvm.ClassFile.FieldType), Jvm.Cond.code ({ cls := "com/example/nosto/nosto/LogProduct", name := "add", desc := "(D)V" } : Jvm.MethodName) prog_46_method_6_code (7 : Nat) (Option.none : Option Jvm.ClassFile.FieldType), Jvm.Cond.code ({ cls := "com/example/nosto/nosto/LogProduct", name := "hi", desc := "()D" } : Jvm.MethodName) prog_46_method_4_code (1 : Nat) (Option.some Jvm.ClassFile.FieldType.double), Jvm.Cond.code ({ cls := "com/example/nosto/nosto/LogProduct", name := "lo", desc := "()D" } : Jvm.MethodName) prog_46_method_5_code (1 : Nat) (Option.some Jvm.ClassFile.FieldType.double)]
set_option maxRecDepth 65536 in
theorem codes_eq : words1.filter isCode = codes1 := rfl
theorem w_codes : ∀ c ∈ words1.filter isCode, c.before args0 about1 = true := by
  rw [codes_eq]
  intro c hc
  simp only [codes1, List.mem_cons, List.not_mem_nil, or_false] at hc
  rcases hc with rfl | rfl | rfl | rfl | rfl | rfl
  · exact w_c0
  · exact w_c1
  · exact w_c2
  · exact w_c3
  · exact w_c4
  · exact w_c5
set_option maxRecDepth 65536 in
theorem w_t1 : (words1.take 24).all (fun c => isCode c || c.before args0 about1) = true := by decide +kernel
set_option maxRecDepth 65536 in
theorem w_t2 : (words1.drop 24).all (fun c => isCode c || c.before args0 about1) = true := by decide +kernel
theorem w_tables : (allAtoms (Jvm.Cond.code x code maxLocals ret :: tables_1)).before args0 about1 = true := by
  rw [allAtoms_all]
  show words1.all (fun c => c.before args0 about1) = true
  refine all_split ?_ w_codes
  rw [← List.take_append_drop 24 words1, List.all_append, w_t1, w_t2]
  rfl
set_option maxRecDepth 65536 in
theorem w_case : (Jvm.Cond.and given_1 narrow_1).before args0 about1 = true := by decide +kernel
theorem w_applies : (headSpec (Jvm.Cond.code x code maxLocals ret :: tables_1) room_1).applies x e0.platform about1 = true :=
  (Spec.applies_iff w_frames).mpr ⟨w_running, w_runnable, w_alone, w_named, w_hears, w_ripe, w_room, w_tables⟩
theorem atStart : AtStart classFile x code maxLocals ret World_1 tables_1 room_1 Calls_1 rest_1 Pre_1 launch0 p0 e0 about1 theMethod args0 below0 :=
  ⟨lists_1, trivial, launch0.admits_env _ _ _, launch0.least_env, fairChoices_fair.cas, fairChoices_fair.clock, w_frames, w_args, w_heap, w_applies, trivial, trivial, w_case⟩
end start1
theorem witness_1 : WitnessClaimed_1 := ⟨start1.p0, start1.e0, start1.about1, start1.theMethod, start1.args0, start1.below0, start1.atStart⟩
end Jvm.Pilot.@@N@@
