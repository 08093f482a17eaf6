import JvmDerived
import JvmDerived.Pilot.@@N@@Statement
import JvmDerived.Pilot.@@N@@Code
set_option linter.unusedVariables false
set_option linter.unusedSimpArgs false
namespace Jvm.Pilot.@@N@@
section OwnF
open Jvm Jvm.FP.Core
/-- the double x is finite and its value is the whole number n -/
def own_V (x : UInt64) (n : Int) : Prop := ∃ s c q, val64 x = .fin s c q ∧ signed s (inUnits c q (-1074)) = n * ((2 ^ 1074 : Nat) : Int)
/-- n is a whole number of at most 53 digits and some zeros -/
def own_R (n : Int) : Prop := ∃ cc kk : Nat, cc < 2 ^ 53 ∧ n.natAbs = cc * 2 ^ kk
theorem own_qmin : b64.qmin = -1074 := by decide
theorem own_qmax : b64.qmax = 971 := by decide
theorem own_sgn {s t : Bool} {A : Nat} {e : Int} {c : Nat} {q : Int} (h : roundRatio b64 s A 1 e = .fin t c q) : t = s := by
  unfold roundRatio at h
  split at h
  · cases h; rfl
  · unfold roundAt settle bound at h
    split at h <;> split at h <;> cases h <;> rfl
theorem own_fin {s : Bool} {A : Nat} {e : Int} (h : roundRatio b64 s A 1 e ≠ .inf s) : ∃ c q, roundRatio b64 s A 1 e = .fin s c q := by
  cases hr : roundRatio b64 s A 1 e with
  | nan =>
    exfalso
    unfold roundRatio at hr
    split at hr
    · cases hr
    · unfold roundAt settle bound at hr
      split at hr <;> split at hr <;> cases hr
  | inf t =>
    exfalso
    apply h
    rw [hr]
    unfold roundRatio at hr
    split at hr
    · cases hr
    · unfold roundAt settle bound at hr
      split at hr <;> split at hr <;> cases hr <;> rfl
  | fin t c q => exact ⟨c, q, by rw [own_sgn hr]⟩
/-- rounding a whole number -/
theorem own_rnd (s : Bool) {A : Nat} {e : Int} {N : Nat} (he : -1074 ≤ e) (hA : inUnits A e (-1074) = N * 2 ^ 1074) (hN : N < 2 ^ 1000) :
    ∃ c q M, roundRatio b64 s A 1 e = .fin s c q ∧ inUnits c q (-1074) = M * 2 ^ 1074 ∧ ∀ cc kk : Nat, cc < 2 ^ 53 → ((N : Int) - M).natAbs ≤ ((N : Int) - (cc * 2 ^ kk : Nat)).natAbs := by
  have hni : roundRatio b64 s A 1 e ≠ .inf s := by
    intro q
    have q2 := (roundRatio_inf (f := b64) good_b64 (s := s) (A := A) (B := 1) (e := e) (e0 := -1075) (by decide) (by rw [own_qmin]; decide) (by omega)).mp q
    have e1 : inUnits A e (-1075) = 2 * (N * 2 ^ 1074) := by
      rw [← hA]
      unfold inUnits
      rw [show (e - -1075).toNat = (e - -1074).toNat + 1 by omega, Nat.pow_succ]
      ac_rfl
    rw [e1, Nat.mul_one, own_qmax] at q2
    have e2 : 2 * (N * 2 ^ 1074) < 2 * (2 ^ 1000 * 2 ^ 1074) := by
      have := Nat.mul_lt_mul_of_pos_right hN (Nat.two_pow_pos 1074)
      omega
    have e3 : 2 * (2 ^ 1000 * 2 ^ 1074) ≤ (2 ^ (b64.p + 1) - 1) * 2 ^ (971 - 1 - (-1075 : Int)).toNat := by decide +kernel
    omega
  obtain ⟨c, q, hr⟩ := own_fin hni
  have hf : Jvm.FP.Core.fits b64 (.fin s c q) := by rw [← hr]; exact roundRatio_fits good_b64 s A (by decide) e
  obtain ⟨hc, hq1, hq2, -⟩ := hf
  rw [own_qmin] at hq1
  have hc' : c < 2 ^ 53 := hc
  have near : ∀ (c' : Nat) (q' : Int), c' < 2 ^ 53 → -1074 ≤ q' → (((N * 2 ^ 1074 : Nat) : Int) - (inUnits c q (-1074) : Nat)).natAbs ≤ (((N * 2 ^ 1074 : Nat) : Int) - (inUnits c' q' (-1074) : Nat)).natAbs := by
    intro c' q' h1 h2
    have := roundRatio_nearest (f := b64) good_b64 (c' := c') (q' := q') (e0 := -1074) (by decide) hr h1 (by rw [own_qmin]; exact h2) (by rw [own_qmin]; decide) he
    unfold distance at this
    rw [hA] at this
    simpa using this
  have hU : 0 < 2 ^ 1074 := Nat.two_pow_pos 1074
  have hk : ∀ cc kk : Nat, inUnits cc (kk : Int) (-1074) = cc * 2 ^ kk * 2 ^ 1074 := by
    intro cc kk
    unfold inUnits
    rw [show ((kk : Int) - -1074).toNat = kk + 1074 by omega, Nat.pow_add, Nat.mul_assoc]
  obtain ⟨M, hM⟩ : ∃ M, inUnits c q (-1074) = M * 2 ^ 1074 := by
    by_cases hs : N < 2 ^ 53
    · have h1 := near N 0 hs (by decide)
      have h2 := hk N 0
      simp only [Nat.pow_zero, Nat.mul_one, Int.ofNat_zero] at h2
      rw [h2] at h1
      exact ⟨N, by omega⟩
    · by_cases hq : 0 ≤ q
      · refine ⟨c * 2 ^ q.toNat, ?_⟩
        have := hk c q.toNat
        rw [show ((q.toNat : Nat) : Int) = q by omega] at this
        exact this
      · exfalso
        have h1 := near (2 ^ 52) 1 (by decide) (by decide)
        have h2 := hk (2 ^ 52) 1
        simp only [Int.natCast_one] at h2
        rw [h2] at h1
        have h3 : inUnits c q (-1074) < 2 ^ 53 * 2 ^ 1074 := by
          unfold inUnits
          calc c * 2 ^ (q - -1074).toNat ≤ c * 2 ^ 1074 := Nat.mul_le_mul_left _ (Nat.pow_le_pow_right (by decide) (by omega))
            _ < 2 ^ 53 * 2 ^ 1074 := Nat.mul_lt_mul_of_pos_right hc' hU
        have h4 : 2 ^ 53 * 2 ^ 1074 ≤ N * 2 ^ 1074 := Nat.mul_le_mul_right _ (by omega)
        have h5 : (2 ^ 52 * 2 ^ 1 * 2 ^ 1074 : Nat) = 2 ^ 53 * 2 ^ 1074 := by rw [← Nat.pow_add]
        rw [h5] at h1
        generalize (2 ^ 53 * 2 ^ 1074 : Nat) = X at *
        generalize (N * 2 ^ 1074 : Nat) = Y at *
        generalize inUnits c q (-1074) = Z at *
        omega
  refine ⟨c, q, M, hr, hM, fun cc kk h1 => ?_⟩
  have h2 := near cc kk h1 (by omega)
  rw [hM, hk] at h2
  generalize (2 ^ 1074 : Nat) = X at *
  have g : ∀ a b : Nat, (((a * X : Nat) : Int) - ((b * X : Nat) : Int)).natAbs = ((a : Int) - b).natAbs * X := by
    intro a b
    rw [Int.natCast_mul, Int.natCast_mul, ← Int.sub_mul, Int.natAbs_mul]
    simp
  rw [g, g] at h2
  exact Nat.le_of_mul_le_mul_right h2 hU

theorem own_sabs (s : Bool) (c : Nat) : (signed s c).natAbs = c := natAbs_signed s c
/-- the sum of two whole numbers, rounded: as near as any whole number of 53 digits -/
theorem own_dadd {x y : UInt64} {m n : Int} (hx : own_V x m) (hy : own_V y n) (hb : (m + n).natAbs < 2 ^ 1000) :
    ∃ D, own_V (dadd x y) D ∧ ∀ r, own_R r → ((m + n) - D).natAbs ≤ ((m + n) - r).natAbs := by
  obtain ⟨s, c, q, h1, h2⟩ := hx
  obtain ⟨t, d, r, k1, k2⟩ := hy
  have f1 := val64_fits x
  have f2 := val64_fits y
  rw [h1] at f1
  rw [k1] at f2
  have g1 : -1074 ≤ q := by have := f1.2.1; rw [own_qmin] at this; exact this
  have g2 : -1074 ≤ r := by have := f2.2.1; rw [own_qmin] at this; exact this
  have hv : val64 (dadd x y) = roundRatio b64 (sumSign s t (sumUnits s c q t d r (min q r))) (sumUnits s c q t d r (min q r)).natAbs 1 (min q r) := by
    rw [val64_dadd, h1, k1]; rfl
  have hm : -1074 ≤ min q r := by omega
  have hs : sumUnits s c q t d r (min q r) * ((2 ^ (min q r - -1074).toNat : Nat) : Int) = (m + n) * ((2 ^ 1074 : Nat) : Int) := by
    unfold sumUnits
    rw [Int.add_mul, ← signed_mul, ← signed_mul, ← inUnits_move c hm (by omega), ← inUnits_move d hm (by omega), h2, k2, Int.add_mul]
  generalize hw : sumUnits s c q t d r (min q r) = w at *
  have hA : inUnits w.natAbs (min q r) (-1074) = (m + n).natAbs * 2 ^ 1074 := by
    unfold inUnits
    have := congrArg Int.natAbs hs
    rw [Int.natAbs_mul, Int.natAbs_mul, Int.natAbs_natCast, Int.natAbs_natCast] at this
    exact this
  obtain ⟨c', q', M, hr, hM, near⟩ := own_rnd (sumSign s t w) hm hA hb
  have p1 : (0 : Int) < ((2 ^ (min q r - -1074).toNat : Nat) : Int) := Int.natCast_pos.mpr (Nat.two_pow_pos _)
  have p2 : (0 : Int) < ((2 ^ 1074 : Nat) : Int) := Int.natCast_pos.mpr (Nat.two_pow_pos _)
  have hw0 : w = 0 ↔ m + n = 0 := by
    constructor
    · intro h; rw [h, Int.zero_mul] at hs; exact (Int.mul_eq_zero.mp hs.symm).resolve_right (Int.ne_of_gt p2)
    · intro h; rw [h, Int.zero_mul] at hs; exact (Int.mul_eq_zero.mp hs).resolve_right (Int.ne_of_gt p1)
  have hwn : w < 0 ↔ m + n < 0 := by
    constructor
    · intro h
      refine Int.not_le.mp fun hh => absurd (Int.mul_neg_of_neg_of_pos h p1) (Int.not_lt.mpr ?_)
      rw [hs]; exact Int.mul_nonneg hh (Int.le_of_lt p2)
    · intro h
      refine Int.not_le.mp fun hh => absurd (Int.mul_neg_of_neg_of_pos h p2) (Int.not_lt.mpr ?_)
      rw [← hs]; exact Int.mul_nonneg hh (Int.le_of_lt p1)
  refine ⟨signed (sumSign s t w) M, ⟨_, c', q', hv.trans hr, by rw [hM, signed_mul]⟩, fun z hz => ?_⟩
  obtain ⟨cc, kk, z1, z2⟩ := hz
  have n1 := near cc kk z1
  have n0 := near 0 0 (by decide)
  simp only [Nat.zero_mul] at n0
  rw [← z2] at n1
  have e1 : ((m + n) - signed (sumSign s t w) M).natAbs = (((m + n).natAbs : Int) - M).natAbs := by
    unfold sumSign
    by_cases h0 : w = 0
    · have := hw0.mp h0
      rw [this] at n0 ⊢
      have : M = 0 := by omega
      subst this
      rw [signed_zero]
      rfl
    · rw [if_neg h0]
      by_cases hn : w < 0
      · have := hwn.mp hn
        rw [decide_eq_true hn]
        simp only [signed, if_true]
        omega
      · have : ¬ m + n < 0 := fun q => hn (hwn.mpr q)
        rw [decide_eq_false hn]
        simp only [signed]
        rw [if_neg (by decide)]
        omega
  rw [e1]
  omega
theorem own_dneg {x : UInt64} {n : Int} (h : own_V x n) : own_V (dneg x) (-n) := by
  obtain ⟨s, c, q, h1, h2⟩ := h
  refine ⟨!s, c, q, by rw [val64_dneg, h1]; rfl, ?_⟩
  rw [Int.neg_mul, ← h2]
  cases s <;> simp [signed]
theorem own_dsub {x y : UInt64} {m n : Int} (hx : own_V x m) (hy : own_V y n) (hb : (m - n).natAbs < 2 ^ 1000) :
    ∃ D, own_V (dsub x y) D ∧ ∀ r, own_R r → ((m - n) - D).natAbs ≤ ((m - n) - r).natAbs := by
  rw [dsub_eq]
  exact own_dadd hx (own_dneg hy) (by rw [← Int.sub_eq_add_neg]; exact hb)
theorem own_addE {x y : UInt64} {m n : Int} (hx : own_V x m) (hy : own_V y n) (hb : (m + n).natAbs < 2 ^ 1000) (hr : own_R (m + n)) : own_V (dadd x y) (m + n) := by
  obtain ⟨D, h1, h2⟩ := own_dadd hx hy hb
  have := h2 _ hr
  have e : D = m + n := by omega
  rw [← e]; exact h1
theorem own_subE {x y : UInt64} {m n : Int} (hx : own_V x m) (hy : own_V y n) (hb : (m - n).natAbs < 2 ^ 1000) (hr : own_R (m - n)) : own_V (dsub x y) (m - n) := by
  obtain ⟨D, h1, h2⟩ := own_dsub hx hy hb
  have := h2 _ hr
  have e : D = m - n := by omega
  rw [← e]; exact h1
theorem own_Rs {n : Int} (h : n.natAbs < 2 ^ 53) : own_R n := ⟨n.natAbs, 0, h, by simp⟩
/-- what a double holds has 53 digits -/
theorem own_VR {x : UInt64} {n : Int} (h : own_V x n) : own_R n := by
  obtain ⟨s, c, q, h1, h2⟩ := h
  have f1 := val64_fits x
  rw [h1] at f1
  have hc : c < 2 ^ 53 := f1.1
  have g1 : -1074 ≤ q := by have := f1.2.1; rw [own_qmin] at this; exact this
  have h3 := congrArg Int.natAbs h2
  rw [natAbs_signed, Int.natAbs_mul, Int.natAbs_natCast] at h3
  by_cases hq : 0 ≤ q
  · refine ⟨c, q.toNat, hc, ?_⟩
    unfold inUnits at h3
    rw [show (q - -1074).toNat = q.toNat + 1074 by omega, Nat.pow_add, ← Nat.mul_assoc] at h3
    exact (Nat.eq_of_mul_eq_mul_right (Nat.two_pow_pos 1074) h3).symm
  · refine own_Rs (Nat.lt_of_le_of_lt ?_ hc)
    unfold inUnits at h3
    have : c * 2 ^ (q - -1074).toNat ≤ c * 2 ^ 1074 := Nat.mul_le_mul_left _ (Nat.pow_le_pow_right (by decide) (by omega))
    rw [h3] at this
    exact Nat.le_of_mul_le_mul_right this (Nat.two_pow_pos 1074)
theorem own_ofInt {n : Int} (hr : own_R n) (hb : n.natAbs < 2 ^ 1000) {x : UInt64} (hx : val64 x = round b64 (ofInt n)) : own_V x n := by
  have hA : inUnits n.natAbs 0 (-1074) = n.natAbs * 2 ^ 1074 := rfl
  obtain ⟨c, q, M, h1, h2, h3⟩ := own_rnd (decide (n < 0)) (by decide) hA hb
  obtain ⟨cc, kk, z1, z2⟩ := hr
  have h4 := h3 cc kk z1
  rw [← z2] at h4
  have e : M = n.natAbs := by omega
  subst e
  refine ⟨_, c, q, hx.trans h1, ?_⟩
  rw [h2, signed_mul]
  refine congrArg (fun z : Int => z * ((2 ^ 1074 : Nat) : Int)) ?_
  by_cases hn : n < 0
  · rw [decide_eq_true hn]; simp only [signed, if_true]; omega
  · rw [decide_eq_false hn]; simp only [signed]; rw [if_neg (by decide)]; omega
theorem own_i2d (i : Int32) : own_V (i2d i) i.toInt := by
  have h1 := i.le_toInt
  have h2 := i.toInt_lt
  have h3 : i.toInt.natAbs ≤ 2 ^ 31 := by omega
  exact own_ofInt (own_Rs (Nat.lt_of_le_of_lt h3 (by decide))) (Nat.lt_of_le_of_lt h3 (by decide +kernel)) (val64_i2d i)
theorem own_l2d (i : Int64) (hr : own_R i.toInt) : own_V (l2d i) i.toInt := by
  have h1 := i.le_toInt
  have h2 := i.toInt_lt
  have h3 : i.toInt.natAbs ≤ 2 ^ 63 := by omega
  exact own_ofInt hr (Nat.lt_of_le_of_lt h3 (by decide +kernel)) (val64_l2d i)
theorem own_num {x : UInt64} {n : Int} (h : own_V x n) : Jvm.Free.Fl.NoNaN64 x := by
  obtain ⟨s, c, q, h1, -⟩ := h
  rw [Jvm.Free.Fl.noNaN64_no]
  show decide (val64 x = .nan) = false
  rw [h1]
  simp
theorem own_cmp {x y : UInt64} {n : Int} (hx : own_V x n) (hy : own_V y n) : Jvm.FP.Core.dcmp x y = some .eq := by
  obtain ⟨s, c, q, h1, h2⟩ := hx
  obtain ⟨t, d, r, k1, k2⟩ := hy
  have f1 := val64_fits x
  have f2 := val64_fits y
  rw [h1] at f1
  rw [k1] at f2
  have g1 : -1074 ≤ q := by have := f1.2.1; rw [own_qmin] at this; exact this
  have g2 : -1074 ≤ r := by have := f2.2.1; rw [own_qmin] at this; exact this
  have hm : -1074 ≤ min q r := by omega
  show order (val64 x) (val64 y) = some .eq
  rw [h1, k1]
  simp only [order]
  have e := h2.trans k2.symm
  rw [inUnits_move c hm (by omega), inUnits_move d hm (by omega), signed_mul, signed_mul] at e
  have p1 : ((2 ^ (min q r - -1074).toNat : Nat) : Int) ≠ 0 := Int.ne_of_gt (Int.natCast_pos.mpr (Nat.two_pow_pos _))
  rw [Int.eq_of_mul_eq_mul_right p1 e]
  simp
theorem own_b {n : Int} (h : n.natAbs ≤ 2 ^ 100) : n.natAbs < 2 ^ 1000 := Nat.lt_of_le_of_lt h (by decide +kernel)
theorem own_eqV {x : UInt64} {m n : Int} (h : own_V x m) (e : m = n) : own_V x n := e ▸ h
/-- exact where the sum is small -/
theorem own_addS {x y : UInt64} {m n k : Int} (hx : own_V x m) (hy : own_V y n) (e : m + n = k) (hb : k.natAbs ≤ 2 ^ 40) : own_V (dadd x y) k := by
  subst e
  exact own_addE hx hy (own_b (by omega)) (own_Rs (by omega))
theorem own_subS {x y : UInt64} {m n k : Int} (hx : own_V x m) (hy : own_V y n) (e : m - n = k) (hb : k.natAbs ≤ 2 ^ 40) : own_V (dsub x y) k := by
  subst e
  exact own_subE hx hy (own_b (by omega)) (own_Rs (by omega))
theorem own_subR {x y : UInt64} {m n k : Int} (hx : own_V x m) (hy : own_V y n) (e : m - n = k) (hb : k.natAbs ≤ 2 ^ 100) (hr : own_R k) : own_V (dsub x y) k := by
  subst e
  exact own_subE hx hy (own_b hb) hr
/-- the first step, the great number first -/
theorem own_one {xa xb xe : UInt64} {a b : Int} (ha : own_V xa a) (hb : own_V xb b) (he : own_V xe 0) (hA : a.natAbs ≤ 2 ^ 95) (hB : b.natAbs ≤ 2 ^ 31) :
    ∃ B u p v w : Int, own_V (dadd xa xb) (a + B) ∧ own_V (dsub (dadd xa xb) xa) B ∧ own_V (dsub (dadd xa xb) (dsub (dadd xa xb) xa)) u ∧ own_V (dsub xa (dsub (dadd xa xb) (dsub (dadd xa xb) xa))) p ∧ own_V (dsub xb (dsub (dadd xa xb) xa)) v
      ∧ own_V (dadd (dsub xa (dsub (dadd xa xb) (dsub (dadd xa xb) xa))) (dsub xb (dsub (dadd xa xb) xa))) w ∧ own_V (dadd xe (dadd (dsub xa (dsub (dadd xa xb) (dsub (dadd xa xb) xa))) (dsub xb (dsub (dadd xa xb) xa)))) (b - B) ∧ B.natAbs ≤ 2 ^ 32 ∧ (b - B).natAbs ≤ 2 ^ 31 := by
  obtain ⟨D, h1, h2⟩ := own_dadd ha hb (own_b (by omega))
  have h3 := h2 a (own_VR ha)
  obtain ⟨B, rfl⟩ : ∃ B, D = a + B := ⟨D - a, by omega⟩
  have hz := own_subS h1 ha (k := B) (by omega) (by omega)
  have hu := own_subR h1 hz (k := a) (by omega) (by omega) (own_VR ha)
  have hp := own_subS ha hu (k := 0) (by omega) (by omega)
  have hv := own_subS hb hz (k := b - B) (by omega) (by omega)
  have hw := own_addS hp hv (k := b - B) (by omega) (by omega)
  have hr := own_addS he hw (k := b - B) (by omega) (by omega)
  exact ⟨B, a, 0, b - B, b - B, h1, hz, hu, hp, hv, hw, hr, by omega, by omega⟩
/-- the first step, the small number first -/
theorem own_oneB {xa xb xe : UInt64} {a b : Int} (ha : own_V xa a) (hb : own_V xb b) (he : own_V xe 0) (hA : a.natAbs ≤ 2 ^ 95) (hB : b.natAbs ≤ 2 ^ 31) :
    ∃ B z u p v w : Int, own_V (dadd xb xa) (a + B) ∧ own_V (dsub (dadd xb xa) xb) z ∧ own_V (dsub (dadd xb xa) (dsub (dadd xb xa) xb)) u ∧ own_V (dsub xb (dsub (dadd xb xa) (dsub (dadd xb xa) xb))) p ∧ own_V (dsub xa (dsub (dadd xb xa) xb)) v
      ∧ own_V (dadd (dsub xb (dsub (dadd xb xa) (dsub (dadd xb xa) xb))) (dsub xa (dsub (dadd xb xa) xb))) w ∧ own_V (dadd xe (dadd (dsub xb (dsub (dadd xb xa) (dsub (dadd xb xa) xb))) (dsub xa (dsub (dadd xb xa) xb)))) (b - B) ∧ B.natAbs ≤ 2 ^ 32 ∧ (b - B).natAbs ≤ 2 ^ 31 := by
  obtain ⟨D, h1, h2⟩ := own_dadd hb ha (own_b (by omega))
  have h3 := h2 a (own_VR ha)
  obtain ⟨B, rfl⟩ : ∃ B, D = a + B := ⟨D - a, by omega⟩
  obtain ⟨E0, hz, k2⟩ := own_dsub h1 hb (own_b (by omega))
  have k3 := k2 a (own_VR ha)
  obtain ⟨E, rfl⟩ : ∃ E, E0 = a - E := ⟨a - E0, by omega⟩
  have hu := own_subS h1 hz (k := B + E) (by omega) (by omega)
  have hp := own_subS hb hu (k := b - (B + E)) (by omega) (by omega)
  have hv := own_subS ha hz (k := E) (by omega) (by omega)
  have hw := own_addS hp hv (k := b - B) (by omega) (by omega)
  have hr := own_addS he hw (k := b - B) (by omega) (by omega)
  exact ⟨B, a - E, B + E, b - (B + E), E, b - B, h1, hz, hu, hp, hv, hw, hr, by omega, by omega⟩
/-- the second step: the great number taken away -/
theorem own_two {xa xn xt xe : UInt64} {a B e : Int} (ha : own_V xa a) (hn : own_V xn (-a)) (ht : own_V xt (a + B)) (he : own_V xe e) (hA : a.natAbs ≤ 2 ^ 95) (hB : B.natAbs ≤ 2 ^ 32) (hE : e.natAbs ≤ 2 ^ 31) :
    own_V (dadd xt xn) B ∧ own_V (dsub (dadd xt xn) xt) (-a) ∧ own_V (dsub (dadd xt xn) (dsub (dadd xt xn) xt)) (a + B) ∧ own_V (dsub xt (dsub (dadd xt xn) (dsub (dadd xt xn) xt))) 0 ∧ own_V (dsub xn (dsub (dadd xt xn) xt)) 0
      ∧ own_V (dadd (dsub xt (dsub (dadd xt xn) (dsub (dadd xt xn) xt))) (dsub xn (dsub (dadd xt xn) xt))) 0 ∧ own_V (dadd xe (dadd (dsub xt (dsub (dadd xt xn) (dsub (dadd xt xn) xt))) (dsub xn (dsub (dadd xt xn) xt)))) e := by
  have h1 := own_addS ht hn (k := B) (by omega) (by omega)
  have hz := own_subR h1 ht (k := -a) (by omega) (by omega) (own_VR hn)
  have hu := own_subR h1 hz (k := a + B) (by omega) (by omega) (own_VR ht)
  have hp := own_subS ht hu (k := 0) (by omega) (by omega)
  have hv := own_subS hn hz (k := 0) (by omega) (by omega)
  have hw := own_addS hp hv (k := 0) (by omega) (by omega)
  have hr := own_addS he hw (k := e) (by omega) (by omega)
  exact ⟨h1, hz, hu, hp, hv, hw, hr⟩
theorem own_mag {s : Bool} {c : Nat} {q n : Int} (h : signed s (inUnits c q (-1074)) = n * ((2 ^ 1074 : Nat) : Int)) : c * 2 ^ (q - -1074).toNat = n.natAbs * 2 ^ 1074 ∧ n = signed s n.natAbs := by
  have h3 := congrArg Int.natAbs h
  rw [natAbs_signed, Int.natAbs_mul, Int.natAbs_natCast] at h3
  refine ⟨h3, ?_⟩
  rw [show inUnits c q (-1074) = n.natAbs * 2 ^ 1074 from h3, signed_mul] at h
  exact (Int.eq_of_mul_eq_mul_right (Int.ne_of_gt (Int.natCast_pos.mpr (Nat.two_pow_pos _))) h).symm
theorem own_low {c : Nat} {q : Int} {N : Nat} (hc : c < 2 ^ 53) (hq : -1074 ≤ q) (hN : N ≠ 0) (h : c * 2 ^ (q - -1074).toNat = N * 2 ^ 1074) : -60 ≤ q := by
  refine Int.not_lt.mp fun hh => ?_
  have h1 : 2 ^ 1074 ≤ c * 2 ^ (q - -1074).toNat := by rw [h]; exact Nat.le_mul_of_pos_left _ (Nat.pos_of_ne_zero hN)
  have h2 : c * 2 ^ (q - -1074).toNat ≤ 2 ^ 53 * 2 ^ 1014 := Nat.mul_le_mul (Nat.le_of_lt hc) (Nat.pow_le_pow_right (by decide) (by omega))
  have h3 : 2 ^ 53 * 2 ^ 1014 < 2 ^ 1074 := by decide +kernel
  exact absurd (Nat.lt_of_le_of_lt (Nat.le_trans h1 h2) h3) (Nat.lt_irrefl _)
theorem own_smul (s t : Bool) (a b : Nat) : signed (s != t) (a * b) = signed s a * signed t b := by
  cases s <;> cases t <;> simp [signed, Int.neg_mul, Int.mul_neg]
theorem own_dmul {x y : UInt64} {m n : Int} (hx : own_V x m) (hy : own_V y n) (hR : own_R (m * n)) (hb : (m * n).natAbs < 2 ^ 1000) : own_V (dmul x y) (m * n) := by
  obtain ⟨s, c, q, h1, h2⟩ := hx
  obtain ⟨t, d, r, k1, k2⟩ := hy
  have f1 := val64_fits x
  have f2 := val64_fits y
  rw [h1] at f1
  rw [k1] at f2
  have g1 : -1074 ≤ q := by have := f1.2.1; rw [own_qmin] at this; exact this
  have g2 : -1074 ≤ r := by have := f2.2.1; rw [own_qmin] at this; exact this
  obtain ⟨a1, a2⟩ := own_mag h2
  obtain ⟨b1, b2⟩ := own_mag k2
  have hv : val64 (dmul x y) = roundRatio b64 (s != t) (c * d) 1 (q + r) := by rw [val64_dmul, h1, k1]; rfl
  by_cases h0 : m.natAbs = 0 ∨ n.natAbs = 0
  · have hz : c * d = 0 := by
      rcases h0 with h0 | h0
      · rw [h0, Nat.zero_mul] at a1
        rw [(Nat.mul_eq_zero.mp a1).resolve_right (Nat.ne_of_gt (Nat.two_pow_pos _)), Nat.zero_mul]
      · rw [h0, Nat.zero_mul] at b1
        rw [(Nat.mul_eq_zero.mp b1).resolve_right (Nat.ne_of_gt (Nat.two_pow_pos _)), Nat.mul_zero]
    have hmn : m * n = 0 := by
      rcases h0 with h0 | h0
      · rw [Int.natAbs_eq_zero.mp h0, Int.zero_mul]
      · rw [Int.natAbs_eq_zero.mp h0, Int.mul_zero]
    rw [hz] at hv
    refine ⟨_, 0, b64.qmin, hv.trans (by unfold roundRatio; rw [if_pos rfl]), ?_⟩
    rw [hmn, Int.zero_mul, show inUnits 0 b64.qmin (-1074) = 0 by unfold inUnits; exact Nat.zero_mul _, signed_zero]
  · have l1 := own_low f1.1 g1 (fun q => h0 (Or.inl q)) a1
    have l2 := own_low f2.1 g2 (fun q => h0 (Or.inr q)) b1
    have hA : inUnits (c * d) (q + r) (-1074) = (m * n).natAbs * 2 ^ 1074 := by
      refine Nat.eq_of_mul_eq_mul_right (Nat.two_pow_pos 1074) ?_
      have e1 : inUnits (c * d) (q + r) (-1074) * 2 ^ 1074 = (c * 2 ^ (q - -1074).toNat) * (d * 2 ^ (r - -1074).toNat) := by
        unfold inUnits
        rw [Nat.mul_assoc, ← Nat.pow_add, show (q + r - -1074).toNat + 1074 = (q - -1074).toNat + (r - -1074).toNat by omega, Nat.pow_add]
        ac_rfl
      rw [e1, a1, b1, Int.natAbs_mul]
      generalize (2 ^ 1074 : Nat) = X
      ac_rfl
    obtain ⟨c', q', M, z1, z2, z3⟩ := own_rnd (s != t) (by omega) hA hb
    obtain ⟨cc, kk, y1, y2⟩ := hR
    have y3 := z3 cc kk y1
    rw [← y2] at y3
    have e : M = (m * n).natAbs := by omega
    subst e
    refine ⟨_, c', q', hv.trans z1, ?_⟩
    rw [z2, signed_mul, Int.natAbs_mul, own_smul, ← a2, ← b2]
theorem own_shl : ∀ k : Fin 64, ((1 : Int64) <<< Int64.ofNat k.1).toInt.natAbs = 2 ^ k.1 := by decide +kernel
theorem own_pow (y : Int32) : ∃ k : Nat, k < 64 ∧ ((1 : Int64) <<< ((y &&& (63 : Int32)) &&& 0x3f).toInt64).toInt.natAbs = 2 ^ k := by
  have h1 := Jvm.RoadKit.c_mask (y &&& (63 : Int32)) 63 6 (by decide) (by decide)
  have h2 := Jvm.RoadKit.c_i2l ((y &&& (63 : Int32)) &&& 63)
  generalize ((y &&& (63 : Int32)) &&& 63) = w at *
  obtain ⟨k, hk⟩ : ∃ k : Nat, w.toInt = k := ⟨w.toInt.toNat, by omega⟩
  have hk2 : k < 64 := by omega
  refine ⟨k, hk2, ?_⟩
  have e : w.toInt64 = Int64.ofNat k := by
    apply Int64.toInt_inj.mp
    rw [h2, hk, Int64.toInt_ofNat_of_lt (by omega)]
  rw [e]
  exact own_shl ⟨k, hk2⟩
/-- the great number: an int times a power of two -/
theorem own_big (i y : Int32) : ∃ a : Int, a.natAbs ≤ 2 ^ 95 ∧ own_V (dmul (i2d i) (l2d ((1 : Int64) <<< ((y &&& (63 : Int32)) &&& 0x3f).toInt64))) a := by
  obtain ⟨k, hk, hp⟩ := own_pow y
  generalize ((1 : Int64) <<< ((y &&& (63 : Int32)) &&& 0x3f).toInt64) = P at *
  have h1 := i.le_toInt
  have h2 := i.toInt_lt
  have h3 : i.toInt.natAbs ≤ 2 ^ 31 := by omega
  have hl : own_V (l2d P) P.toInt := own_l2d P ⟨1, k, by decide, by rw [hp, Nat.one_mul]⟩
  have hm : (i.toInt * P.toInt).natAbs = i.toInt.natAbs * 2 ^ k := by rw [Int.natAbs_mul, hp]
  have hle : (i.toInt * P.toInt).natAbs ≤ 2 ^ 95 := by
    rw [hm]
    calc i.toInt.natAbs * 2 ^ k ≤ 2 ^ 31 * 2 ^ 64 := Nat.mul_le_mul h3 (Nat.pow_le_pow_right (by decide) (by omega))
      _ = 2 ^ 95 := by decide
  exact ⟨_, hle, own_dmul (own_i2d i) hl ⟨i.toInt.natAbs, k, Nat.lt_of_le_of_lt h3 (by decide), hm⟩ (own_b (Nat.le_trans hle (by decide)))⟩
theorem own_zero : own_V (0 : UInt64) 0 := ⟨false, 0, -1074, by decide +kernel, by rw [Int.zero_mul]; rfl⟩
theorem own_i31 (i : Int32) : i.toInt.natAbs ≤ 2 ^ 31 := by
  have h1 := i.le_toInt
  have h2 := i.toInt_lt
  omega
theorem own_negF {x : UInt64} {n : Int} (h : own_V x n) : own_V (Jvm.FP.dneg x) (-n) := by
  obtain ⟨s, c, q, h1, h2⟩ := h
  refine ⟨!s, c, q, by rw [Jvm.FP.val64_dneg, h1]; rfl, ?_⟩
  rw [Int.neg_mul, ← h2]
  cases s <;> simp [signed]
theorem own_cmpV {x y : UInt64} {n : Int} (hx : own_V x n) (hy : own_V y n) (o : Jvm.ClassFile.CmpOp) : Jvm.Op.cmpValue (Jvm.FP.dcmp x y) o = 0 := by
  have h := own_cmp hx hy
  have h2 : Jvm.FP.dcmp x y = some .eq := h
  rw [h2]
  cases o <;> rfl
end OwnF
open Jvm Jvm.ClassFile Sem Op Lib Jvm.Free Jvm.Stand Jvm.LawKit Jvm.RoadKit Bundle Jvm.Pilot.@@N@@.Jvm.D Jvm.Free.Fl
theorem own_g {Z : State} {a0 : Array Value} (hw : ∀ d ∈ tables_1, d.before a0 Z = true) {i : Nat} {d : Jvm.Cond} (h : tables_1[i]? = some d) : d.before a0 Z = true := hw _ (List.mem_of_getElem? h)
/-- the walk from the frame g in the state T comes to an end of which K holds -/
def own_E (p : Program) (e : Env) (below : List Frame) (K : Outcome → State → Prop) (T : State) (g : JFrame) : Prop := ∃ s₂ o, Steps p.tables e below (T.setTop g) s₂ ∧ s₂.status = .running ∧ Ended s₂ below o ∧ K o s₂
def own_K (s : State) (Q : Option Value → Heap → List Loc → Prop) (kc ks : Nat) (o : Outcome) (U : State) : Prop := ∃ v L, o = .returned v ∧ Q v U.heap L ∧ FrameEnd s o U L kc ks
section OwnKit
variable {p : Program} {l : Launch} {e : Env} {R : Room} {s : State} {m : MethodId} {args : Array Value} {below : List Frame} {meth : Method} {c : Code} {T T' : State} {locs : List Loc} {cells slots : Nat} {K : Outcome → State → Prop} {Z : State} {h h' : Heap}
theorem own_S {g : JFrame} (g' : JFrame) (st : ∀ t, Steps p.tables e below (T'.setTop g') t → Steps p.tables e below (T.setTop g) t) (k : own_E p e below K T' g') : own_E p e below K T g := by
  obtain ⟨s₂, o, h1, h2⟩ := k
  exact ⟨s₂, o, st _ h1, h2⟩
theorem own_s {g : JFrame} {t : State} (g' : JFrame) (st : ∀ t, Steps p.tables e below (T'.setTop g') t → Steps p.tables e below (T.setTop g) t) (k : Steps p.tables e below (T'.setTop g') t) : Steps p.tables e below (T.setTop g) t := st t k
theorem own_ret {Q : Option Value → Heap → List Loc → Prop} {kc ks : Nat} (X : Stand p l e R s m args below meth c T locs cells slots) (hx : p.tables.exec = Jvm.exec) (hlk : meth.locks = false) {pc : Nat} {Ls : Array Slot} {w : Value} {t : FieldType} {i : Instr} {rest : List Value} (hret : meth.sig.returnType = some t) (hn : narrow t w = w)
    (hi : (i = .ireturn ∧ (t = .int ∨ t = .boolean ∨ t = .byte ∨ t = .char ∨ t = .short) ∧ ∃ z, w = .int z) ∨ (i = .lreturn ∧ t = .long ∧ ∃ z, w = .long z) ∨ (i = .dreturn ∧ t = .double ∧ ∃ z, w = .double z) ∨ (i = .freturn ∧ t = .float ∧ ∃ z, w = .float z) ∨ (i = .areturn ∧ t.isReference = true ∧ w.isRef = true))
    (hd : decode c.code pc = .ok (i, 1)) (hQ : Q (some w) T.heap locs) (h1 : cells ≤ kc) (h2 : slots ≤ ks) : own_E p e below (own_K s Q kc ks) T (mkF m pc Ls (w :: rest)) := by
  obtain ⟨fs, hr, hrun, hended, hW, hsame⟩ := X.leave (v := some w) (fun h => by rw [hret] at h; cases h) hlk
  exact ⟨_, _, retOut X hx hret hn hi hd hr, hrun, hended, _, _, rfl, hQ, ⟨_, rfl⟩, hW, hsame.mono h1 h2⟩
theorem own_retN {Q : Option Value → Heap → List Loc → Prop} {kc ks : Nat} (X : Stand p l e R s m args below meth c T locs cells slots) (hx : p.tables.exec = Jvm.exec) (hlk : meth.locks = false) {pc : Nat} {Ls : Array Slot} {z : Int32} {t : FieldType} {rest : List Value} (hret : meth.sig.returnType = some t) (ht : t = .boolean ∨ t = .byte ∨ t = .char ∨ t = .short)
    (hd : decode c.code pc = .ok (.ireturn, 1)) (hQ : Q (some (.int (nar t z))) T.heap locs) (h1 : cells ≤ kc) (h2 : slots ≤ ks) : own_E p e below (own_K s Q kc ks) T (mkF m pc Ls (.int z :: rest)) := by
  obtain ⟨fs, hr, hrun, hended, hW, hsame⟩ := X.leave (v := some (.int (nar t z))) (fun h => by rw [hret] at h; cases h) hlk
  exact ⟨_, _, retN X hx hret ht hd hr, hrun, hended, _, _, rfl, hQ, ⟨_, rfl⟩, hW, hsame.mono h1 h2⟩
theorem own_ret0 {Q : Option Value → Heap → List Loc → Prop} {kc ks : Nat} (X : Stand p l e R s m args below meth c T locs cells slots) (hx : p.tables.exec = Jvm.exec) (hlk : meth.locks = false) {pc : Nat} {Ls : Array Slot} (hret : meth.sig.returnType = none)
    (hd : decode c.code pc = .ok (.return_, 1)) (hQ : Q none T.heap locs) (h1 : cells ≤ kc) (h2 : slots ≤ ks) : own_E p e below (own_K s Q kc ks) T (mkF m pc Ls []) := by
  obtain ⟨fs, hr, hrun, hended, hW, hsame⟩ := X.leave (v := none) (fun _ => rfl) hlk
  exact ⟨_, _, X.returnOut hx hret hd hr, hrun, hended, _, _, rfl, hQ, ⟨_, rfl⟩, hW, hsame.mono h1 h2⟩
theorem own_weak (X : Stand p l e R s m args below meth c T locs cells slots) {locs' : List Loc} {kc ks : Nat} (hl : ∀ y ∈ locs, y ∈ locs' ∨ s.heap.size ≤ y.base) (h1 : cells ≤ kc) (h2 : slots ≤ ks) : Stand p l e R s m args below meth c T locs' kc ks :=
  { X with same := (X.same.sift hl).mono h1 h2 }
theorem Sta_keep {C n d : String} {w : Value} {ws : List Addr} {n0 : Nat} (F : Sta Z h C n d w) (K : Keep h h' ws) (hn : ∀ a ∈ ws, ∀ cell : Cell, h[a]? = some cell → cell.vm.isStatics = false) : Sta Z h' C n d w := by
  obtain ⟨cf, i, k, f, st, cell, h1, h2, h3, h4, h5, h6, h7⟩ := F
  exact ⟨cf, i, k, f, st, cell, h1, h2, h3, h4, K.2.1 st cell h5 (fun q => by have := hn st q cell h5; rw [h6] at this; cases this), h6, h7⟩
theorem Ins_keep {a : Addr} {C : String} {b : Bool} {ws : List Addr} (F : Ins Z h a C b) (K : Keep h h' ws) : Ins Z h' a C b := by
  obtain ⟨cell, cT, h1, h2, h3⟩ := F
  obtain ⟨c', q1, q2, q3, -⟩ := K.2.2 a cell h1
  exact ⟨c', cT, q1, h2, by rw [q2, q3]; exact h3⟩
end OwnKit
theorem own_selP {s : State} {args : Array Value} {y : MethodName} {n : Nat} (wi : (Cond.instantiable y.cls n).before args s = true) (hp : s.PrivateAt y) (hi : (Cond.instanceMethod y).before args s = true) (hy : y.cls ≠ "java/lang/invoke/MethodHandle" ∧ y.cls ≠ "java/lang/invoke/VarHandle") : (Cond.selects y.cls y y).before args s = true := by
  obtain ⟨c, k, h1, h2, -, h4, -⟩ := Cond.instantiable_spec wi
  have hk : k.isInterface = false := by
    cases q : k.isInterface with
    | false => rfl
    | true => rw [q] at h4; cases h4
  exact selects_self_of_private h1 h2 hk hp hi hy
theorem own_dup2x1 {tb : Tables} [Ours tb] {e : Env} {below : List Frame} {T target : State} {m : MethodId} {c : Code} {g : JFrame} (h : At T m c below) (hx : tb.exec = Jvm.exec) (hg : g.method = m) {x : Int64} {y : Value} {rest : List Value} (hd : decode c.code g.pc = .ok (.dup2_x1, 1)) (hs : g.stack = .long x :: y :: rest) (hc : y.category = 1)
    (hr : Steps tb e below (T.setTop { g with pc := g.pc + 1, stack := .long x :: y :: .long x :: rest }) target) : Steps tb e below (T.setTop g) target := by
  subst hg
  jvm_step h [h.top, hx, hd, hs, hc, dup2_x1.wp_sem, Value.category]
  exact ⟨hc, hr⟩
abbrev own_y0 : MethodName := ⟨"com/example/accrue/accrue/exact/CompensatedSum", "<init>", "()V"⟩
abbrev own_y1 : MethodName := ⟨"com/example/accrue/accrue/exact/CompensatedSum", "start", "(D)Lcom/example/accrue/accrue/exact/CompensatedSum;"⟩
abbrev own_y2 : MethodName := ⟨"com/example/accrue/accrue/exact/CompensatedSum", "add", "(D)Lcom/example/accrue/accrue/exact/CompensatedSum;"⟩
abbrev own_y3 : MethodName := ⟨"java/lang/Double", "isNaN", "(D)Z"⟩
abbrev own_y4 : MethodName := ⟨"com/example/accrue/accrue/exact/CompensatedSum", "value", "()D"⟩
theorem d1_0 : decode prog_3_method_1_code 0 = .ok (.aload_n 0, 1) := by decide +kernel
theorem d1_1 : decode prog_3_method_1_code 1 = .ok (.invokespecial 1, 3) := by decide +kernel
theorem d1_4 : decode prog_3_method_1_code 4 = .ok (.return_, 1) := by decide +kernel
theorem own_pf_ci : plainFor own_y0 = true := by first | exact plainFor_of_name (show plainName "com/example/accrue/accrue/exact/CompensatedSum" = true by first | (simp [plainName, overriddenIn]; done) | decide +kernel) | decide +kernel
theorem own_ef_ci (m : MethodId) (y0 : Addr) : entryFrame m #[(.ref y0)] 1 = mkF m 0 #[rv y0] [] := by first | (simp [entryFrame, mkF, argsToLocals, Value.category]; done) | rfl
def own_Qci (Z : State) (a : Addr) (h0 : Heap) (n0 : Nat) (v : Option Value) (h : Heap) (L : List Loc) : Prop := v = none ∧ Fr n0 L ∧ h = h0
set_option maxRecDepth 65536 in
set_option maxHeartbeats 40000000 in
theorem own_rmci (l : Launch) (Z : State) (a0 : Array Value) (hw : ∀ d ∈ tables_1, d.before a0 Z = true) (ws : List Jvm.Cond) (a : Addr) (h0 : Heap) (n0 : Nat) (Z0 : n0 ≤ h0.size)  :
    MetFree l own_y0 (head1 (Jvm.Cond.code own_y0 prog_3_method_1_code 1 none :: ws) ({ frames := 1, cells := 0, slots := 0, locals := 12 } : Room)) (fun az Uz => az = #[(.ref a)] ∧ Z.Warmed39 Uz.vm ∧ Uz.heap = h0) (fun _ _ _ _ _ => True) (fun _ U o U' => ∃ v L, o = .returned v ∧ own_Qci Z a h0 n0 v U'.heap L ∧ FrameEnd U o U' L ({ frames := 1, cells := 0, slots := 0, locals := 12 } : Room).cells ({ frames := 1, cells := 0, slots := 0, locals := 12 } : Room).slots) := by
  refine MetFree.of_bodySF own_pf_ci hisR ?_
  intro p e s m args below meth c s₁ Bd hml0 hP hK
  obtain ⟨rfl, hZ, hh⟩ := hP
  have hx := Bd.exec
  have hby := Bd.bytes
  have hml : c.maxLocals = 1 := hml0
  have hown : s.vm.findClass "com/example/accrue/accrue/exact/CompensatedSum" = some m.cls := findClass_of_methodNamed Bd.named
  have hnm := (name_of_methodNamed Bd.named Bd.method).1
  have hlk : meth.locks = false := BodyLoose.notSynchronized Bd
  have hret := Bd.returns
  have X0 : Stand p l e ({ frames := 1, cells := 0, slots := 0, locals := 12 } : Room) s m #[(.ref a)] below meth c s₁ [] 0 0 := Stand.of_body Bd
  have e0 : s₁.heap = h0 := by rw [← hh, Bd.state]; rfl
  have N0 := Fr.nil n0
  show own_E p e below (own_K s (own_Qci Z a h0 n0) ({ frames := 1, cells := 0, slots := 0, locals := 12 } : Room).cells ({ frames := 1, cells := 0, slots := 0, locals := 12 } : Room).slots) s₁ (entryFrame m #[(.ref a)] 1)
  refine own_S (mkF m 0 #[rv a] []) (fun _ k => castTop (own_ef_ci m (a)) k) ?_
  refine own_S (mkF m 1 #[rv a] [(.ref a)]) (fun _ k => XS.aloadN X0.here hx rfl (hb hby d1_0) rfl rfl k) ?_
  obtain ⟨T1, X1, e1, st1⟩ := initO X0 hx hZ hown (own_g hw (i := 6) rfl) (own_g hw (i := 7) rfl) (own_g hw (i := 8) rfl) e0 (g := (mkF m 1 #[rv a] [(.ref a)])) rfl (by rw [hml]; rfl) rfl (hb hby d1_1) (by decide) (W := 0) (by show 2 * 0 + _ ≤ _; exact Nat.le_of_eq rfl) (by decide)
  refine own_S (mkF m 4 #[rv a] []) st1 ?_
  exact own_ret0 X1 hx hlk hret (hb hby d1_4) (by rw [e1]; exact ⟨rfl, N0, rfl⟩) (by decide) (by decide)
theorem d3_0 : decode prog_3_method_2_code 0 = .ok (.aload_n 0, 1) := by decide +kernel
theorem d3_1 : decode prog_3_method_2_code 1 = .ok (.dload_n 1, 1) := by decide +kernel
theorem d3_2 : decode prog_3_method_2_code 2 = .ok (.putfield 7, 3) := by decide +kernel
theorem d3_5 : decode prog_3_method_2_code 5 = .ok (.aload_n 0, 1) := by decide +kernel
theorem d3_6 : decode prog_3_method_2_code 6 = .ok (.dconst 0, 1) := by decide +kernel
theorem d3_7 : decode prog_3_method_2_code 7 = .ok (.putfield 13, 3) := by decide +kernel
theorem d3_10 : decode prog_3_method_2_code 10 = .ok (.aload_n 0, 1) := by decide +kernel
theorem d3_11 : decode prog_3_method_2_code 11 = .ok (.areturn, 1) := by decide +kernel
theorem own_pf_sa : plainFor own_y1 = true := by first | exact plainFor_of_name (show plainName "com/example/accrue/accrue/exact/CompensatedSum" = true by first | (simp [plainName, overriddenIn]; done) | decide +kernel) | decide +kernel
theorem own_ef_sa (m : MethodId) (y0 : Addr) (y1 : UInt64) : entryFrame m #[(.ref y0), (.double y1)] 3 = mkF m 0 #[rv y0, .val (.double y1), .second] [] := by first | (simp [entryFrame, mkF, argsToLocals, Value.category]; done) | rfl
def own_Qsa (Z : State) (a : Addr) (xx : UInt64) (u1 : Value) (u2 : Value) (h0 : Heap) (n0 : Nat) (v : Option Value) (h : Heap) (L : List Loc) : Prop := v = some (.ref a) ∧ Fr n0 L ∧ Keep h0 h [a] ∧ Exa Z h a "com/example/accrue/accrue/exact/CompensatedSum" ∧ Fld Z h a "com/example/accrue/accrue/exact/CompensatedSum" "sum" "D" (.double xx) ∧ Fld Z h a "com/example/accrue/accrue/exact/CompensatedSum" "error" "D" (.double (0 : UInt64))
set_option maxRecDepth 65536 in
set_option maxHeartbeats 40000000 in
theorem own_rmsa (l : Launch) (Z : State) (a0 : Array Value) (hw : ∀ d ∈ tables_1, d.before a0 Z = true) (ws : List Jvm.Cond) (a : Addr) (xx : UInt64) (u1 : Value) (u2 : Value) (h0 : Heap) (n0 : Nat) (Z0 : n0 ≤ h0.size) (P0 : Exa Z h0 a "com/example/accrue/accrue/exact/CompensatedSum") (P1 : Fld Z h0 a "com/example/accrue/accrue/exact/CompensatedSum" "sum" "D" u1) (P2 : Fld Z h0 a "com/example/accrue/accrue/exact/CompensatedSum" "error" "D" u2) (G_a : n0 ≤ a) :
    MetFree l own_y1 (head1 (Jvm.Cond.code own_y1 prog_3_method_2_code 3 (some (.object "com/example/accrue/accrue/exact/CompensatedSum")) :: ws) ({ frames := 0, cells := 0, slots := 0, locals := 0 } : Room)) (fun az Uz => az = #[(.ref a), (.double xx)] ∧ Z.Warmed39 Uz.vm ∧ Uz.heap = h0) (fun _ _ _ _ _ => True) (fun _ U o U' => ∃ v L, o = .returned v ∧ own_Qsa Z a xx u1 u2 h0 n0 v U'.heap L ∧ FrameEnd U o U' L ({ frames := 0, cells := 0, slots := 0, locals := 0 } : Room).cells ({ frames := 0, cells := 0, slots := 0, locals := 0 } : Room).slots) := by
  refine MetFree.of_bodySF own_pf_sa hisR ?_
  intro p e s m args below meth c s₁ Bd hml0 hP hK
  obtain ⟨rfl, hZ, hh⟩ := hP
  have hx := Bd.exec
  have hby := Bd.bytes
  have hml : c.maxLocals = 3 := hml0
  have hown : s.vm.findClass "com/example/accrue/accrue/exact/CompensatedSum" = some m.cls := findClass_of_methodNamed Bd.named
  have hnm := (name_of_methodNamed Bd.named Bd.method).1
  have hlk : meth.locks = false := BodyLoose.notSynchronized Bd
  have hret := Bd.returns
  have X0 : Stand p l e ({ frames := 0, cells := 0, slots := 0, locals := 0 } : Room) s m #[(.ref a), (.double xx)] below meth c s₁ [] 0 0 := Stand.of_body Bd
  have e0 : s₁.heap = h0 := by rw [← hh, Bd.state]; rfl
  have N0 := Fr.nil n0
  show own_E p e below (own_K s (own_Qsa Z a xx u1 u2 h0 n0) ({ frames := 0, cells := 0, slots := 0, locals := 0 } : Room).cells ({ frames := 0, cells := 0, slots := 0, locals := 0 } : Room).slots) s₁ (entryFrame m #[(.ref a), (.double xx)] 3)
  refine own_S (mkF m 0 #[rv a, .val (.double xx), .second] []) (fun _ k => castTop (own_ef_sa m (a) (xx)) k) ?_
  refine own_S (mkF m 1 #[rv a, .val (.double xx), .second] [(.ref a)]) (fun _ k => XS.aloadN X0.here hx rfl (hb hby d3_0) rfl rfl k) ?_
  refine own_S (mkF m 2 #[rv a, .val (.double xx), .second] [(.double xx), (.ref a)]) (fun _ k => XS.dloadN X0.here hx rfl (hb hby d3_1) rfl k) ?_
  obtain ⟨T1, h1, X1, e1, W1, st1⟩ := putF X0 hx hZ hown (host := "") (Or.inl (own_g hw (i := 14) rfl)) Via.refl e0 P1 P0 (Or.inl (own_g hw (i := 15) rfl)) (own_g hw (i := 1) rfl) (ty := .double) (by decide) rfl rfl (g := (mkF m 2 #[rv a, .val (.double xx), .second] [(.double xx), (.ref a)])) rfl rfl (hb hby d3_2)
  refine own_S (mkF m 5 #[rv a, .val (.double xx), .second] []) st1 ?_
  have F2 := P0.wr W1
  have F3 := P1.same W1
  have F4 := P2.other W1 (Or.inr (slot_ne (Or.inl (own_g hw (i := 17) rfl)) (Or.inl (own_g hw (i := 15) rfl)) (by decide) (t := .double) (t' := .double) (by decide) (by decide)))
  have N1 := Fr.snoc X1 N0 G_a
  have Z1 : n0 ≤ h1.size := by rw [Wr.size W1]; exact Z0
  have K1 : Keep h0 h1 [a] := (Keep.refl _ _).wr W1 (Or.inl (List.mem_of_getElem? (i := 0) rfl))
  refine own_S (mkF m 6 #[rv a, .val (.double xx), .second] [(.ref a)]) (fun _ k => XS.aloadN X1.here hx rfl (hb hby d3_5) rfl rfl k) ?_
  refine own_S (mkF m 7 #[rv a, .val (.double xx), .second] [(.double (0 : UInt64)), (.ref a)]) (fun _ k => XS.dconst0 X1.here hx rfl (hb hby d3_6) rfl k) ?_
  obtain ⟨T5, h5, X5, e5, W5, st5⟩ := putF X1 hx hZ hown (host := "") (Or.inl (own_g hw (i := 16) rfl)) Via.refl e1 F4 F2 (Or.inl (own_g hw (i := 17) rfl)) (own_g hw (i := 1) rfl) (ty := .double) (by decide) rfl rfl (g := (mkF m 7 #[rv a, .val (.double xx), .second] [(.double (0 : UInt64)), (.ref a)])) rfl rfl (hb hby d3_7)
  refine own_S (mkF m 10 #[rv a, .val (.double xx), .second] []) st5 ?_
  have F6 := F2.wr W5
  have F7 := F3.other W5 (Or.inr (slot_ne (Or.inl (own_g hw (i := 15) rfl)) (Or.inl (own_g hw (i := 17) rfl)) (by decide) (t := .double) (t' := .double) (by decide) (by decide)))
  have F8 := F4.same W5
  have N5 := Fr.snoc X5 N1 G_a
  have Z5 : n0 ≤ h5.size := by rw [Wr.size W5]; exact Z1
  have K5 : Keep h0 h5 [a] := K1.wr W5 (Or.inl (List.mem_of_getElem? (i := 0) rfl))
  refine own_S (mkF m 11 #[rv a, .val (.double xx), .second] [(.ref a)]) (fun _ k => XS.aloadN X5.here hx rfl (hb hby d3_10) rfl rfl k) ?_
  exact own_ret X5 hx hlk (t := (.object "com/example/accrue/accrue/exact/CompensatedSum")) hret rfl (Or.inr (Or.inr (Or.inr (Or.inr ⟨rfl, rfl, rfl⟩)))) (hb hby d3_11) (by rw [e5]; exact ⟨rfl, N5, K5, F6, F7, F8⟩) (by decide) (by decide)
theorem d4_0 : decode prog_3_method_3_code 0 = .ok (.aload_n 0, 1) := by decide +kernel
theorem d4_1 : decode prog_3_method_3_code 1 = .ok (.getfield 7, 3) := by decide +kernel
theorem d4_4 : decode prog_3_method_3_code 4 = .ok (.dload_n 1, 1) := by decide +kernel
theorem d4_5 : decode prog_3_method_3_code 5 = .ok (.dadd, 1) := by decide +kernel
theorem d4_6 : decode prog_3_method_3_code 6 = .ok (.dstore_n 3, 1) := by decide +kernel
theorem d4_7 : decode prog_3_method_3_code 7 = .ok (.dload_n 3, 1) := by decide +kernel
theorem d4_8 : decode prog_3_method_3_code 8 = .ok (.aload_n 0, 1) := by decide +kernel
theorem d4_9 : decode prog_3_method_3_code 9 = .ok (.getfield 7, 3) := by decide +kernel
theorem d4_12 : decode prog_3_method_3_code 12 = .ok (.dsub, 1) := by decide +kernel
theorem d4_13 : decode prog_3_method_3_code 13 = .ok (.dstore 5, 2) := by decide +kernel
theorem d4_15 : decode prog_3_method_3_code 15 = .ok (.aload_n 0, 1) := by decide +kernel
theorem d4_16 : decode prog_3_method_3_code 16 = .ok (.dup, 1) := by decide +kernel
theorem d4_17 : decode prog_3_method_3_code 17 = .ok (.getfield 13, 3) := by decide +kernel
theorem d4_20 : decode prog_3_method_3_code 20 = .ok (.aload_n 0, 1) := by decide +kernel
theorem d4_21 : decode prog_3_method_3_code 21 = .ok (.getfield 7, 3) := by decide +kernel
theorem d4_24 : decode prog_3_method_3_code 24 = .ok (.dload_n 3, 1) := by decide +kernel
theorem d4_25 : decode prog_3_method_3_code 25 = .ok (.dload 5, 2) := by decide +kernel
theorem d4_27 : decode prog_3_method_3_code 27 = .ok (.dsub, 1) := by decide +kernel
theorem d4_28 : decode prog_3_method_3_code 28 = .ok (.dsub, 1) := by decide +kernel
theorem d4_29 : decode prog_3_method_3_code 29 = .ok (.dload_n 1, 1) := by decide +kernel
theorem d4_30 : decode prog_3_method_3_code 30 = .ok (.dload 5, 2) := by decide +kernel
theorem d4_32 : decode prog_3_method_3_code 32 = .ok (.dsub, 1) := by decide +kernel
theorem d4_33 : decode prog_3_method_3_code 33 = .ok (.dadd, 1) := by decide +kernel
theorem d4_34 : decode prog_3_method_3_code 34 = .ok (.dadd, 1) := by decide +kernel
theorem d4_35 : decode prog_3_method_3_code 35 = .ok (.putfield 13, 3) := by decide +kernel
theorem d4_38 : decode prog_3_method_3_code 38 = .ok (.aload_n 0, 1) := by decide +kernel
theorem d4_39 : decode prog_3_method_3_code 39 = .ok (.dload_n 3, 1) := by decide +kernel
theorem d4_40 : decode prog_3_method_3_code 40 = .ok (.putfield 7, 3) := by decide +kernel
theorem d4_43 : decode prog_3_method_3_code 43 = .ok (.aload_n 0, 1) := by decide +kernel
theorem d4_44 : decode prog_3_method_3_code 44 = .ok (.areturn, 1) := by decide +kernel
theorem own_pf_ad : plainFor own_y2 = true := by first | exact plainFor_of_name (show plainName "com/example/accrue/accrue/exact/CompensatedSum" = true by first | (simp [plainName, overriddenIn]; done) | decide +kernel) | decide +kernel
theorem own_ef_ad (m : MethodId) (y0 : Addr) (y1 : UInt64) : entryFrame m #[(.ref y0), (.double y1)] 7 = mkF m 0 #[rv y0, .val (.double y1), .second, .unset, .unset, .unset, .unset] [] := by first | (simp [entryFrame, mkF, argsToLocals, Value.category]; done) | rfl
def own_Qad (Z : State) (a : Addr) (xx : UInt64) (xs : UInt64) (xe : UInt64) (h0 : Heap) (n0 : Nat) (v : Option Value) (h : Heap) (L : List Loc) : Prop := v = some (.ref a) ∧ Fr n0 L ∧ Keep h0 h [a] ∧ Exa Z h a "com/example/accrue/accrue/exact/CompensatedSum" ∧ Fld Z h a "com/example/accrue/accrue/exact/CompensatedSum" "sum" "D" (.double (FP.dadd xs xx)) ∧ Fld Z h a "com/example/accrue/accrue/exact/CompensatedSum" "error" "D" (.double (FP.dadd xe (FP.dadd (FP.dsub xs (FP.dsub (FP.dadd xs xx) (FP.dsub (FP.dadd xs xx) xs))) (FP.dsub xx (FP.dsub (FP.dadd xs xx) xs)))))
set_option maxRecDepth 65536 in
set_option maxHeartbeats 40000000 in
theorem own_rmad (l : Launch) (Z : State) (a0 : Array Value) (hw : ∀ d ∈ tables_1, d.before a0 Z = true) (ws : List Jvm.Cond) (a : Addr) (xx : UInt64) (xs : UInt64) (xe : UInt64) (h0 : Heap) (n0 : Nat) (Z0 : n0 ≤ h0.size) (P0 : Exa Z h0 a "com/example/accrue/accrue/exact/CompensatedSum") (P1 : Fld Z h0 a "com/example/accrue/accrue/exact/CompensatedSum" "sum" "D" (.double xs)) (P2 : Fld Z h0 a "com/example/accrue/accrue/exact/CompensatedSum" "error" "D" (.double xe)) (G_a : n0 ≤ a) (hn0 : NoNaN64 (FP.dadd xs xx)) (hn1 : NoNaN64 (FP.dsub (FP.dadd xs xx) xs)) (hn2 : NoNaN64 (FP.dsub (FP.dadd xs xx) (FP.dsub (FP.dadd xs xx) xs))) (hn3 : NoNaN64 (FP.dsub xs (FP.dsub (FP.dadd xs xx) (FP.dsub (FP.dadd xs xx) xs)))) (hn4 : NoNaN64 (FP.dsub xx (FP.dsub (FP.dadd xs xx) xs))) (hn5 : NoNaN64 (FP.dadd (FP.dsub xs (FP.dsub (FP.dadd xs xx) (FP.dsub (FP.dadd xs xx) xs))) (FP.dsub xx (FP.dsub (FP.dadd xs xx) xs)))) (hn6 : NoNaN64 (FP.dadd xe (FP.dadd (FP.dsub xs (FP.dsub (FP.dadd xs xx) (FP.dsub (FP.dadd xs xx) xs))) (FP.dsub xx (FP.dsub (FP.dadd xs xx) xs))))) :
    MetFree l own_y2 (head1 (Jvm.Cond.code own_y2 prog_3_method_3_code 7 (some (.object "com/example/accrue/accrue/exact/CompensatedSum")) :: ws) ({ frames := 0, cells := 0, slots := 0, locals := 0 } : Room)) (fun az Uz => az = #[(.ref a), (.double xx)] ∧ Z.Warmed39 Uz.vm ∧ Uz.heap = h0) (fun _ _ _ _ _ => True) (fun _ U o U' => ∃ v L, o = .returned v ∧ own_Qad Z a xx xs xe h0 n0 v U'.heap L ∧ FrameEnd U o U' L ({ frames := 0, cells := 0, slots := 0, locals := 0 } : Room).cells ({ frames := 0, cells := 0, slots := 0, locals := 0 } : Room).slots) := by
  refine MetFree.of_bodySF own_pf_ad hisR ?_
  intro p e s m args below meth c s₁ Bd hml0 hP hK
  obtain ⟨rfl, hZ, hh⟩ := hP
  have hx := Bd.exec
  have hby := Bd.bytes
  have hml : c.maxLocals = 7 := hml0
  have hown : s.vm.findClass "com/example/accrue/accrue/exact/CompensatedSum" = some m.cls := findClass_of_methodNamed Bd.named
  have hnm := (name_of_methodNamed Bd.named Bd.method).1
  have hlk : meth.locks = false := BodyLoose.notSynchronized Bd
  have hret := Bd.returns
  have X0 : Stand p l e ({ frames := 0, cells := 0, slots := 0, locals := 0 } : Room) s m #[(.ref a), (.double xx)] below meth c s₁ [] 0 0 := Stand.of_body Bd
  have e0 : s₁.heap = h0 := by rw [← hh, Bd.state]; rfl
  have N0 := Fr.nil n0
  show own_E p e below (own_K s (own_Qad Z a xx xs xe h0 n0) ({ frames := 0, cells := 0, slots := 0, locals := 0 } : Room).cells ({ frames := 0, cells := 0, slots := 0, locals := 0 } : Room).slots) s₁ (entryFrame m #[(.ref a), (.double xx)] 7)
  refine own_S (mkF m 0 #[rv a, .val (.double xx), .second, .unset, .unset, .unset, .unset] []) (fun _ k => castTop (own_ef_ad m (a) (xx)) k) ?_
  refine own_S (mkF m 1 #[rv a, .val (.double xx), .second, .unset, .unset, .unset, .unset] [(.ref a)]) (fun _ k => XS.aloadN X0.here hx rfl (hb hby d4_0) rfl rfl k) ?_
  obtain ⟨T1, X1, e1, st1⟩ := getF X0 hx hZ hown (host := "") (Or.inl (own_g hw (i := 14) rfl)) Via.refl e0 P1 (g := (mkF m 1 #[rv a, .val (.double xx), .second, .unset, .unset, .unset, .unset] [(.ref a)])) rfl rfl (hb hby d4_1)
  refine own_S (mkF m 4 #[rv a, .val (.double xx), .second, .unset, .unset, .unset, .unset] [(.double xs)]) st1 ?_
  refine own_S (mkF m 5 #[rv a, .val (.double xx), .second, .unset, .unset, .unset, .unset] [(.double xx), (.double xs)]) (fun _ k => XS.dloadN X1.here hx rfl (hb hby d4_4) rfl k) ?_
  refine own_S (mkF m 6 #[rv a, .val (.double xx), .second, .unset, .unset, .unset, .unset] [(.double (FP.dadd xs xx))]) (fun _ k => XS.daddS X1.here hx rfl (hb hby d4_5) rfl hn0 rfl k) ?_
  refine own_S (mkF m 7 #[rv a, .val (.double xx), .second, .val (.double (FP.dadd xs xx)), .second, .unset, .unset] []) (fun _ k => XS.dstoreN X1.here hx rfl (hb hby d4_6) rfl (l' := #[rv a, .val (.double xx), .second, .val (.double (FP.dadd xs xx)), .second, .unset, .unset]) rfl k) ?_
  refine own_S (mkF m 8 #[rv a, .val (.double xx), .second, .val (.double (FP.dadd xs xx)), .second, .unset, .unset] [(.double (FP.dadd xs xx))]) (fun _ k => XS.dloadN X1.here hx rfl (hb hby d4_7) rfl k) ?_
  refine own_S (mkF m 9 #[rv a, .val (.double xx), .second, .val (.double (FP.dadd xs xx)), .second, .unset, .unset] [(.ref a), (.double (FP.dadd xs xx))]) (fun _ k => XS.aloadN X1.here hx rfl (hb hby d4_8) rfl rfl k) ?_
  obtain ⟨T2, X2, e2, st2⟩ := getF X1 hx hZ hown (host := "") (Or.inl (own_g hw (i := 14) rfl)) Via.refl e1 P1 (g := (mkF m 9 #[rv a, .val (.double xx), .second, .val (.double (FP.dadd xs xx)), .second, .unset, .unset] [(.ref a), (.double (FP.dadd xs xx))])) rfl rfl (hb hby d4_9)
  refine own_S (mkF m 12 #[rv a, .val (.double xx), .second, .val (.double (FP.dadd xs xx)), .second, .unset, .unset] [(.double xs), (.double (FP.dadd xs xx))]) st2 ?_
  refine own_S (mkF m 13 #[rv a, .val (.double xx), .second, .val (.double (FP.dadd xs xx)), .second, .unset, .unset] [(.double (FP.dsub (FP.dadd xs xx) xs))]) (fun _ k => XS.dsubS X2.here hx rfl (hb hby d4_12) rfl hn1 rfl k) ?_
  refine own_S (mkF m 15 #[rv a, .val (.double xx), .second, .val (.double (FP.dadd xs xx)), .second, .val (.double (FP.dsub (FP.dadd xs xx) xs)), .second] []) (fun _ k => XS.dstore X2.here hx rfl (hb hby d4_13) rfl (l' := #[rv a, .val (.double xx), .second, .val (.double (FP.dadd xs xx)), .second, .val (.double (FP.dsub (FP.dadd xs xx) xs)), .second]) rfl k) ?_
  refine own_S (mkF m 16 #[rv a, .val (.double xx), .second, .val (.double (FP.dadd xs xx)), .second, .val (.double (FP.dsub (FP.dadd xs xx) xs)), .second] [(.ref a)]) (fun _ k => XS.aloadN X2.here hx rfl (hb hby d4_15) rfl rfl k) ?_
  refine own_S (mkF m 17 #[rv a, .val (.double xx), .second, .val (.double (FP.dadd xs xx)), .second, .val (.double (FP.dsub (FP.dadd xs xx) xs)), .second] [(.ref a), (.ref a)]) (fun _ k => XS.dup X2.here hx rfl (hb hby d4_16) rfl rfl k) ?_
  obtain ⟨T3, X3, e3, st3⟩ := getF X2 hx hZ hown (host := "") (Or.inl (own_g hw (i := 16) rfl)) Via.refl e2 P2 (g := (mkF m 17 #[rv a, .val (.double xx), .second, .val (.double (FP.dadd xs xx)), .second, .val (.double (FP.dsub (FP.dadd xs xx) xs)), .second] [(.ref a), (.ref a)])) rfl rfl (hb hby d4_17)
  refine own_S (mkF m 20 #[rv a, .val (.double xx), .second, .val (.double (FP.dadd xs xx)), .second, .val (.double (FP.dsub (FP.dadd xs xx) xs)), .second] [(.double xe), (.ref a)]) st3 ?_
  refine own_S (mkF m 21 #[rv a, .val (.double xx), .second, .val (.double (FP.dadd xs xx)), .second, .val (.double (FP.dsub (FP.dadd xs xx) xs)), .second] [(.ref a), (.double xe), (.ref a)]) (fun _ k => XS.aloadN X3.here hx rfl (hb hby d4_20) rfl rfl k) ?_
  obtain ⟨T4, X4, e4, st4⟩ := getF X3 hx hZ hown (host := "") (Or.inl (own_g hw (i := 14) rfl)) Via.refl e3 P1 (g := (mkF m 21 #[rv a, .val (.double xx), .second, .val (.double (FP.dadd xs xx)), .second, .val (.double (FP.dsub (FP.dadd xs xx) xs)), .second] [(.ref a), (.double xe), (.ref a)])) rfl rfl (hb hby d4_21)
  refine own_S (mkF m 24 #[rv a, .val (.double xx), .second, .val (.double (FP.dadd xs xx)), .second, .val (.double (FP.dsub (FP.dadd xs xx) xs)), .second] [(.double xs), (.double xe), (.ref a)]) st4 ?_
  refine own_S (mkF m 25 #[rv a, .val (.double xx), .second, .val (.double (FP.dadd xs xx)), .second, .val (.double (FP.dsub (FP.dadd xs xx) xs)), .second] [(.double (FP.dadd xs xx)), (.double xs), (.double xe), (.ref a)]) (fun _ k => XS.dloadN X4.here hx rfl (hb hby d4_24) rfl k) ?_
  refine own_S (mkF m 27 #[rv a, .val (.double xx), .second, .val (.double (FP.dadd xs xx)), .second, .val (.double (FP.dsub (FP.dadd xs xx) xs)), .second] [(.double (FP.dsub (FP.dadd xs xx) xs)), (.double (FP.dadd xs xx)), (.double xs), (.double xe), (.ref a)]) (fun _ k => XS.dload X4.here hx rfl (hb hby d4_25) rfl k) ?_
  refine own_S (mkF m 28 #[rv a, .val (.double xx), .second, .val (.double (FP.dadd xs xx)), .second, .val (.double (FP.dsub (FP.dadd xs xx) xs)), .second] [(.double (FP.dsub (FP.dadd xs xx) (FP.dsub (FP.dadd xs xx) xs))), (.double xs), (.double xe), (.ref a)]) (fun _ k => XS.dsubS X4.here hx rfl (hb hby d4_27) rfl hn2 rfl k) ?_
  refine own_S (mkF m 29 #[rv a, .val (.double xx), .second, .val (.double (FP.dadd xs xx)), .second, .val (.double (FP.dsub (FP.dadd xs xx) xs)), .second] [(.double (FP.dsub xs (FP.dsub (FP.dadd xs xx) (FP.dsub (FP.dadd xs xx) xs)))), (.double xe), (.ref a)]) (fun _ k => XS.dsubS X4.here hx rfl (hb hby d4_28) rfl hn3 rfl k) ?_
  refine own_S (mkF m 30 #[rv a, .val (.double xx), .second, .val (.double (FP.dadd xs xx)), .second, .val (.double (FP.dsub (FP.dadd xs xx) xs)), .second] [(.double xx), (.double (FP.dsub xs (FP.dsub (FP.dadd xs xx) (FP.dsub (FP.dadd xs xx) xs)))), (.double xe), (.ref a)]) (fun _ k => XS.dloadN X4.here hx rfl (hb hby d4_29) rfl k) ?_
  refine own_S (mkF m 32 #[rv a, .val (.double xx), .second, .val (.double (FP.dadd xs xx)), .second, .val (.double (FP.dsub (FP.dadd xs xx) xs)), .second] [(.double (FP.dsub (FP.dadd xs xx) xs)), (.double xx), (.double (FP.dsub xs (FP.dsub (FP.dadd xs xx) (FP.dsub (FP.dadd xs xx) xs)))), (.double xe), (.ref a)]) (fun _ k => XS.dload X4.here hx rfl (hb hby d4_30) rfl k) ?_
  refine own_S (mkF m 33 #[rv a, .val (.double xx), .second, .val (.double (FP.dadd xs xx)), .second, .val (.double (FP.dsub (FP.dadd xs xx) xs)), .second] [(.double (FP.dsub xx (FP.dsub (FP.dadd xs xx) xs))), (.double (FP.dsub xs (FP.dsub (FP.dadd xs xx) (FP.dsub (FP.dadd xs xx) xs)))), (.double xe), (.ref a)]) (fun _ k => XS.dsubS X4.here hx rfl (hb hby d4_32) rfl hn4 rfl k) ?_
  refine own_S (mkF m 34 #[rv a, .val (.double xx), .second, .val (.double (FP.dadd xs xx)), .second, .val (.double (FP.dsub (FP.dadd xs xx) xs)), .second] [(.double (FP.dadd (FP.dsub xs (FP.dsub (FP.dadd xs xx) (FP.dsub (FP.dadd xs xx) xs))) (FP.dsub xx (FP.dsub (FP.dadd xs xx) xs)))), (.double xe), (.ref a)]) (fun _ k => XS.daddS X4.here hx rfl (hb hby d4_33) rfl hn5 rfl k) ?_
  refine own_S (mkF m 35 #[rv a, .val (.double xx), .second, .val (.double (FP.dadd xs xx)), .second, .val (.double (FP.dsub (FP.dadd xs xx) xs)), .second] [(.double (FP.dadd xe (FP.dadd (FP.dsub xs (FP.dsub (FP.dadd xs xx) (FP.dsub (FP.dadd xs xx) xs))) (FP.dsub xx (FP.dsub (FP.dadd xs xx) xs))))), (.ref a)]) (fun _ k => XS.daddS X4.here hx rfl (hb hby d4_34) rfl hn6 rfl k) ?_
  obtain ⟨T5, h5, X5, e5, W5, st5⟩ := putF X4 hx hZ hown (host := "") (Or.inl (own_g hw (i := 16) rfl)) Via.refl e4 P2 P0 (Or.inl (own_g hw (i := 17) rfl)) (own_g hw (i := 1) rfl) (ty := .double) (by decide) rfl rfl (g := (mkF m 35 #[rv a, .val (.double xx), .second, .val (.double (FP.dadd xs xx)), .second, .val (.double (FP.dsub (FP.dadd xs xx) xs)), .second] [(.double (FP.dadd xe (FP.dadd (FP.dsub xs (FP.dsub (FP.dadd xs xx) (FP.dsub (FP.dadd xs xx) xs))) (FP.dsub xx (FP.dsub (FP.dadd xs xx) xs))))), (.ref a)])) rfl rfl (hb hby d4_35)
  refine own_S (mkF m 38 #[rv a, .val (.double xx), .second, .val (.double (FP.dadd xs xx)), .second, .val (.double (FP.dsub (FP.dadd xs xx) xs)), .second] []) st5 ?_
  have F6 := P0.wr W5
  have F7 := P1.other W5 (Or.inr (slot_ne (Or.inl (own_g hw (i := 15) rfl)) (Or.inl (own_g hw (i := 17) rfl)) (by decide) (t := .double) (t' := .double) (by decide) (by decide)))
  have F8 := P2.same W5
  have N5 := Fr.snoc X5 N0 G_a
  have Z5 : n0 ≤ h5.size := by rw [Wr.size W5]; exact Z0
  have K5 : Keep h0 h5 [a] := (Keep.refl _ _).wr W5 (Or.inl (List.mem_of_getElem? (i := 0) rfl))
  refine own_S (mkF m 39 #[rv a, .val (.double xx), .second, .val (.double (FP.dadd xs xx)), .second, .val (.double (FP.dsub (FP.dadd xs xx) xs)), .second] [(.ref a)]) (fun _ k => XS.aloadN X5.here hx rfl (hb hby d4_38) rfl rfl k) ?_
  refine own_S (mkF m 40 #[rv a, .val (.double xx), .second, .val (.double (FP.dadd xs xx)), .second, .val (.double (FP.dsub (FP.dadd xs xx) xs)), .second] [(.double (FP.dadd xs xx)), (.ref a)]) (fun _ k => XS.dloadN X5.here hx rfl (hb hby d4_39) rfl k) ?_
  obtain ⟨T9, h9, X9, e9, W9, st9⟩ := putF X5 hx hZ hown (host := "") (Or.inl (own_g hw (i := 14) rfl)) Via.refl e5 F7 F6 (Or.inl (own_g hw (i := 15) rfl)) (own_g hw (i := 1) rfl) (ty := .double) (by decide) rfl rfl (g := (mkF m 40 #[rv a, .val (.double xx), .second, .val (.double (FP.dadd xs xx)), .second, .val (.double (FP.dsub (FP.dadd xs xx) xs)), .second] [(.double (FP.dadd xs xx)), (.ref a)])) rfl rfl (hb hby d4_40)
  refine own_S (mkF m 43 #[rv a, .val (.double xx), .second, .val (.double (FP.dadd xs xx)), .second, .val (.double (FP.dsub (FP.dadd xs xx) xs)), .second] []) st9 ?_
  have F10 := F6.wr W9
  have F11 := F7.same W9
  have F12 := F8.other W9 (Or.inr (slot_ne (Or.inl (own_g hw (i := 17) rfl)) (Or.inl (own_g hw (i := 15) rfl)) (by decide) (t := .double) (t' := .double) (by decide) (by decide)))
  have N9 := Fr.snoc X9 N5 G_a
  have Z9 : n0 ≤ h9.size := by rw [Wr.size W9]; exact Z5
  have K9 : Keep h0 h9 [a] := K5.wr W9 (Or.inl (List.mem_of_getElem? (i := 0) rfl))
  refine own_S (mkF m 44 #[rv a, .val (.double xx), .second, .val (.double (FP.dadd xs xx)), .second, .val (.double (FP.dsub (FP.dadd xs xx) xs)), .second] [(.ref a)]) (fun _ k => XS.aloadN X9.here hx rfl (hb hby d4_43) rfl rfl k) ?_
  exact own_ret X9 hx hlk (t := (.object "com/example/accrue/accrue/exact/CompensatedSum")) hret rfl (Or.inr (Or.inr (Or.inr (Or.inr ⟨rfl, rfl, rfl⟩)))) (hb hby d4_44) (by rw [e9]; exact ⟨rfl, N9, K9, F10, F11, F12⟩) (by decide) (by decide)
theorem d6_0 : decode jdk_117_method_6_code 0 = .ok (.dload_n 0, 1) := by decide +kernel
theorem d6_1 : decode jdk_117_method_6_code 1 = .ok (.dload_n 0, 1) := by decide +kernel
theorem d6_2 : decode jdk_117_method_6_code 2 = .ok (.dcmp .l, 1) := by decide +kernel
theorem d6_3 : decode jdk_117_method_6_code 3 = .ok (.ifCond .eq 7, 3) := by decide +kernel
theorem d6_10 : decode jdk_117_method_6_code 10 = .ok (.iconst 0, 1) := by decide +kernel
theorem d6_11 : decode jdk_117_method_6_code 11 = .ok (.ireturn, 1) := by decide +kernel
theorem own_pf_na : plainFor own_y3 = true := by first | exact plainFor_of_name (show plainName "java/lang/Double" = true by first | (simp [plainName, overriddenIn]; done) | decide +kernel) | decide +kernel
theorem own_ef_na (m : MethodId) (y0 : UInt64) : entryFrame m #[(.double y0)] 2 = mkF m 0 #[.val (.double y0), .second] [] := by first | (simp [entryFrame, mkF, argsToLocals, Value.category]; done) | rfl
def own_Qna (Z : State) (xx : UInt64) (h0 : Heap) (n0 : Nat) (v : Option Value) (h : Heap) (L : List Loc) : Prop := v = some (.int (0 : Int32)) ∧ Fr n0 L ∧ h = h0
set_option maxRecDepth 65536 in
set_option maxHeartbeats 40000000 in
theorem own_rmna (l : Launch) (Z : State) (a0 : Array Value) (hw : ∀ d ∈ tables_1, d.before a0 Z = true) (ws : List Jvm.Cond) (xx : UInt64) (h0 : Heap) (n0 : Nat) (Z0 : n0 ≤ h0.size) (hn : NoNaN64 xx) :
    MetFree l own_y3 (head1 (Jvm.Cond.code own_y3 jdk_117_method_6_code 2 (some .boolean) :: ws) ({ frames := 0, cells := 0, slots := 0, locals := 0 } : Room)) (fun az Uz => az = #[(.double xx)] ∧ Z.Warmed39 Uz.vm ∧ Uz.heap = h0) (fun _ _ _ _ _ => True) (fun _ U o U' => ∃ v L, o = .returned v ∧ own_Qna Z xx h0 n0 v U'.heap L ∧ FrameEnd U o U' L ({ frames := 0, cells := 0, slots := 0, locals := 0 } : Room).cells ({ frames := 0, cells := 0, slots := 0, locals := 0 } : Room).slots) := by
  refine MetFree.of_bodySF own_pf_na hisR ?_
  intro p e s m args below meth c s₁ Bd hml0 hP hK
  obtain ⟨rfl, hZ, hh⟩ := hP
  have hx := Bd.exec
  have hby := Bd.bytes
  have hml : c.maxLocals = 2 := hml0
  have hown : s.vm.findClass "java/lang/Double" = some m.cls := findClass_of_methodNamed Bd.named
  have hnm := (name_of_methodNamed Bd.named Bd.method).1
  have hlk : meth.locks = false := BodyLoose.notSynchronized Bd
  have hret := Bd.returns
  have X0 : Stand p l e ({ frames := 0, cells := 0, slots := 0, locals := 0 } : Room) s m #[(.double xx)] below meth c s₁ [] 0 0 := Stand.of_body Bd
  have e0 : s₁.heap = h0 := by rw [← hh, Bd.state]; rfl
  have N0 := Fr.nil n0
  show own_E p e below (own_K s (own_Qna Z xx h0 n0) ({ frames := 0, cells := 0, slots := 0, locals := 0 } : Room).cells ({ frames := 0, cells := 0, slots := 0, locals := 0 } : Room).slots) s₁ (entryFrame m #[(.double xx)] 2)
  refine own_S (mkF m 0 #[.val (.double xx), .second] []) (fun _ k => castTop (own_ef_na m (xx)) k) ?_
  refine own_S (mkF m 1 #[.val (.double xx), .second] [(.double xx)]) (fun _ k => XS.dloadN X0.here hx rfl (hb hby d6_0) rfl k) ?_
  refine own_S (mkF m 2 #[.val (.double xx), .second] [(.double xx), (.double xx)]) (fun _ k => XS.dloadN X0.here hx rfl (hb hby d6_1) rfl k) ?_
  refine own_S (mkF m 3 #[.val (.double xx), .second] [(.int 0)]) (fun _ k => XS.dcmpS X0.here hx rfl (hb hby d6_2) rfl (dcmpV_self hn _) k) ?_
  have hc1 : (0 : Int32) = (0 : Int32) := by decide
  refine own_S (mkF m 10 #[.val (.double xx), .second] []) (fun _ k => XS.ifYes X0.here hx rfl (pc0 := 3) (pc' := 10) rfl (hb hby d6_3) rfl ((if0 _ _).trans (teq hc1).1) (by decide) (by decide) k) ?_
  refine own_S (mkF m 11 #[.val (.double xx), .second] [(.int 0)]) (fun _ k => XS.iconst X0.here hx rfl (hb hby d6_10) k) ?_
  exact own_retN X0 hx hlk (t := .boolean) hret (by simp) (hb hby d6_11) (by rw [e0]; exact ⟨rfl, N0, rfl⟩) (by decide) (by decide)
theorem d5_0 : decode prog_3_method_5_code 0 = .ok (.aload_n 0, 1) := by decide +kernel
theorem d5_1 : decode prog_3_method_5_code 1 = .ok (.getfield 7, 3) := by decide +kernel
theorem d5_4 : decode prog_3_method_5_code 4 = .ok (.aload_n 0, 1) := by decide +kernel
theorem d5_5 : decode prog_3_method_5_code 5 = .ok (.getfield 13, 3) := by decide +kernel
theorem d5_8 : decode prog_3_method_5_code 8 = .ok (.dadd, 1) := by decide +kernel
theorem d5_9 : decode prog_3_method_5_code 9 = .ok (.dstore_n 1, 1) := by decide +kernel
theorem d5_10 : decode prog_3_method_5_code 10 = .ok (.dload_n 1, 1) := by decide +kernel
theorem d5_11 : decode prog_3_method_5_code 11 = .ok (.invokestatic 26, 3) := by decide +kernel
theorem d5_14 : decode prog_3_method_5_code 14 = .ok (.ifCond .eq 10, 3) := by decide +kernel
theorem d5_24 : decode prog_3_method_5_code 24 = .ok (.dload_n 1, 1) := by decide +kernel
theorem d5_25 : decode prog_3_method_5_code 25 = .ok (.dreturn, 1) := by decide +kernel
theorem own_pd__D_Z : parseMethodDescriptor "(D)Z" = some ⟨[.double], (some .boolean)⟩ := by decide +kernel
theorem own_pf_va : plainFor own_y4 = true := by first | exact plainFor_of_name (show plainName "com/example/accrue/accrue/exact/CompensatedSum" = true by first | (simp [plainName, overriddenIn]; done) | decide +kernel) | decide +kernel
theorem own_ef_va (m : MethodId) (y0 : Addr) : entryFrame m #[(.ref y0)] 3 = mkF m 0 #[rv y0, .unset, .unset] [] := by first | (simp [entryFrame, mkF, argsToLocals, Value.category]; done) | rfl
def own_Qva (Z : State) (a : Addr) (xs : UInt64) (xe : UInt64) (h0 : Heap) (n0 : Nat) (v : Option Value) (h : Heap) (L : List Loc) : Prop := v = some (.double (FP.dadd xs xe)) ∧ Fr n0 L ∧ h = h0
set_option maxRecDepth 65536 in
set_option maxHeartbeats 40000000 in
theorem own_rmva (l : Launch) (Z : State) (a0 : Array Value) (hw : ∀ d ∈ tables_1, d.before a0 Z = true) (ws : List Jvm.Cond) (a : Addr) (xs : UInt64) (xe : UInt64) (h0 : Heap) (n0 : Nat) (Z0 : n0 ≤ h0.size) (P0 : Exa Z h0 a "com/example/accrue/accrue/exact/CompensatedSum") (P1 : Fld Z h0 a "com/example/accrue/accrue/exact/CompensatedSum" "sum" "D" (.double xs)) (P2 : Fld Z h0 a "com/example/accrue/accrue/exact/CompensatedSum" "error" "D" (.double xe)) (hn : NoNaN64 (FP.dadd xs xe)) :
    MetFree l own_y4 (head1 (Jvm.Cond.code own_y4 prog_3_method_5_code 3 (some .double) :: ws) ({ frames := 1, cells := 0, slots := 0, locals := 13 } : Room)) (fun az Uz => az = #[(.ref a)] ∧ Z.Warmed39 Uz.vm ∧ Uz.heap = h0) (fun _ _ _ _ _ => True) (fun _ U o U' => ∃ v L, o = .returned v ∧ own_Qva Z a xs xe h0 n0 v U'.heap L ∧ FrameEnd U o U' L ({ frames := 1, cells := 0, slots := 0, locals := 13 } : Room).cells ({ frames := 1, cells := 0, slots := 0, locals := 13 } : Room).slots) := by
  refine MetFree.of_bodySF own_pf_va hisR ?_
  intro p e s m args below meth c s₁ Bd hml0 hP hK
  obtain ⟨rfl, hZ, hh⟩ := hP
  have hx := Bd.exec
  have hby := Bd.bytes
  have hml : c.maxLocals = 3 := hml0
  have hown : s.vm.findClass "com/example/accrue/accrue/exact/CompensatedSum" = some m.cls := findClass_of_methodNamed Bd.named
  have hnm := (name_of_methodNamed Bd.named Bd.method).1
  have hlk : meth.locks = false := BodyLoose.notSynchronized Bd
  have hret := Bd.returns
  have X0 : Stand p l e ({ frames := 1, cells := 0, slots := 0, locals := 13 } : Room) s m #[(.ref a)] below meth c s₁ [] 0 0 := Stand.of_body Bd
  have e0 : s₁.heap = h0 := by rw [← hh, Bd.state]; rfl
  have N0 := Fr.nil n0
  show own_E p e below (own_K s (own_Qva Z a xs xe h0 n0) ({ frames := 1, cells := 0, slots := 0, locals := 13 } : Room).cells ({ frames := 1, cells := 0, slots := 0, locals := 13 } : Room).slots) s₁ (entryFrame m #[(.ref a)] 3)
  refine own_S (mkF m 0 #[rv a, .unset, .unset] []) (fun _ k => castTop (own_ef_va m (a)) k) ?_
  refine own_S (mkF m 1 #[rv a, .unset, .unset] [(.ref a)]) (fun _ k => XS.aloadN X0.here hx rfl (hb hby d5_0) rfl rfl k) ?_
  obtain ⟨T1, X1, e1, st1⟩ := getF X0 hx hZ hown (host := "") (Or.inl (own_g hw (i := 14) rfl)) Via.refl e0 P1 (g := (mkF m 1 #[rv a, .unset, .unset] [(.ref a)])) rfl rfl (hb hby d5_1)
  refine own_S (mkF m 4 #[rv a, .unset, .unset] [(.double xs)]) st1 ?_
  refine own_S (mkF m 5 #[rv a, .unset, .unset] [(.ref a), (.double xs)]) (fun _ k => XS.aloadN X1.here hx rfl (hb hby d5_4) rfl rfl k) ?_
  obtain ⟨T2, X2, e2, st2⟩ := getF X1 hx hZ hown (host := "") (Or.inl (own_g hw (i := 16) rfl)) Via.refl e1 P2 (g := (mkF m 5 #[rv a, .unset, .unset] [(.ref a), (.double xs)])) rfl rfl (hb hby d5_5)
  refine own_S (mkF m 8 #[rv a, .unset, .unset] [(.double xe), (.double xs)]) st2 ?_
  refine own_S (mkF m 9 #[rv a, .unset, .unset] [(.double (FP.dadd xs xe))]) (fun _ k => XS.daddS X2.here hx rfl (hb hby d5_8) rfl hn rfl k) ?_
  refine own_S (mkF m 10 #[rv a, .val (.double (FP.dadd xs xe)), .second] []) (fun _ k => XS.dstoreN X2.here hx rfl (hb hby d5_9) rfl (l' := #[rv a, .val (.double (FP.dadd xs xe)), .second]) rfl k) ?_
  refine own_S (mkF m 11 #[rv a, .val (.double (FP.dadd xs xe)), .second] [(.double (FP.dadd xs xe))]) (fun _ k => XS.dloadN X2.here hx rfl (hb hby d5_10) rfl k) ?_
  obtain ⟨_, _, ⟨T3, L3, k3, n3⟩, -, X3, ⟨Lc3, hQ3, l3, y3, z3⟩, st3⟩ := Jvm.LawKit.callS X2 hx (y := own_y3) hown (mvT hZ (own_g hw (i := 28) rfl)) (mvT hZ (own_g hw (i := 29) rfl)) (mvT hZ (own_g hw (i := 30) rfl)) (mvT hZ (own_g hw (i := 31) rfl)) (by decide) (backOf (W := 0) (own_rmna l Z a0 hw [] ((FP.dadd xs xe)) h0 n0 Z0 hn) hZ (own_g hw (i := 31) rfl) (own_g hw (i := 30) rfl) (by decide) (by decide)) (g := (mkF m 11 #[rv a, .val (.double (FP.dadd xs xe)), .second] [(.double (FP.dadd xs xe))])) rfl (by rw [hml]; rfl) (argsL := [(.double (FP.dadd xs xe))]) (rest := []) (lenOf own_pd__D_Z rfl) rfl (by show 2 * 0 + _ ≤ _; exact Nat.le_of_eq rfl) (hb hby d5_11) (fun _ _ => ⟨rfl, e2, (by decide : 0 + 0 ≤ _), (by decide : 0 + 0 ≤ _)⟩)
  dsimp only [Pt.U, Pt.locs, Pt.cells, Pt.slots] at X3 l3 y3 z3 st3 hQ3
  subst l3 y3 z3
  obtain ⟨rfl, N3q, e3⟩ := hQ3
  have N3 := Fr.app N0 N3q
  refine own_S (mkF m 14 #[rv a, .val (.double (FP.dadd xs xe)), .second] [(.int 0)]) (fun _ k => st3 _ k) ?_
  have hc4 : (0 : Int32) = (0 : Int32) := by decide
  refine own_S (mkF m 24 #[rv a, .val (.double (FP.dadd xs xe)), .second] []) (fun _ k => XS.ifYes X3.here hx rfl (pc0 := 14) (pc' := 24) rfl (hb hby d5_14) rfl ((if0 _ _).trans (teq hc4).1) (by decide) (by decide) k) ?_
  refine own_S (mkF m 25 #[rv a, .val (.double (FP.dadd xs xe)), .second] [(.double (FP.dadd xs xe))]) (fun _ k => XS.dloadN X3.here hx rfl (hb hby d5_24) rfl k) ?_
  exact own_ret X3 hx hlk (t := .double) hret rfl (Or.inr (Or.inr (Or.inl ⟨rfl, rfl, _, rfl⟩))) (hb hby d5_25) (by rw [e3]; exact ⟨rfl, N3, rfl⟩) (by decide) (by decide)
theorem own_pd___V : parseMethodDescriptor "()V" = some ⟨[], none⟩ := by decide +kernel
theorem own_pd__D_Lcom_example_accrue_accrue_exact_CompensatedSum_ : parseMethodDescriptor "(D)Lcom/example/accrue/accrue/exact/CompensatedSum;" = some ⟨[.double], (some (.object "com/example/accrue/accrue/exact/CompensatedSum"))⟩ := by decide +kernel
theorem own_pd___D : parseMethodDescriptor "()D" = some ⟨[], (some .double)⟩ := by decide +kernel
theorem own_pf_law : plainFor x = true := by first | exact plainFor_of_name (show plainName "com/example/accrue/accrue/exact/CompensatedSumAddPinLaw" = true by first | (simp [plainName, overriddenIn]; done) | decide +kernel) | decide +kernel
theorem own_ef_law (m : MethodId) (y0 : Int32) (y1 : Int32) (y2 : Int32) (y3 : Int32) : entryFrame m #[(.int y0), (.int y1), (.int y2), (.int y3)] maxLocals = mkF m 0 #[iv y0, iv y1, iv y2, iv y3, .unset, .unset, .unset, .unset, .unset, .unset] [] := by first | (simp [entryFrame, mkF, argsToLocals, Value.category, maxLocals]; done) | rfl
def own_Qlaw (Z : State) (r0 : Int32) (r1 : Int32) (r2 : Int32) (r3 : Int32) (h0 : Heap) (n0 : Nat) (v : Option Value) (h : Heap) (L : List Loc) : Prop := v = some (.int 1) ∧ Fr n0 L ∧ True
set_option maxRecDepth 65536 in
set_option maxHeartbeats 40000000 in
theorem own_rmlaw (l : Launch) (Z : State) (a0 : Array Value) (hw : ∀ d ∈ tables_1, d.before a0 Z = true) (ws : List Jvm.Cond) (r0 : Int32) (r1 : Int32) (r2 : Int32) (r3 : Int32) (h0 : Heap) (n0 : Nat) (Z0 : n0 ≤ h0.size)  :
    MetFree l x (head1 (Jvm.Cond.code x code maxLocals ret :: ws) room_1) (fun az Uz => az = #[(.int r0), (.int r1), (.int r2), (.int r3)] ∧ Z.Warmed39 Uz.vm ∧ Uz.heap = h0) (fun _ _ _ _ _ => True) (fun _ U o U' => ∃ v L, o = .returned v ∧ own_Qlaw Z r0 r1 r2 r3 h0 n0 v U'.heap L ∧ FrameEnd U o U' L room_1.cells room_1.slots) := by
  refine MetFree.of_bodySF own_pf_law hisR ?_
  intro p e s m args below meth c s₁ Bd hml0 hP hK
  obtain ⟨rfl, hZ, hh⟩ := hP
  have hx := Bd.exec
  have hby := Bd.bytes
  have hml : c.maxLocals = 10 := hml0
  have hown : s.vm.findClass "com/example/accrue/accrue/exact/CompensatedSumAddPinLaw" = some m.cls := findClass_of_methodNamed Bd.named
  have hnm := (name_of_methodNamed Bd.named Bd.method).1
  have hlk : meth.locks = false := BodyLoose.notSynchronized Bd
  have hret := Bd.returns
  have X0 : Stand p l e room_1 s m #[(.int r0), (.int r1), (.int r2), (.int r3)] below meth c s₁ [] 0 0 := Stand.of_body Bd
  have e0 : s₁.heap = h0 := by rw [← hh, Bd.state]; rfl
  have N0 := Fr.nil n0
  show own_E p e below (own_K s (own_Qlaw Z r0 r1 r2 r3 h0 n0) room_1.cells room_1.slots) s₁ (entryFrame m #[(.int r0), (.int r1), (.int r2), (.int r3)] maxLocals)
  refine own_S (mkF m 0 #[iv r0, iv r1, iv r2, iv r3, .unset, .unset, .unset, .unset, .unset, .unset] []) (fun _ k => castTop (own_ef_law m (r0) (r1) (r2) (r3)) k) ?_
  obtain ⟨ba, hA, vA0⟩ := own_big r0 r2
  refine own_S (mkF m 1 #[iv r0, iv r1, iv r2, iv r3, .unset, .unset, .unset, .unset, .unset, .unset] [(.int r0)]) (fun _ k => XS.iloadN X0.here hx rfl (hb hby at_0) rfl k) ?_
  refine own_S (mkF m 2 #[iv r0, iv r1, iv r2, iv r3, .unset, .unset, .unset, .unset, .unset, .unset] [(.double (FP.i2d r0))]) (fun _ k => XS.i2dS X0.here hx rfl (hb hby at_1) rfl rfl k) ?_
  refine own_S (mkF m 3 #[iv r0, iv r1, iv r2, iv r3, .unset, .unset, .unset, .unset, .unset, .unset] [(.long 1), (.double (FP.i2d r0))]) (fun _ k => XS.lconst X0.here hx rfl (hb hby at_2) k) ?_
  refine own_S (mkF m 4 #[iv r0, iv r1, iv r2, iv r3, .unset, .unset, .unset, .unset, .unset, .unset] [(.int r2), (.long 1), (.double (FP.i2d r0))]) (fun _ k => XS.iloadN X0.here hx rfl (hb hby at_3) rfl k) ?_
  refine own_S (mkF m 6 #[iv r0, iv r1, iv r2, iv r3, .unset, .unset, .unset, .unset, .unset, .unset] [(.int 63), (.int r2), (.long 1), (.double (FP.i2d r0))]) (fun _ k => XS.bipush X0.here hx rfl (hb hby at_4) k) ?_
  refine own_S (mkF m 7 #[iv r0, iv r1, iv r2, iv r3, .unset, .unset, .unset, .unset, .unset, .unset] [(.int (r2 &&& (63 : Int32))), (.long 1), (.double (FP.i2d r0))]) (fun _ k => XS.iand X0.here hx rfl (hb hby at_6) rfl k) ?_
  refine own_S (mkF m 8 #[iv r0, iv r1, iv r2, iv r3, .unset, .unset, .unset, .unset, .unset, .unset] [(.long ((1 : Int64) <<< ((r2 &&& (63 : Int32)) &&& 0x3f).toInt64)), (.double (FP.i2d r0))]) (fun _ k => XS.lshl X0.here hx rfl (hb hby at_7) rfl k) ?_
  refine own_S (mkF m 9 #[iv r0, iv r1, iv r2, iv r3, .unset, .unset, .unset, .unset, .unset, .unset] [(.double (FP.l2d ((1 : Int64) <<< ((r2 &&& (63 : Int32)) &&& 0x3f).toInt64))), (.double (FP.i2d r0))]) (fun _ k => XS.l2dS X0.here hx rfl (hb hby at_8) rfl rfl k) ?_
  refine own_S (mkF m 10 #[iv r0, iv r1, iv r2, iv r3, .unset, .unset, .unset, .unset, .unset, .unset] [(.double (FP.dmul (FP.i2d r0) (FP.l2d ((1 : Int64) <<< ((r2 &&& (63 : Int32)) &&& 0x3f).toInt64))))]) (fun _ k => XS.dmulS X0.here hx rfl (hb hby at_9) rfl (own_num vA0) rfl k) ?_
  refine own_S (mkF m 12 #[iv r0, iv r1, iv r2, iv r3, .val (.double (FP.dmul (FP.i2d r0) (FP.l2d ((1 : Int64) <<< ((r2 &&& (63 : Int32)) &&& 0x3f).toInt64)))), .second, .unset, .unset, .unset, .unset] []) (fun _ k => XS.dstore X0.here hx rfl (hb hby at_10) rfl (l' := #[iv r0, iv r1, iv r2, iv r3, .val (.double (FP.dmul (FP.i2d r0) (FP.l2d ((1 : Int64) <<< ((r2 &&& (63 : Int32)) &&& 0x3f).toInt64)))), .second, .unset, .unset, .unset, .unset]) rfl k) ?_
  obtain ⟨xa, h_xa⟩ : ∃ z : UInt64, z = (FP.dmul (FP.i2d r0) (FP.l2d ((1 : Int64) <<< ((r2 &&& (63 : Int32)) &&& 0x3f).toInt64))) := ⟨_, rfl⟩
  refine own_S (T' := s₁) (mkF m 12 #[iv r0, iv r1, iv r2, iv r3, .val (.double xa), .second, .unset, .unset, .unset, .unset] []) (fun _ k => by subst h_xa; exact k) ?_
  have vA : own_V xa ba := by rw [h_xa]; exact vA0
  refine own_S (mkF m 13 #[iv r0, iv r1, iv r2, iv r3, .val (.double xa), .second, .unset, .unset, .unset, .unset] [(.int r1)]) (fun _ k => XS.iloadN X0.here hx rfl (hb hby at_12) rfl k) ?_
  refine own_S (mkF m 14 #[iv r0, iv r1, iv r2, iv r3, .val (.double xa), .second, .unset, .unset, .unset, .unset] [(.double (FP.i2d r1))]) (fun _ k => XS.i2dS X0.here hx rfl (hb hby at_13) rfl rfl k) ?_
  refine own_S (mkF m 16 #[iv r0, iv r1, iv r2, iv r3, .val (.double xa), .second, .val (.double (FP.i2d r1)), .second, .unset, .unset] []) (fun _ k => XS.dstore X0.here hx rfl (hb hby at_14) rfl (l' := #[iv r0, iv r1, iv r2, iv r3, .val (.double xa), .second, .val (.double (FP.i2d r1)), .second, .unset, .unset]) rfl k) ?_
  obtain ⟨xb, h_xb⟩ : ∃ z : UInt64, z = (FP.i2d r1) := ⟨_, rfl⟩
  refine own_S (T' := s₁) (mkF m 16 #[iv r0, iv r1, iv r2, iv r3, .val (.double xa), .second, .val (.double xb), .second, .unset, .unset] []) (fun _ k => by subst h_xb; exact k) ?_
  have vB : own_V xb r1.toInt := by rw [h_xb]; exact own_i2d r1
  have hB : r1.toInt.natAbs ≤ 2 ^ 31 := own_i31 r1
  obtain ⟨T1, h1, X1, e1, E1, A1, D1, -, st1⟩ := newO X0 hx hZ hown (own_g hw (i := 0) rfl) (own_g hw (i := 1) rfl) (own_g hw (i := 2) rfl) e0 (g := (mkF m 16 #[iv r0, iv r1, iv r2, iv r3, .val (.double xa), .second, .val (.double xb), .second, .unset, .unset] [])) rfl (hb hby at_16) (by decide) (by decide)
  obtain ⟨cs, g1⟩ : ∃ z, z = h0.size := ⟨_, rfl⟩
  rw [← g1] at A1 D1 st1
  have ge_cs : n0 ≤ cs := Nat.le_trans Z0 (Nat.le_of_eq g1.symm)
  have Z1 : n0 ≤ h1.size := Nat.le_trans Z0 E1.1
  have F2 : Fld Z h1 cs "com/example/accrue/accrue/exact/CompensatedSum" "sum" "D" (.double (0 : UInt64)) := D1 (Or.inl (own_g hw (i := 15) rfl)) (ty := .double) (by decide)
  have F3 : Fld Z h1 cs "com/example/accrue/accrue/exact/CompensatedSum" "error" "D" (.double (0 : UInt64)) := D1 (Or.inl (own_g hw (i := 17) rfl)) (ty := .double) (by decide)
  refine own_S (mkF m 19 #[iv r0, iv r1, iv r2, iv r3, .val (.double xa), .second, .val (.double xb), .second, .unset, .unset] [(.ref cs)]) st1 ?_
  refine own_S (mkF m 20 #[iv r0, iv r1, iv r2, iv r3, .val (.double xa), .second, .val (.double xb), .second, .unset, .unset] [(.ref cs), (.ref cs)]) (fun _ k => XS.dup X1.here hx rfl (hb hby at_19) rfl rfl k) ?_
  obtain ⟨_, _, ⟨T4, L4, k4, n4⟩, -, X4, ⟨Lc4, hQ4, l4, y4, z4⟩, st4⟩ := X1.specialBack hx (y := own_y0) rfl hown (mvT hZ (own_g hw (i := 3) rfl)) (mvT hZ (own_g hw (i := 4) rfl)) (mvT hZ (own_g hw (i := 5) rfl)) (by decide) (backOf (W := 1) (own_rmci l Z a0 hw [] (cs) h1 n0 Z1 ) hZ (own_g hw (i := 5) rfl) (own_g hw (i := 2) rfl) (by decide) (by decide)) (g := (mkF m 20 #[iv r0, iv r1, iv r2, iv r3, .val (.double xa), .second, .val (.double xb), .second, .unset, .unset] [(.ref cs), (.ref cs)])) rfl (by rw [hml]; rfl) (Steps.refl _) (a := cs) (argsL := []) (rest := [(.ref cs)]) (lenOf own_pd___V rfl) rfl (by show 2 * 0 + _ ≤ _; exact Nat.le_of_eq rfl) (hb hby at_20) (fun _ _ => ⟨rfl, e1, (by decide : 1 + 0 ≤ _), (by decide : 2 + 0 ≤ _)⟩)
  dsimp only [Pt.U, Pt.locs, Pt.cells, Pt.slots] at X4 l4 y4 z4 st4 hQ4
  subst l4 y4 z4
  obtain ⟨rfl, N4q, e4⟩ := hQ4
  have N4 := Fr.app N0 N4q
  refine own_S (mkF m 23 #[iv r0, iv r1, iv r2, iv r3, .val (.double xa), .second, .val (.double xb), .second, .unset, .unset] [(.ref cs)]) (fun _ k => st4.trans k) ?_
  refine own_S (mkF m 25 #[iv r0, iv r1, iv r2, iv r3, .val (.double xa), .second, .val (.double xb), .second, rv cs, .unset] []) (fun _ k => XS.astore X4.here hx rfl (hb hby at_23) rfl rfl (l' := #[iv r0, iv r1, iv r2, iv r3, .val (.double xa), .second, .val (.double xb), .second, rv cs, .unset]) rfl k) ?_
  refine own_S (mkF m 26 #[iv r0, iv r1, iv r2, iv r3, .val (.double xa), .second, .val (.double xb), .second, rv cs, .unset] [(.int r3)]) (fun _ k => XS.iloadN X4.here hx rfl (hb hby at_25) rfl k) ?_
  refine own_S (mkF m 27 #[iv r0, iv r1, iv r2, iv r3, .val (.double xa), .second, .val (.double xb), .second, rv cs, .unset] [(.int 1), (.int r3)]) (fun _ k => XS.iconst X4.here hx rfl (hb hby at_26) k) ?_
  refine own_S (mkF m 28 #[iv r0, iv r1, iv r2, iv r3, .val (.double xa), .second, .val (.double xb), .second, rv cs, .unset] [(.int (r3 &&& (1 : Int32)))]) (fun _ k => XS.iand X4.here hx rfl (hb hby at_27) rfl k) ?_
  by_cases hord : (r3 &&& (1 : Int32)) = (0 : Int32)
  · -- (r3 &&& (1 : Int32)) = (0 : Int32)
    refine own_S (mkF m 50 #[iv r0, iv r1, iv r2, iv r3, .val (.double xa), .second, .val (.double xb), .second, rv cs, .unset] []) (fun _ k => XS.ifYes X4.here hx rfl (pc0 := 28) (pc' := 50) rfl (hb hby at_28) rfl ((if0 _ _).trans (teq hord).1) (by decide) (by decide) k) ?_
    refine own_S (mkF m 52 #[iv r0, iv r1, iv r2, iv r3, .val (.double xa), .second, .val (.double xb), .second, rv cs, .unset] [(.ref cs)]) (fun _ k => XS.aload X4.here hx rfl (hb hby at_50) rfl rfl k) ?_
    refine own_S (mkF m 54 #[iv r0, iv r1, iv r2, iv r3, .val (.double xa), .second, .val (.double xb), .second, rv cs, .unset] [(.double xb), (.ref cs)]) (fun _ k => XS.dload X4.here hx rfl (hb hby at_52) rfl k) ?_
    obtain ⟨cq5, kq5, q5a, q5b, q5c⟩ := isOf hZ e4 A1
    obtain ⟨_, _, ⟨T5, L5, k5, n5⟩, -, X5, ⟨Lc5, hQ5, l5, y5, z5⟩, st5⟩ := X4.virtualBack hx (y := own_y1) (z := own_y1) hown (mvT hZ (own_g hw (i := 9) rfl)) (mvT hZ (own_g hw (i := 10) rfl)) (notFace_of_selects (args := #[]) (mvT hZ (own_g hw (i := 12) rfl))) (mvT hZ (own_g hw (i := 12) rfl)) (mvT hZ (own_g hw (i := 11) rfl)) (by decide) (backOf (W := 0) (own_rmsa l Z a0 hw [] (cs) (xb) ((.double (0 : UInt64))) ((.double (0 : UInt64))) h1 n0 Z1 A1 F2 F3 ge_cs) hZ (own_g hw (i := 13) rfl) (own_g hw (i := 2) rfl) (by decide) (by decide)) q5a q5c (g := (mkF m 54 #[iv r0, iv r1, iv r2, iv r3, .val (.double xa), .second, .val (.double xb), .second, rv cs, .unset] [(.double xb), (.ref cs)])) rfl (by rw [hml]; rfl) (Steps.refl _) (argsL := [(.double xb)]) (rest := []) (lenOf own_pd__D_Lcom_example_accrue_accrue_exact_CompensatedSum_ rfl) rfl (by show 2 * 0 + _ ≤ _; exact Nat.le_of_eq rfl) (hb hby at_54) (fun _ _ => ⟨rfl, e4, (by decide : 1 + 0 ≤ _), (by decide : 2 + 0 ≤ _)⟩)
    dsimp only [Pt.U, Pt.locs, Pt.cells, Pt.slots] at X5 l5 y5 z5 st5 hQ5
    subst l5 y5 z5
    obtain ⟨rfl, N5q, K5q, F6, F7, F8⟩ := hQ5
    have N5 := Fr.app N4 N5q
    refine own_S (mkF m 57 #[iv r0, iv r1, iv r2, iv r3, .val (.double xa), .second, .val (.double xb), .second, rv cs, .unset] [(.ref cs)]) (fun _ k => st5.trans k) ?_
    have Z5 : n0 ≤ T5.heap.size := Nat.le_trans Z1 K5q.1
    refine own_S (mkF m 58 #[iv r0, iv r1, iv r2, iv r3, .val (.double xa), .second, .val (.double xb), .second, rv cs, .unset] []) (fun _ k => XS.pop X5.here hx rfl (hb hby at_57) rfl rfl k) ?_
    refine own_S (mkF m 60 #[iv r0, iv r1, iv r2, iv r3, .val (.double xa), .second, .val (.double xb), .second, rv cs, .unset] [(.ref cs)]) (fun _ k => XS.aload X5.here hx rfl (hb hby at_58) rfl rfl k) ?_
    refine own_S (mkF m 62 #[iv r0, iv r1, iv r2, iv r3, .val (.double xa), .second, .val (.double xb), .second, rv cs, .unset] [(.double xa), (.ref cs)]) (fun _ k => XS.dload X5.here hx rfl (hb hby at_60) rfl k) ?_
    obtain ⟨bB, y0, y1, y2, y3, y4, k0, k1, k2, k3, k4, k5, k6, hbB, hE⟩ := own_oneB vA vB own_zero hA hB
    obtain ⟨cq9, kq9, q9a, q9b, q9c⟩ := isOf hZ rfl F6
    obtain ⟨_, _, ⟨T9, L9, k9, n9⟩, -, X9, ⟨Lc9, hQ9, l9, y9, z9⟩, st9⟩ := X5.virtualBack hx (y := own_y2) (z := own_y2) hown (mvT hZ (own_g hw (i := 18) rfl)) (mvT hZ (own_g hw (i := 19) rfl)) (notFace_of_selects (args := #[]) (mvT hZ (own_g hw (i := 21) rfl))) (mvT hZ (own_g hw (i := 21) rfl)) (mvT hZ (own_g hw (i := 20) rfl)) (by decide) (backOf (W := 0) (own_rmad l Z a0 hw [] (cs) (xa) (xb) ((0 : UInt64)) T5.heap n0 Z5 F6 F7 F8 ge_cs (own_num k0) (own_num k1) (own_num k2) (own_num k3) (own_num k4) (own_num k5) (own_num k6)) hZ (own_g hw (i := 22) rfl) (own_g hw (i := 2) rfl) (by decide) (by decide)) q9a q9c (g := (mkF m 62 #[iv r0, iv r1, iv r2, iv r3, .val (.double xa), .second, .val (.double xb), .second, rv cs, .unset] [(.double xa), (.ref cs)])) rfl (by rw [hml]; rfl) (Steps.refl _) (argsL := [(.double xa)]) (rest := []) (lenOf own_pd__D_Lcom_example_accrue_accrue_exact_CompensatedSum_ rfl) rfl (by show 2 * 0 + _ ≤ _; exact Nat.le_of_eq rfl) (hb hby at_62) (fun _ _ => ⟨rfl, rfl, (by decide : 1 + 0 ≤ _), (by decide : 2 + 0 ≤ _)⟩)
    dsimp only [Pt.U, Pt.locs, Pt.cells, Pt.slots] at X9 l9 y9 z9 st9 hQ9
    subst l9 y9 z9
    obtain ⟨rfl, N9q, K9q, F10, F11, F12⟩ := hQ9
    have N9 := Fr.app N5 N9q
    refine own_S (mkF m 65 #[iv r0, iv r1, iv r2, iv r3, .val (.double xa), .second, .val (.double xb), .second, rv cs, .unset] [(.ref cs)]) (fun _ k => st9.trans k) ?_
    have Z9 : n0 ≤ T9.heap.size := Nat.le_trans Z5 K9q.1
    refine own_S (mkF m 66 #[iv r0, iv r1, iv r2, iv r3, .val (.double xa), .second, .val (.double xb), .second, rv cs, .unset] []) (fun _ k => XS.pop X9.here hx rfl (hb hby at_65) rfl rfl k) ?_
    refine own_S (mkF m 68 #[iv r0, iv r1, iv r2, iv r3, .val (.double xa), .second, .val (.double xb), .second, rv cs, .unset] [(.ref cs)]) (fun _ k => XS.aload X9.here hx rfl (hb hby at_66) rfl rfl k) ?_
    refine own_S (mkF m 70 #[iv r0, iv r1, iv r2, iv r3, .val (.double xa), .second, .val (.double xb), .second, rv cs, .unset] [(.double xa), (.ref cs)]) (fun _ k => XS.dload X9.here hx rfl (hb hby at_68) rfl k) ?_
    refine own_S (mkF m 71 #[iv r0, iv r1, iv r2, iv r3, .val (.double xa), .second, .val (.double xb), .second, rv cs, .unset] [(.double (FP.dneg xa)), (.ref cs)]) (fun _ k => XS.dnegS X9.here hx rfl (hb hby at_70) rfl rfl k) ?_
    obtain ⟨j0, j1, j2, j3, j4, j5, j6⟩ := own_two vA (own_negF vA) k0 k6 hA hbB hE
    obtain ⟨cq13, kq13, q13a, q13b, q13c⟩ := isOf hZ rfl F10
    obtain ⟨_, _, ⟨T13, L13, k13, n13⟩, -, X13, ⟨Lc13, hQ13, l13, y13, z13⟩, st13⟩ := X9.virtualBack hx (y := own_y2) (z := own_y2) hown (mvT hZ (own_g hw (i := 18) rfl)) (mvT hZ (own_g hw (i := 19) rfl)) (notFace_of_selects (args := #[]) (mvT hZ (own_g hw (i := 21) rfl))) (mvT hZ (own_g hw (i := 21) rfl)) (mvT hZ (own_g hw (i := 20) rfl)) (by decide) (backOf (W := 0) (own_rmad l Z a0 hw [] (cs) ((FP.dneg xa)) ((FP.dadd xb xa)) ((FP.dadd (0 : UInt64) (FP.dadd (FP.dsub xb (FP.dsub (FP.dadd xb xa) (FP.dsub (FP.dadd xb xa) xb))) (FP.dsub xa (FP.dsub (FP.dadd xb xa) xb))))) T9.heap n0 Z9 F10 F11 F12 ge_cs (own_num j0) (own_num j1) (own_num j2) (own_num j3) (own_num j4) (own_num j5) (own_num j6)) hZ (own_g hw (i := 22) rfl) (own_g hw (i := 2) rfl) (by decide) (by decide)) q13a q13c (g := (mkF m 71 #[iv r0, iv r1, iv r2, iv r3, .val (.double xa), .second, .val (.double xb), .second, rv cs, .unset] [(.double (FP.dneg xa)), (.ref cs)])) rfl (by rw [hml]; rfl) (Steps.refl _) (argsL := [(.double (FP.dneg xa))]) (rest := []) (lenOf own_pd__D_Lcom_example_accrue_accrue_exact_CompensatedSum_ rfl) rfl (by show 2 * 0 + _ ≤ _; exact Nat.le_of_eq rfl) (hb hby at_71) (fun _ _ => ⟨rfl, rfl, (by decide : 1 + 0 ≤ _), (by decide : 2 + 0 ≤ _)⟩)
    dsimp only [Pt.U, Pt.locs, Pt.cells, Pt.slots] at X13 l13 y13 z13 st13 hQ13
    subst l13 y13 z13
    obtain ⟨rfl, N13q, K13q, F14, F15, F16⟩ := hQ13
    have N13 := Fr.app N9 N13q
    refine own_S (mkF m 74 #[iv r0, iv r1, iv r2, iv r3, .val (.double xa), .second, .val (.double xb), .second, rv cs, .unset] [(.ref cs)]) (fun _ k => st13.trans k) ?_
    have Z13 : n0 ≤ T13.heap.size := Nat.le_trans Z9 K13q.1
    refine own_S (mkF m 76 #[iv r0, iv r1, iv r2, iv r3, .val (.double xa), .second, .val (.double xb), .second, rv cs, .unset] [(.ref cs), (.ref cs)]) (fun _ k => XS.aload X13.here hx rfl (hb hby at_74) rfl rfl k) ?_
    have hc17 : cs = cs := rfl
    refine own_S (mkF m 79 #[iv r0, iv r1, iv r2, iv r3, .val (.double xa), .second, .val (.double xb), .second, rv cs, .unset] []) (fun _ k => acmp X13 hx rfl rfl rfl (pc0 := 76) (pc' := 79) (same := true) rfl (hb hby at_76) rfl (by simp [hc17]) (by decide) (by decide) k) ?_
    refine own_S (mkF m 80 #[iv r0, iv r1, iv r2, iv r3, .val (.double xa), .second, .val (.double xb), .second, rv cs, .unset] [(.int 1)]) (fun _ k => XS.iconst X13.here hx rfl (hb hby at_79) k) ?_
    refine own_S (mkF m 84 #[iv r0, iv r1, iv r2, iv r3, .val (.double xa), .second, .val (.double xb), .second, rv cs, .unset] [(.int 1)]) (fun _ k => XS.goto X13.here hx rfl (pc0 := 80) (pc' := 84) rfl (hb hby at_80) (by decide) (by decide) k) ?_
    refine own_S (mkF m 86 #[iv r0, iv r1, iv r2, iv r3, .val (.double xa), .second, .val (.double xb), .second, rv cs, .val (.int 1)] []) (fun _ k => XS.istore X13.here hx rfl (hb hby at_84) rfl (l' := #[iv r0, iv r1, iv r2, iv r3, .val (.double xa), .second, .val (.double xb), .second, rv cs, .val (.int 1)]) rfl k) ?_
    refine own_S (mkF m 88 #[iv r0, iv r1, iv r2, iv r3, .val (.double xa), .second, .val (.double xb), .second, rv cs, .val (.int 1)] [(.int 1)]) (fun _ k => XS.iload X13.here hx rfl (hb hby at_86) rfl k) ?_
    have hc18 : ¬ ((1 : Int32) = (0 : Int32)) := by decide
    refine own_S (mkF m 91 #[iv r0, iv r1, iv r2, iv r3, .val (.double xa), .second, .val (.double xb), .second, rv cs, .val (.int 1)] []) (fun _ k => XS.ifNo X13.here hx rfl (hb hby at_88) rfl ((if0 _ _).trans (feq hc18).1) k) ?_
    refine own_S (mkF m 93 #[iv r0, iv r1, iv r2, iv r3, .val (.double xa), .second, .val (.double xb), .second, rv cs, .val (.int 1)] [(.ref cs)]) (fun _ k => XS.aload X13.here hx rfl (hb hby at_91) rfl rfl k) ?_
    have vF := own_addS j0 j6 (k := r1.toInt) (by omega) (by omega)
    obtain ⟨cq19, kq19, q19a, q19b, q19c⟩ := isOf hZ rfl F14
    obtain ⟨_, _, ⟨T19, L19, k19, n19⟩, -, X19, ⟨Lc19, hQ19, l19, y19, z19⟩, st19⟩ := X13.virtualBack hx (y := own_y4) (z := own_y4) hown (mvT hZ (own_g hw (i := 23) rfl)) (mvT hZ (own_g hw (i := 24) rfl)) (notFace_of_selects (args := #[]) (mvT hZ (own_g hw (i := 26) rfl))) (mvT hZ (own_g hw (i := 26) rfl)) (mvT hZ (own_g hw (i := 25) rfl)) (by decide) (backOf (W := 0) (own_rmva l Z a0 hw [] (cs) ((FP.dadd (FP.dadd xb xa) (FP.dneg xa))) ((FP.dadd (FP.dadd (0 : UInt64) (FP.dadd (FP.dsub xb (FP.dsub (FP.dadd xb xa) (FP.dsub (FP.dadd xb xa) xb))) (FP.dsub xa (FP.dsub (FP.dadd xb xa) xb)))) (FP.dadd (FP.dsub (FP.dadd xb xa) (FP.dsub (FP.dadd (FP.dadd xb xa) (FP.dneg xa)) (FP.dsub (FP.dadd (FP.dadd xb xa) (FP.dneg xa)) (FP.dadd xb xa)))) (FP.dsub (FP.dneg xa) (FP.dsub (FP.dadd (FP.dadd xb xa) (FP.dneg xa)) (FP.dadd xb xa)))))) T13.heap n0 Z13 F14 F15 F16 (own_num vF)) hZ (own_g hw (i := 27) rfl) (own_g hw (i := 2) rfl) (by decide) (by decide)) q19a q19c (g := (mkF m 93 #[iv r0, iv r1, iv r2, iv r3, .val (.double xa), .second, .val (.double xb), .second, rv cs, .val (.int 1)] [(.ref cs)])) rfl (by rw [hml]; rfl) (Steps.refl _) (argsL := []) (rest := []) (lenOf own_pd___D rfl) rfl (by show 2 * 0 + _ ≤ _; exact Nat.le_of_eq rfl) (hb hby at_93) (fun _ _ => ⟨rfl, rfl, (by decide : 1 + 0 ≤ _), (by decide : 2 + 0 ≤ _)⟩)
    dsimp only [Pt.U, Pt.locs, Pt.cells, Pt.slots] at X19 l19 y19 z19 st19 hQ19
    subst l19 y19 z19
    obtain ⟨rfl, N19q, e19⟩ := hQ19
    have N19 := Fr.app N13 N19q
    refine own_S (mkF m 96 #[iv r0, iv r1, iv r2, iv r3, .val (.double xa), .second, .val (.double xb), .second, rv cs, .val (.int 1)] [(.double (FP.dadd (FP.dadd (FP.dadd xb xa) (FP.dneg xa)) (FP.dadd (FP.dadd (0 : UInt64) (FP.dadd (FP.dsub xb (FP.dsub (FP.dadd xb xa) (FP.dsub (FP.dadd xb xa) xb))) (FP.dsub xa (FP.dsub (FP.dadd xb xa) xb)))) (FP.dadd (FP.dsub (FP.dadd xb xa) (FP.dsub (FP.dadd (FP.dadd xb xa) (FP.dneg xa)) (FP.dsub (FP.dadd (FP.dadd xb xa) (FP.dneg xa)) (FP.dadd xb xa)))) (FP.dsub (FP.dneg xa) (FP.dsub (FP.dadd (FP.dadd xb xa) (FP.dneg xa)) (FP.dadd xb xa)))))))]) (fun _ k => st19.trans k) ?_
    refine own_S (mkF m 98 #[iv r0, iv r1, iv r2, iv r3, .val (.double xa), .second, .val (.double xb), .second, rv cs, .val (.int 1)] [(.double xb), (.double (FP.dadd (FP.dadd (FP.dadd xb xa) (FP.dneg xa)) (FP.dadd (FP.dadd (0 : UInt64) (FP.dadd (FP.dsub xb (FP.dsub (FP.dadd xb xa) (FP.dsub (FP.dadd xb xa) xb))) (FP.dsub xa (FP.dsub (FP.dadd xb xa) xb)))) (FP.dadd (FP.dsub (FP.dadd xb xa) (FP.dsub (FP.dadd (FP.dadd xb xa) (FP.dneg xa)) (FP.dsub (FP.dadd (FP.dadd xb xa) (FP.dneg xa)) (FP.dadd xb xa)))) (FP.dsub (FP.dneg xa) (FP.dsub (FP.dadd (FP.dadd xb xa) (FP.dneg xa)) (FP.dadd xb xa)))))))]) (fun _ k => XS.dload X19.here hx rfl (hb hby at_96) rfl k) ?_
    refine own_S (mkF m 99 #[iv r0, iv r1, iv r2, iv r3, .val (.double xa), .second, .val (.double xb), .second, rv cs, .val (.int 1)] [(.int 0)]) (fun _ k => XS.dcmpS X19.here hx rfl (hb hby at_98) rfl (own_cmpV vF vB _) k) ?_
    have hc20 : (0 : Int32) = (0 : Int32) := by decide
    refine own_S (mkF m 102 #[iv r0, iv r1, iv r2, iv r3, .val (.double xa), .second, .val (.double xb), .second, rv cs, .val (.int 1)] []) (fun _ k => XS.ifNo X19.here hx rfl (hb hby at_99) rfl ((if0 _ _).trans (teq hc20).2) k) ?_
    refine own_S (mkF m 103 #[iv r0, iv r1, iv r2, iv r3, .val (.double xa), .second, .val (.double xb), .second, rv cs, .val (.int 1)] [(.int 1)]) (fun _ k => XS.iconst X19.here hx rfl (hb hby at_102) k) ?_
    refine own_S (mkF m 107 #[iv r0, iv r1, iv r2, iv r3, .val (.double xa), .second, .val (.double xb), .second, rv cs, .val (.int 1)] [(.int 1)]) (fun _ k => XS.goto X19.here hx rfl (pc0 := 103) (pc' := 107) rfl (hb hby at_103) (by decide) (by decide) k) ?_
    exact own_retN X19 hx hlk (t := .boolean) hret (by simp) (hb hby at_107) (by rw [e19]; exact ⟨rfl, N19, trivial⟩) (by decide) (by decide)
  · -- not (r3 &&& (1 : Int32)) = (0 : Int32)
    refine own_S (mkF m 31 #[iv r0, iv r1, iv r2, iv r3, .val (.double xa), .second, .val (.double xb), .second, rv cs, .unset] []) (fun _ k => XS.ifNo X4.here hx rfl (hb hby at_28) rfl ((if0 _ _).trans (feq hord).1) k) ?_
    refine own_S (mkF m 33 #[iv r0, iv r1, iv r2, iv r3, .val (.double xa), .second, .val (.double xb), .second, rv cs, .unset] [(.ref cs)]) (fun _ k => XS.aload X4.here hx rfl (hb hby at_31) rfl rfl k) ?_
    refine own_S (mkF m 35 #[iv r0, iv r1, iv r2, iv r3, .val (.double xa), .second, .val (.double xb), .second, rv cs, .unset] [(.double xa), (.ref cs)]) (fun _ k => XS.dload X4.here hx rfl (hb hby at_33) rfl k) ?_
    obtain ⟨cq21, kq21, q21a, q21b, q21c⟩ := isOf hZ e4 A1
    obtain ⟨_, _, ⟨T21, L21, k21, n21⟩, -, X21, ⟨Lc21, hQ21, l21, y21, z21⟩, st21⟩ := X4.virtualBack hx (y := own_y1) (z := own_y1) hown (mvT hZ (own_g hw (i := 9) rfl)) (mvT hZ (own_g hw (i := 10) rfl)) (notFace_of_selects (args := #[]) (mvT hZ (own_g hw (i := 12) rfl))) (mvT hZ (own_g hw (i := 12) rfl)) (mvT hZ (own_g hw (i := 11) rfl)) (by decide) (backOf (W := 0) (own_rmsa l Z a0 hw [] (cs) (xa) ((.double (0 : UInt64))) ((.double (0 : UInt64))) h1 n0 Z1 A1 F2 F3 ge_cs) hZ (own_g hw (i := 13) rfl) (own_g hw (i := 2) rfl) (by decide) (by decide)) q21a q21c (g := (mkF m 35 #[iv r0, iv r1, iv r2, iv r3, .val (.double xa), .second, .val (.double xb), .second, rv cs, .unset] [(.double xa), (.ref cs)])) rfl (by rw [hml]; rfl) (Steps.refl _) (argsL := [(.double xa)]) (rest := []) (lenOf own_pd__D_Lcom_example_accrue_accrue_exact_CompensatedSum_ rfl) rfl (by show 2 * 0 + _ ≤ _; exact Nat.le_of_eq rfl) (hb hby at_35) (fun _ _ => ⟨rfl, e4, (by decide : 1 + 0 ≤ _), (by decide : 2 + 0 ≤ _)⟩)
    dsimp only [Pt.U, Pt.locs, Pt.cells, Pt.slots] at X21 l21 y21 z21 st21 hQ21
    subst l21 y21 z21
    obtain ⟨rfl, N21q, K21q, F22, F23, F24⟩ := hQ21
    have N21 := Fr.app N4 N21q
    refine own_S (mkF m 38 #[iv r0, iv r1, iv r2, iv r3, .val (.double xa), .second, .val (.double xb), .second, rv cs, .unset] [(.ref cs)]) (fun _ k => st21.trans k) ?_
    have Z21 : n0 ≤ T21.heap.size := Nat.le_trans Z1 K21q.1
    refine own_S (mkF m 39 #[iv r0, iv r1, iv r2, iv r3, .val (.double xa), .second, .val (.double xb), .second, rv cs, .unset] []) (fun _ k => XS.pop X21.here hx rfl (hb hby at_38) rfl rfl k) ?_
    refine own_S (mkF m 41 #[iv r0, iv r1, iv r2, iv r3, .val (.double xa), .second, .val (.double xb), .second, rv cs, .unset] [(.ref cs)]) (fun _ k => XS.aload X21.here hx rfl (hb hby at_39) rfl rfl k) ?_
    refine own_S (mkF m 43 #[iv r0, iv r1, iv r2, iv r3, .val (.double xa), .second, .val (.double xb), .second, rv cs, .unset] [(.double xb), (.ref cs)]) (fun _ k => XS.dload X21.here hx rfl (hb hby at_41) rfl k) ?_
    obtain ⟨bB, y1, y2, y3, y4, k0, k1, k2, k3, k4, k5, k6, hbB, hE⟩ := own_one vA vB own_zero hA hB
    obtain ⟨cq25, kq25, q25a, q25b, q25c⟩ := isOf hZ rfl F22
    obtain ⟨_, _, ⟨T25, L25, k25, n25⟩, -, X25, ⟨Lc25, hQ25, l25, y25, z25⟩, st25⟩ := X21.virtualBack hx (y := own_y2) (z := own_y2) hown (mvT hZ (own_g hw (i := 18) rfl)) (mvT hZ (own_g hw (i := 19) rfl)) (notFace_of_selects (args := #[]) (mvT hZ (own_g hw (i := 21) rfl))) (mvT hZ (own_g hw (i := 21) rfl)) (mvT hZ (own_g hw (i := 20) rfl)) (by decide) (backOf (W := 0) (own_rmad l Z a0 hw [] (cs) (xb) (xa) ((0 : UInt64)) T21.heap n0 Z21 F22 F23 F24 ge_cs (own_num k0) (own_num k1) (own_num k2) (own_num k3) (own_num k4) (own_num k5) (own_num k6)) hZ (own_g hw (i := 22) rfl) (own_g hw (i := 2) rfl) (by decide) (by decide)) q25a q25c (g := (mkF m 43 #[iv r0, iv r1, iv r2, iv r3, .val (.double xa), .second, .val (.double xb), .second, rv cs, .unset] [(.double xb), (.ref cs)])) rfl (by rw [hml]; rfl) (Steps.refl _) (argsL := [(.double xb)]) (rest := []) (lenOf own_pd__D_Lcom_example_accrue_accrue_exact_CompensatedSum_ rfl) rfl (by show 2 * 0 + _ ≤ _; exact Nat.le_of_eq rfl) (hb hby at_43) (fun _ _ => ⟨rfl, rfl, (by decide : 1 + 0 ≤ _), (by decide : 2 + 0 ≤ _)⟩)
    dsimp only [Pt.U, Pt.locs, Pt.cells, Pt.slots] at X25 l25 y25 z25 st25 hQ25
    subst l25 y25 z25
    obtain ⟨rfl, N25q, K25q, F26, F27, F28⟩ := hQ25
    have N25 := Fr.app N21 N25q
    refine own_S (mkF m 46 #[iv r0, iv r1, iv r2, iv r3, .val (.double xa), .second, .val (.double xb), .second, rv cs, .unset] [(.ref cs)]) (fun _ k => st25.trans k) ?_
    have Z25 : n0 ≤ T25.heap.size := Nat.le_trans Z21 K25q.1
    refine own_S (mkF m 47 #[iv r0, iv r1, iv r2, iv r3, .val (.double xa), .second, .val (.double xb), .second, rv cs, .unset] []) (fun _ k => XS.pop X25.here hx rfl (hb hby at_46) rfl rfl k) ?_
    refine own_S (mkF m 66 #[iv r0, iv r1, iv r2, iv r3, .val (.double xa), .second, .val (.double xb), .second, rv cs, .unset] []) (fun _ k => XS.goto X25.here hx rfl (pc0 := 47) (pc' := 66) rfl (hb hby at_47) (by decide) (by decide) k) ?_
    refine own_S (mkF m 68 #[iv r0, iv r1, iv r2, iv r3, .val (.double xa), .second, .val (.double xb), .second, rv cs, .unset] [(.ref cs)]) (fun _ k => XS.aload X25.here hx rfl (hb hby at_66) rfl rfl k) ?_
    refine own_S (mkF m 70 #[iv r0, iv r1, iv r2, iv r3, .val (.double xa), .second, .val (.double xb), .second, rv cs, .unset] [(.double xa), (.ref cs)]) (fun _ k => XS.dload X25.here hx rfl (hb hby at_68) rfl k) ?_
    refine own_S (mkF m 71 #[iv r0, iv r1, iv r2, iv r3, .val (.double xa), .second, .val (.double xb), .second, rv cs, .unset] [(.double (FP.dneg xa)), (.ref cs)]) (fun _ k => XS.dnegS X25.here hx rfl (hb hby at_70) rfl rfl k) ?_
    obtain ⟨j0, j1, j2, j3, j4, j5, j6⟩ := own_two vA (own_negF vA) k0 k6 hA hbB hE
    obtain ⟨cq29, kq29, q29a, q29b, q29c⟩ := isOf hZ rfl F26
    obtain ⟨_, _, ⟨T29, L29, k29, n29⟩, -, X29, ⟨Lc29, hQ29, l29, y29, z29⟩, st29⟩ := X25.virtualBack hx (y := own_y2) (z := own_y2) hown (mvT hZ (own_g hw (i := 18) rfl)) (mvT hZ (own_g hw (i := 19) rfl)) (notFace_of_selects (args := #[]) (mvT hZ (own_g hw (i := 21) rfl))) (mvT hZ (own_g hw (i := 21) rfl)) (mvT hZ (own_g hw (i := 20) rfl)) (by decide) (backOf (W := 0) (own_rmad l Z a0 hw [] (cs) ((FP.dneg xa)) ((FP.dadd xa xb)) ((FP.dadd (0 : UInt64) (FP.dadd (FP.dsub xa (FP.dsub (FP.dadd xa xb) (FP.dsub (FP.dadd xa xb) xa))) (FP.dsub xb (FP.dsub (FP.dadd xa xb) xa))))) T25.heap n0 Z25 F26 F27 F28 ge_cs (own_num j0) (own_num j1) (own_num j2) (own_num j3) (own_num j4) (own_num j5) (own_num j6)) hZ (own_g hw (i := 22) rfl) (own_g hw (i := 2) rfl) (by decide) (by decide)) q29a q29c (g := (mkF m 71 #[iv r0, iv r1, iv r2, iv r3, .val (.double xa), .second, .val (.double xb), .second, rv cs, .unset] [(.double (FP.dneg xa)), (.ref cs)])) rfl (by rw [hml]; rfl) (Steps.refl _) (argsL := [(.double (FP.dneg xa))]) (rest := []) (lenOf own_pd__D_Lcom_example_accrue_accrue_exact_CompensatedSum_ rfl) rfl (by show 2 * 0 + _ ≤ _; exact Nat.le_of_eq rfl) (hb hby at_71) (fun _ _ => ⟨rfl, rfl, (by decide : 1 + 0 ≤ _), (by decide : 2 + 0 ≤ _)⟩)
    dsimp only [Pt.U, Pt.locs, Pt.cells, Pt.slots] at X29 l29 y29 z29 st29 hQ29
    subst l29 y29 z29
    obtain ⟨rfl, N29q, K29q, F30, F31, F32⟩ := hQ29
    have N29 := Fr.app N25 N29q
    refine own_S (mkF m 74 #[iv r0, iv r1, iv r2, iv r3, .val (.double xa), .second, .val (.double xb), .second, rv cs, .unset] [(.ref cs)]) (fun _ k => st29.trans k) ?_
    have Z29 : n0 ≤ T29.heap.size := Nat.le_trans Z25 K29q.1
    refine own_S (mkF m 76 #[iv r0, iv r1, iv r2, iv r3, .val (.double xa), .second, .val (.double xb), .second, rv cs, .unset] [(.ref cs), (.ref cs)]) (fun _ k => XS.aload X29.here hx rfl (hb hby at_74) rfl rfl k) ?_
    have hc33 : cs = cs := rfl
    refine own_S (mkF m 79 #[iv r0, iv r1, iv r2, iv r3, .val (.double xa), .second, .val (.double xb), .second, rv cs, .unset] []) (fun _ k => acmp X29 hx rfl rfl rfl (pc0 := 76) (pc' := 79) (same := true) rfl (hb hby at_76) rfl (by simp [hc33]) (by decide) (by decide) k) ?_
    refine own_S (mkF m 80 #[iv r0, iv r1, iv r2, iv r3, .val (.double xa), .second, .val (.double xb), .second, rv cs, .unset] [(.int 1)]) (fun _ k => XS.iconst X29.here hx rfl (hb hby at_79) k) ?_
    refine own_S (mkF m 84 #[iv r0, iv r1, iv r2, iv r3, .val (.double xa), .second, .val (.double xb), .second, rv cs, .unset] [(.int 1)]) (fun _ k => XS.goto X29.here hx rfl (pc0 := 80) (pc' := 84) rfl (hb hby at_80) (by decide) (by decide) k) ?_
    refine own_S (mkF m 86 #[iv r0, iv r1, iv r2, iv r3, .val (.double xa), .second, .val (.double xb), .second, rv cs, .val (.int 1)] []) (fun _ k => XS.istore X29.here hx rfl (hb hby at_84) rfl (l' := #[iv r0, iv r1, iv r2, iv r3, .val (.double xa), .second, .val (.double xb), .second, rv cs, .val (.int 1)]) rfl k) ?_
    refine own_S (mkF m 88 #[iv r0, iv r1, iv r2, iv r3, .val (.double xa), .second, .val (.double xb), .second, rv cs, .val (.int 1)] [(.int 1)]) (fun _ k => XS.iload X29.here hx rfl (hb hby at_86) rfl k) ?_
    have hc34 : ¬ ((1 : Int32) = (0 : Int32)) := by decide
    refine own_S (mkF m 91 #[iv r0, iv r1, iv r2, iv r3, .val (.double xa), .second, .val (.double xb), .second, rv cs, .val (.int 1)] []) (fun _ k => XS.ifNo X29.here hx rfl (hb hby at_88) rfl ((if0 _ _).trans (feq hc34).1) k) ?_
    refine own_S (mkF m 93 #[iv r0, iv r1, iv r2, iv r3, .val (.double xa), .second, .val (.double xb), .second, rv cs, .val (.int 1)] [(.ref cs)]) (fun _ k => XS.aload X29.here hx rfl (hb hby at_91) rfl rfl k) ?_
    have vF := own_addS j0 j6 (k := r1.toInt) (by omega) (by omega)
    obtain ⟨cq35, kq35, q35a, q35b, q35c⟩ := isOf hZ rfl F30
    obtain ⟨_, _, ⟨T35, L35, k35, n35⟩, -, X35, ⟨Lc35, hQ35, l35, y35, z35⟩, st35⟩ := X29.virtualBack hx (y := own_y4) (z := own_y4) hown (mvT hZ (own_g hw (i := 23) rfl)) (mvT hZ (own_g hw (i := 24) rfl)) (notFace_of_selects (args := #[]) (mvT hZ (own_g hw (i := 26) rfl))) (mvT hZ (own_g hw (i := 26) rfl)) (mvT hZ (own_g hw (i := 25) rfl)) (by decide) (backOf (W := 0) (own_rmva l Z a0 hw [] (cs) ((FP.dadd (FP.dadd xa xb) (FP.dneg xa))) ((FP.dadd (FP.dadd (0 : UInt64) (FP.dadd (FP.dsub xa (FP.dsub (FP.dadd xa xb) (FP.dsub (FP.dadd xa xb) xa))) (FP.dsub xb (FP.dsub (FP.dadd xa xb) xa)))) (FP.dadd (FP.dsub (FP.dadd xa xb) (FP.dsub (FP.dadd (FP.dadd xa xb) (FP.dneg xa)) (FP.dsub (FP.dadd (FP.dadd xa xb) (FP.dneg xa)) (FP.dadd xa xb)))) (FP.dsub (FP.dneg xa) (FP.dsub (FP.dadd (FP.dadd xa xb) (FP.dneg xa)) (FP.dadd xa xb)))))) T29.heap n0 Z29 F30 F31 F32 (own_num vF)) hZ (own_g hw (i := 27) rfl) (own_g hw (i := 2) rfl) (by decide) (by decide)) q35a q35c (g := (mkF m 93 #[iv r0, iv r1, iv r2, iv r3, .val (.double xa), .second, .val (.double xb), .second, rv cs, .val (.int 1)] [(.ref cs)])) rfl (by rw [hml]; rfl) (Steps.refl _) (argsL := []) (rest := []) (lenOf own_pd___D rfl) rfl (by show 2 * 0 + _ ≤ _; exact Nat.le_of_eq rfl) (hb hby at_93) (fun _ _ => ⟨rfl, rfl, (by decide : 1 + 0 ≤ _), (by decide : 2 + 0 ≤ _)⟩)
    dsimp only [Pt.U, Pt.locs, Pt.cells, Pt.slots] at X35 l35 y35 z35 st35 hQ35
    subst l35 y35 z35
    obtain ⟨rfl, N35q, e35⟩ := hQ35
    have N35 := Fr.app N29 N35q
    refine own_S (mkF m 96 #[iv r0, iv r1, iv r2, iv r3, .val (.double xa), .second, .val (.double xb), .second, rv cs, .val (.int 1)] [(.double (FP.dadd (FP.dadd (FP.dadd xa xb) (FP.dneg xa)) (FP.dadd (FP.dadd (0 : UInt64) (FP.dadd (FP.dsub xa (FP.dsub (FP.dadd xa xb) (FP.dsub (FP.dadd xa xb) xa))) (FP.dsub xb (FP.dsub (FP.dadd xa xb) xa)))) (FP.dadd (FP.dsub (FP.dadd xa xb) (FP.dsub (FP.dadd (FP.dadd xa xb) (FP.dneg xa)) (FP.dsub (FP.dadd (FP.dadd xa xb) (FP.dneg xa)) (FP.dadd xa xb)))) (FP.dsub (FP.dneg xa) (FP.dsub (FP.dadd (FP.dadd xa xb) (FP.dneg xa)) (FP.dadd xa xb)))))))]) (fun _ k => st35.trans k) ?_
    refine own_S (mkF m 98 #[iv r0, iv r1, iv r2, iv r3, .val (.double xa), .second, .val (.double xb), .second, rv cs, .val (.int 1)] [(.double xb), (.double (FP.dadd (FP.dadd (FP.dadd xa xb) (FP.dneg xa)) (FP.dadd (FP.dadd (0 : UInt64) (FP.dadd (FP.dsub xa (FP.dsub (FP.dadd xa xb) (FP.dsub (FP.dadd xa xb) xa))) (FP.dsub xb (FP.dsub (FP.dadd xa xb) xa)))) (FP.dadd (FP.dsub (FP.dadd xa xb) (FP.dsub (FP.dadd (FP.dadd xa xb) (FP.dneg xa)) (FP.dsub (FP.dadd (FP.dadd xa xb) (FP.dneg xa)) (FP.dadd xa xb)))) (FP.dsub (FP.dneg xa) (FP.dsub (FP.dadd (FP.dadd xa xb) (FP.dneg xa)) (FP.dadd xa xb)))))))]) (fun _ k => XS.dload X35.here hx rfl (hb hby at_96) rfl k) ?_
    refine own_S (mkF m 99 #[iv r0, iv r1, iv r2, iv r3, .val (.double xa), .second, .val (.double xb), .second, rv cs, .val (.int 1)] [(.int 0)]) (fun _ k => XS.dcmpS X35.here hx rfl (hb hby at_98) rfl (own_cmpV vF vB _) k) ?_
    have hc36 : (0 : Int32) = (0 : Int32) := by decide
    refine own_S (mkF m 102 #[iv r0, iv r1, iv r2, iv r3, .val (.double xa), .second, .val (.double xb), .second, rv cs, .val (.int 1)] []) (fun _ k => XS.ifNo X35.here hx rfl (hb hby at_99) rfl ((if0 _ _).trans (teq hc36).2) k) ?_
    refine own_S (mkF m 103 #[iv r0, iv r1, iv r2, iv r3, .val (.double xa), .second, .val (.double xb), .second, rv cs, .val (.int 1)] [(.int 1)]) (fun _ k => XS.iconst X35.here hx rfl (hb hby at_102) k) ?_
    refine own_S (mkF m 107 #[iv r0, iv r1, iv r2, iv r3, .val (.double xa), .second, .val (.double xb), .second, rv cs, .val (.int 1)] [(.int 1)]) (fun _ k => XS.goto X35.here hx rfl (pc0 := 103) (pc' := 107) rfl (hb hby at_103) (by decide) (by decide) k) ?_
    exact own_retN X35 hx hlk (t := .boolean) hret (by simp) (hb hby at_107) (by rw [e35]; exact ⟨rfl, N35, trivial⟩) (by decide) (by decide)
set_option maxRecDepth 65536 in
set_option maxHeartbeats 40000000 in
theorem comes_1 {Post : Tables → Env → Array Value → State → Outcome → State → Prop} (hpost : ∀ tb e args s v u, (limb_1_1.after args s (.returned v) u = true ∧ limb_1_2.after args s (.returned v) u = true ∧ True) → FrameEnd s (.returned v) u (Jvm.fieldLocs frame_1_writes args s ++ Jvm.arrayLocs frame_1_arrays args s ++ Jvm.staticLocs frame_1_statics s) 16 128 → Post tb e args s (.returned v) u) :
    ArmFor flags0 classFile x code maxLocals ret World_1 tables_1 room_1 Calls_1 rest_1 Pre_1 Post := by
  intro l hfl _ _ p e ha hc hk s m args below hf hA hF happ hP
  obtain ⟨hcalls, hrest, hpre⟩ := hP
  obtain ⟨-, -, -, hnamed, -, -, -, hat⟩ := (Spec.applies_iff hf).mp happ
  obtain ⟨hg, hn⟩ := and_e (Cond.before_iff.mp (show (Jvm.Cond.and given_1 narrow_1).before args s = true from hpre))
  obtain ⟨h1, g0⟩ := and_e hg
  obtain ⟨k0, g1⟩ := and_e g0
  obtain ⟨k1, g2⟩ := and_e g1
  obtain ⟨k2, g3⟩ := and_e g2
  have k3 := g3
  obtain ⟨w0, w1, w2, w3, rfl⟩ : ∃ w0 w1 w2 w3 : Value, args = #[w0, w1, w2, w3] := by
    have hs : args.size = 4 := by simpa [Cond.value, given_1] using h1
    obtain ⟨L⟩ := args
    match L, hs with
    | [w0, w1, w2, w3], _ => exact ⟨w0, w1, w2, w3, rfl⟩
  have hw := fun d (hd : d ∈ tables_1) => atoms_spec (ws := Jvm.Cond.code x code maxLocals ret :: tables_1) hat d (List.mem_cons_of_mem _ hd)
  have hfit : Fit s := fun {y c} hc i hi => by
    obtain ⟨ha, rfl⟩ := Array.getElem?_eq_some_iff.mp hc
    have q := List.all_eq_true.mp ((Array.all_eq_true_iff_forall_mem.mp hF) _ (Array.getElem_mem ha)) i (List.mem_range.mpr hi)
    simpa [Array.getElem?_eq_getElem hi] using q
  obtain ⟨i0, q0⟩ := is_v k0
  obtain rfl : w0 = (.int i0) := Option.some.inj q0
  obtain ⟨i1, q1⟩ := is_v k1
  obtain rfl : w1 = (.int i1) := Option.some.inj q1
  obtain ⟨i2, q2⟩ := is_v k2
  obtain rfl : w2 = (.int i2) := Option.some.inj q2
  obtain ⟨i3, q3⟩ := is_v k3
  obtain rfl : w3 = (.int i3) := Option.some.inj q3
  obtain ⟨n, o, h1, h2, h3, _, L, rfl, ⟨rfl, N, -⟩, hq⟩ := own_rmlaw l s _ hw tables_1 i0 i1 i2 i3  s.heap s.heap.size (Nat.le_refl _)  p e ha hc hk s m _ below hf ((Spec.applies_iff_loose hf).mp happ).1 ⟨rfl, State.Warmed39.refl s, rfl⟩ trivial
  refine ⟨n, _, h1, h2, h3, hpost _ _ _ _ _ _ ⟨Cond.after_iff.mpr rfl, Cond.after_iff.mpr (eq_i res_at (Term.int_eval (1)) rfl), trivial⟩ ⟨hq.1, hq.2.1, (hq.2.2.sift fun y hy => Or.inr (N y hy)).mono (by decide) (by decide)⟩⟩
theorem main_1_1 : Claimed_1_1 := comes_1 fun _ _ _ _ _ _ h hF => ⟨h.1, hF⟩
theorem main_1_2 : Claimed_1_2 := comes_1 fun _ _ _ _ _ _ h hF => ⟨h.2.1, hF⟩
end Jvm.Pilot.@@N@@
namespace Jvm.Pilot.@@N@@
open Jvm Jvm.ClassFile Sem Op Lib Jvm.Free Jvm.Stand Jvm.Pilot.@@N@@.Jvm.D
/-! MADE BY PROGRAM (witnessworld.py) out of the Statement's table words and the real class files: 14 classes; the members and pool entries that the words name. The judged class is class 1, her method 1. -/
namespace start1
open Jvm.ClassFile
def u (s : String) : CpInfo := .utf8 (stringToUtf16 s)
/-- a pool by its gaps: so many unusable entries, then the entry; so many at the end -/
def gap : Nat → List CpInfo → List CpInfo
  | 0, r => r
  | n + 1, r => .unusable :: gap n r
def poolList (es : List (Nat × CpInfo)) (last : Nat) : List CpInfo := es.foldr (fun e r => gap e.1 (e.2 :: r)) (gap last [])
def pool (es : List (Nat × CpInfo)) (last : Nat) : Array CpInfo := ⟨poolList es last⟩
def fileOf (pool : Array CpInfo) (this : Nat) (attrs : Array Attribute := #[]) (ms : Array MethodInfo := #[]) (fl : Nat := 33) (sup : Nat := 0) (ifs : Array Nat := #[]) (fds : Array FieldInfo := #[]) : ClassFile where
  minorVersion := 0
  majorVersion := 65
  constantPool := pool
  accessFlags := fl
  thisClass := this
  superClass := sup
  interfaces := ifs
  fields := fds
  methods := ms
  attributes := attrs
def plain (name : String) (sup : Option ClassId) : Class where
  name := name
  kind := .ordinary
  loader := none
  accessFlags := 33
  super := sup
  interfaces := #[]
  cf := none
  fields := #[]
  methods := #[]
  instanceTypes := #[]
  staticTypes := #[]
  resolved := #[]
  callSites := []
  init := .initialized
  statics := none
  mirror := none

def pool0 : Array CpInfo := pool [(5, u "<init>"), (0, u "()V"), (1, .class_ 10), (1, u "java/lang/Object")] 113

def k0c0 : Code := { maxStack := 0, maxLocals := 1, code := object_method_1_code, exceptionTable := #[], attributes := #[] }
def k0m0 : Method := { name := "<init>", desc := "()V", sig := { parameters := [], returnType := none }, accessFlags := 1, code := some k0c0 }
/-- java/lang/Object -/
def k0 : Class := { plain "java/lang/Object" none with
  accessFlags := 33
  interfaces := #[]
  cf := some (fileOf pool0 8 #[] #[{ accessFlags := 1, nameIndex := 5, descriptorIndex := 6, attributes := #[] }] 33 0 #[] #[])
  fields := #[]
  methods := #[k0m0]
  instanceTypes := #[]
  staticTypes := #[]
  resolved := Array.replicate 124 none
  statics := none }

def pool1 : Array CpInfo := pool [(2, .class_ 4), (0, .nameAndType 5 6), (0, u "java/lang/Object"), (0, u "<init>"), (0, u "()V"), (0, .class_ 8), (0, u "com/example/accrue/accrue/exact/CompensatedSum"), (0, .methodref 7 3), (0, .methodref 7 11), (0, .nameAndType 12 13), (0, u "start"), (0, u "(D)Lcom/example/accrue/accrue/exact/CompensatedSum;"), (0, .methodref 7 15), (0, .nameAndType 16 13), (0, u "add"), (0, .methodref 7 18), (0, .nameAndType 19 20), (0, u "value"), (0, u "()D"), (0, .class_ 22), (0, u "com/example/accrue/accrue/exact/CompensatedSumAddPinLaw"), (2, u "law"), (0, u "(IIII)Z")] 3

def k1m0 : Method := { name := "<init>", desc := "()V", sig := { parameters := [], returnType := none }, accessFlags := 1, code := none }
def k1c1 : Code := { maxStack := 6, maxLocals := 10, code := code, exceptionTable := #[], attributes := #[] }
def k1m1 : Method := { name := "law", desc := "(IIII)Z", sig := { parameters := [.int, .int, .int, .int], returnType := some .boolean }, accessFlags := 9, code := some k1c1 }
/-- com/example/accrue/accrue/exact/CompensatedSumAddPinLaw -/
def k1 : Class := { plain "com/example/accrue/accrue/exact/CompensatedSumAddPinLaw" (some 0) with
  accessFlags := 49
  interfaces := #[]
  cf := some (fileOf pool1 21 #[] #[{ accessFlags := 1, nameIndex := 5, descriptorIndex := 6, attributes := #[] }, { accessFlags := 9, nameIndex := 25, descriptorIndex := 26, attributes := #[] }] 49 2 #[] #[])
  fields := #[]
  methods := #[k1m0, k1m1]
  instanceTypes := #[]
  staticTypes := #[]
  resolved := Array.replicate 30 none
  statics := none }

def pool2 : Array CpInfo := pool [(1, .methodref 2 3), (0, .class_ 4), (0, .nameAndType 5 6), (0, u "java/lang/Object"), (0, u "<init>"), (0, u "()V"), (0, .fieldref 8 9), (0, .class_ 10), (0, .nameAndType 11 12), (0, u "com/example/accrue/accrue/exact/CompensatedSum"), (0, u "sum"), (0, u "D"), (0, .fieldref 8 14), (0, .nameAndType 15 12), (0, u "error"), (8, u "add"), (0, u "(D)Lcom/example/accrue/accrue/exact/CompensatedSum;"), (0, .methodref 27 28), (0, .class_ 29), (0, .nameAndType 30 31), (0, u "java/lang/Double"), (0, u "isNaN"), (0, u "(D)Z"), (2, u "start"), (2, u "value"), (0, u "()D")] 3

def k2c0 : Code := { maxStack := 1, maxLocals := 1, code := prog_3_method_1_code, exceptionTable := #[], attributes := #[] }
def k2m0 : Method := { name := "<init>", desc := "()V", sig := { parameters := [], returnType := none }, accessFlags := 0, code := some k2c0 }
def k2c1 : Code := { maxStack := 3, maxLocals := 3, code := prog_3_method_2_code, exceptionTable := #[], attributes := #[] }
def k2m1 : Method := { name := "start", desc := "(D)Lcom/example/accrue/accrue/exact/CompensatedSum;", sig := { parameters := [.double], returnType := some (.object "com/example/accrue/accrue/exact/CompensatedSum") }, accessFlags := 0, code := some k2c1 }
def k2c2 : Code := { maxStack := 9, maxLocals := 7, code := prog_3_method_3_code, exceptionTable := #[], attributes := #[] }
def k2m2 : Method := { name := "add", desc := "(D)Lcom/example/accrue/accrue/exact/CompensatedSum;", sig := { parameters := [.double], returnType := some (.object "com/example/accrue/accrue/exact/CompensatedSum") }, accessFlags := 0, code := some k2c2 }
def k2c3 : Code := { maxStack := 4, maxLocals := 3, code := prog_3_method_5_code, exceptionTable := #[], attributes := #[] }
def k2m3 : Method := { name := "value", desc := "()D", sig := { parameters := [], returnType := some .double }, accessFlags := 0, code := some k2c3 }
/-- com/example/accrue/accrue/exact/CompensatedSum -/
def k2 : Class := { plain "com/example/accrue/accrue/exact/CompensatedSum" (some 0) with
  accessFlags := 48
  interfaces := #[]
  cf := some (fileOf pool2 8 #[] #[{ accessFlags := 0, nameIndex := 5, descriptorIndex := 6, attributes := #[] }, { accessFlags := 0, nameIndex := 34, descriptorIndex := 25, attributes := #[] }, { accessFlags := 0, nameIndex := 24, descriptorIndex := 25, attributes := #[] }, { accessFlags := 0, nameIndex := 37, descriptorIndex := 38, attributes := #[] }] 48 2 #[] #[{ accessFlags := 2, nameIndex := 11, descriptorIndex := 12, attributes := #[] }, { accessFlags := 2, nameIndex := 15, descriptorIndex := 12, attributes := #[] }])
  fields := #[{ name := "sum", type := .double, accessFlags := 2, slot := 0, constantValue := 0 }, { name := "error", type := .double, accessFlags := 2, slot := 1, constantValue := 0 }]
  methods := #[k2m0, k2m1, k2m2, k2m3]
  instanceTypes := #[.double, .double]
  staticTypes := #[]
  resolved := Array.replicate 42 none
  statics := none }

def pool3 : Array CpInfo := pool [(1, .class_ 2), (0, u "java/io/Serializable"), (0, .class_ 4), (0, u "java/lang/Object")] 2

/-- java/io/Serializable -/
def k3 : Class := { plain "java/io/Serializable" (some 0) with
  accessFlags := 1537
  interfaces := #[]
  cf := some (fileOf pool3 1 #[] #[] 1537 3 #[] #[])
  fields := #[]
  methods := #[]
  instanceTypes := #[]
  staticTypes := #[]
  resolved := Array.replicate 7 none
  statics := none }

def pool4 : Array CpInfo := pool [(2, .class_ 4), (1, u "java/lang/Object"), (0, u "<init>"), (0, u "()V"), (1, .class_ 10), (1, u "java/lang/Number"), (2, .class_ 14), (0, u "java/io/Serializable"), (0, u "serialVersionUID"), (0, u "J")] 20

def k4m0 : Method := { name := "<init>", desc := "()V", sig := { parameters := [], returnType := none }, accessFlags := 1, code := none }
/-- java/lang/Number -/
def k4 : Class := { plain "java/lang/Number" (some 0) with
  accessFlags := 1057
  interfaces := #[3]
  cf := some (fileOf pool4 8 #[] #[{ accessFlags := 1, nameIndex := 5, descriptorIndex := 6, attributes := #[] }] 1057 2 #[13] #[{ accessFlags := 26, nameIndex := 15, descriptorIndex := 16, attributes := #[] }])
  fields := #[{ name := "serialVersionUID", type := .long, accessFlags := 26, slot := 0, constantValue := 0 }]
  methods := #[k4m0]
  instanceTypes := #[]
  staticTypes := #[.long]
  resolved := Array.replicate 37 none
  statics := none }

def pool5 : Array CpInfo := pool [(1, .class_ 2), (0, u "java/lang/Comparable"), (0, .class_ 4), (0, u "java/lang/Object")] 7

/-- java/lang/Comparable -/
def k5 : Class := { plain "java/lang/Comparable" (some 0) with
  accessFlags := 1537
  interfaces := #[]
  cf := some (fileOf pool5 1 #[] #[] 1537 3 #[] #[])
  fields := #[]
  methods := #[]
  instanceTypes := #[]
  staticTypes := #[]
  resolved := Array.replicate 12 none
  statics := none }

def pool6 : Array CpInfo := pool [(1, .class_ 2), (0, u "java/lang/constant/Constable"), (0, .class_ 4), (0, u "java/lang/Object")] 6

/-- java/lang/constant/Constable -/
def k6 : Class := { plain "java/lang/constant/Constable" (some 0) with
  accessFlags := 1537
  interfaces := #[]
  cf := some (fileOf pool6 1 #[] #[] 1537 3 #[] #[])
  fields := #[]
  methods := #[]
  instanceTypes := #[]
  staticTypes := #[]
  resolved := Array.replicate 11 none
  statics := none }

def pool7 : Array CpInfo := pool [(1, .class_ 2), (0, u "java/lang/constant/ConstantDesc"), (0, .class_ 4), (0, u "java/lang/Object")] 32

/-- java/lang/constant/ConstantDesc -/
def k7 : Class := { plain "java/lang/constant/ConstantDesc" (some 0) with
  accessFlags := 1537
  interfaces := #[]
  cf := some (fileOf pool7 1 #[] #[] 1537 3 #[] #[])
  fields := #[]
  methods := #[]
  instanceTypes := #[]
  staticTypes := #[]
  resolved := Array.replicate 37 none
  statics := none }

def pool8 : Array CpInfo := pool [(1, .class_ 2), (0, u "java/lang/Double"), (11, u "(D)Z"), (99, .class_ 116), (1, u "java/lang/Number"), (3, u "value"), (0, u "D"), (2, u "isNaN"), (48, u "TYPE"), (0, u "Ljava/lang/Class;"), (0, .class_ 176), (0, u "java/lang/Comparable"), (0, .class_ 178), (0, u "java/lang/constant/Constable"), (0, .class_ 180), (0, u "java/lang/constant/ConstantDesc"), (0, u "POSITIVE_INFINITY"), (3, u "NEGATIVE_INFINITY"), (2, u "NaN"), (2, u "MAX_VALUE"), (0, u "MIN_NORMAL"), (0, u "MIN_VALUE"), (2, u "SIZE"), (0, u "I"), (1, u "PRECISION"), (1, u "MAX_EXPONENT"), (1, u "MIN_EXPONENT"), (1, u "BYTES"), (3, u "serialVersionUID"), (0, u "J")] 79

def k8c0 : Code := { maxStack := 4, maxLocals := 2, code := jdk_117_method_6_code, exceptionTable := #[], attributes := #[] }
def k8m0 : Method := { name := "isNaN", desc := "(D)Z", sig := { parameters := [.double], returnType := some .boolean }, accessFlags := 9, code := some k8c0 }
/-- java/lang/Double -/
def k8 : Class := { plain "java/lang/Double" (some 4) with
  accessFlags := 49
  interfaces := #[5, 6, 7]
  cf := some (fileOf pool8 1 #[] #[{ accessFlags := 9, nameIndex := 124, descriptorIndex := 14, attributes := #[] }] 49 114 #[175, 177, 179] #[{ accessFlags := 25, nameIndex := 181, descriptorIndex := 121, attributes := #[] }, { accessFlags := 25, nameIndex := 185, descriptorIndex := 121, attributes := #[] }, { accessFlags := 25, nameIndex := 188, descriptorIndex := 121, attributes := #[] }, { accessFlags := 25, nameIndex := 191, descriptorIndex := 121, attributes := #[] }, { accessFlags := 25, nameIndex := 192, descriptorIndex := 121, attributes := #[] }, { accessFlags := 25, nameIndex := 193, descriptorIndex := 121, attributes := #[] }, { accessFlags := 25, nameIndex := 196, descriptorIndex := 197, attributes := #[] }, { accessFlags := 25, nameIndex := 199, descriptorIndex := 197, attributes := #[] }, { accessFlags := 25, nameIndex := 201, descriptorIndex := 197, attributes := #[] }, { accessFlags := 25, nameIndex := 203, descriptorIndex := 197, attributes := #[] }, { accessFlags := 25, nameIndex := 205, descriptorIndex := 197, attributes := #[] }, { accessFlags := 25, nameIndex := 173, descriptorIndex := 174, attributes := #[] }, { accessFlags := 18, nameIndex := 120, descriptorIndex := 121, attributes := #[] }, { accessFlags := 26, nameIndex := 209, descriptorIndex := 210, attributes := #[] }])
  fields := #[{ name := "POSITIVE_INFINITY", type := .double, accessFlags := 25, slot := 0, constantValue := 0 }, { name := "NEGATIVE_INFINITY", type := .double, accessFlags := 25, slot := 1, constantValue := 0 }, { name := "NaN", type := .double, accessFlags := 25, slot := 2, constantValue := 0 }, { name := "MAX_VALUE", type := .double, accessFlags := 25, slot := 3, constantValue := 0 }, { name := "MIN_NORMAL", type := .double, accessFlags := 25, slot := 4, constantValue := 0 }, { name := "MIN_VALUE", type := .double, accessFlags := 25, slot := 5, constantValue := 0 }, { name := "SIZE", type := .int, accessFlags := 25, slot := 6, constantValue := 0 }, { name := "PRECISION", type := .int, accessFlags := 25, slot := 7, constantValue := 0 }, { name := "MAX_EXPONENT", type := .int, accessFlags := 25, slot := 8, constantValue := 0 }, { name := "MIN_EXPONENT", type := .int, accessFlags := 25, slot := 9, constantValue := 0 }, { name := "BYTES", type := .int, accessFlags := 25, slot := 10, constantValue := 0 }, { name := "TYPE", type := (.object "java/lang/Class"), accessFlags := 25, slot := 11, constantValue := 0 }, { name := "value", type := .double, accessFlags := 18, slot := 0, constantValue := 0 }, { name := "serialVersionUID", type := .long, accessFlags := 26, slot := 12, constantValue := 0 }]
  methods := #[k8m0]
  instanceTypes := #[.double]
  staticTypes := #[.double, .double, .double, .double, .double, .double, .int, .int, .int, .int, .int, (.object "java/lang/Class"), .long]
  resolved := Array.replicate 290 none
  statics := none }

def pool9 : Array CpInfo := pool [(1, u "java/lang/Cloneable"), (0, .class_ 1), (0, u "java/lang/Object"), (0, .class_ 3)] 3

/-- java/lang/Cloneable -/
def k9 : Class := { plain "java/lang/Cloneable" (some 0) with
  accessFlags := 1537
  interfaces := #[]
  cf := some (fileOf pool9 2 #[] #[] 1537 4 #[] #[])
  fields := #[]
  methods := #[]
  instanceTypes := #[]
  staticTypes := #[]
  resolved := Array.replicate 8 none
  statics := none }

/-- the primitive byte -/
def k10 : Class := { plain "byte" none with kind := .primitive 'B', accessFlags := 0x411 }
/-- [B -/
def k11 : Class := { plain "[B" (some 0) with kind := .array 10 .byte, interfaces := #[9, 3], accessFlags := 1041 }

/-- the primitive int -/
def k12 : Class := { plain "int" none with kind := .primitive 'I', accessFlags := 0x411 }
/-- [I -/
def k13 : Class := { plain "[I" (some 0) with kind := .array 12 .int, interfaces := #[9, 3], accessFlags := 1041 }

def heap : Heap := #[]
def classes : Array Class := #[k0, k1, k2, k3, k4, k5, k6, k7, k8, k9, k10, k11, k12, k13]
def interned : List (Array UInt16 × Addr) := []
def slotsUsed : Nat := 0
def theMethod : MethodId := ⟨1, 1⟩
def args0 : Array Value := #[.int 5, .int 1, .int 2, .int 3]
def aboutOver (below : List Frame) : State where
  vm := { classes := classes, interned := interned.toArray }
  heap := heap
  slotsUsed := slotsUsed
  threads := #[{ frames := .invoking theMethod args0 :: below }]
def below0 : List Frame := [.native { method := ⟨0, 0⟩, args := #[] }]
def about1 : State := aboutOver below0
def p0 : Program := .bare "" "" ""
def e0 : Env := launch0.env 0 0 0
theorem w_frames : about1.frames = Frame.invoking theMethod args0 :: below0 := rfl
set_option maxRecDepth 65536 in
theorem w_args : argsFit about1.vm theMethod args0 = true := by decide +kernel
set_option maxRecDepth 65536 in
theorem w_heap : heapFits about1 = true := by decide +kernel
set_option maxRecDepth 65536 in
theorem w_runnable : about1.curStatus? = some .runnable := by decide +kernel
set_option maxRecDepth 65536 in
theorem w_alone : about1.alone = true := by decide +kernel
set_option maxRecDepth 65536 in
theorem w_named : about1.methodNamed? x = some theMethod := by decide +kernel
set_option maxRecDepth 65536 in
theorem w_hears : about1.hears theMethod below0 = true := by decide +kernel
set_option maxRecDepth 65536 in
theorem w_ripe : about1.ripe theMethod args0 below0 = true := by decide +kernel
theorem w_running : about1.status = .running := rfl
set_option maxRecDepth 65536 in
theorem w_room : about1.hasRoom e0.platform room_1 = true :=
  launch0.hasRoom_least _ room_1 (by decide +kernel) (by decide +kernel) (by decide +kernel) (by decide +kernel) (by decide +kernel) (by decide +kernel)
theorem allAtoms_all (ts : List Jvm.Cond) (a : Array Jvm.Value) (st : Jvm.State) : (allAtoms ts).before a st = ts.all (fun c => c.before a st) := by
  induction ts with
  | nil => rfl
  | cons c t ih =>
    show (Jvm.Cond.and c (allAtoms t)).before a st = _
    rw [Jvm.Cond.before_and, ih, List.all_cons]
def words1 : List Jvm.Cond := Jvm.Cond.code x code maxLocals ret :: tables_1
/-- a 'code' word, met by the world's own term for the bytes: nothing is compared byte by byte -/
theorem code_word {y : MethodName} {bytes : ByteArray} {mx : Nat} {rt : Option FieldType} {a : Array Value} {s : State} {m : MethodId} {meth : Method} {c : Code} (h1 : s.methodNamed? y = some m) (h2 : s.vm.method? m = some meth) (h3 : meth.code = some c) (h4 : c.code = bytes)
    (h5 : (c.maxLocals == mx && c.exceptionTable.isEmpty && decide (c.maxStack ≤ mostOperands) && decide (meth.sig.returnType = rt) && !meth.locks && decide (parseMethodDescriptor y.desc = some meth.sig)) = true) : (Jvm.Cond.code y bytes mx rt).before a s = true := by
  simp only [Bool.and_eq_true, beq_iff_eq, Bool.not_eq_true', decide_eq_true_eq] at h5
  obtain ⟨⟨⟨⟨⟨g1, g2⟩, g3⟩, g4⟩, g5⟩, g6⟩ := h5
  simp [Cond.before, Cond.holds, Cond.value, h1, h2, h3, h4, g1, g2, g3, g4, g5, g6]
def isCode : Jvm.Cond → Bool
  | .code _ _ _ _ => true
  | _ => false
theorem all_split {L : List Jvm.Cond} {P : Jvm.Cond → Bool} (h1 : L.all (fun c => isCode c || P c) = true) (h2 : ∀ c ∈ L.filter isCode, P c = true) : L.all P = true := by
  refine List.all_eq_true.mpr fun c hc => ?_
  have h := List.all_eq_true.mp h1 c hc
  rcases Bool.eq_false_or_eq_true (isCode c) with hi | hi
  · exact h2 c (List.mem_filter.mpr ⟨hc, hi⟩)
  · simpa [hi] using h
set_option maxRecDepth 65536 in
theorem w_c0 : (Jvm.Cond.code x code maxLocals ret).before args0 about1 = true := code_word (m := ⟨1, 1⟩) (meth := k1m1) (c := k1c1) (by decide +kernel) rfl rfl rfl (by decide +kernel)
set_option maxRecDepth 65536 in
theorem w_c1 : (Jvm.Cond.code ({ cls := "com/example/accrue/accrue/exact/CompensatedSum", name := "<init>", desc := "()V" } : Jvm.MethodName) prog_3_method_1_code (1 : Nat) (Option.none : Option Jvm.ClassFile.FieldType)).before args0 about1 = true := code_word (m := ⟨2, 0⟩) (meth := k2m0) (c := k2c0) (by decide +kernel) rfl rfl rfl (by decide +kernel)
set_option maxRecDepth 65536 in
theorem w_c2 : (Jvm.Cond.code ({ cls := "java/lang/Object", name := "<init>", desc := "()V" } : Jvm.MethodName) object_method_1_code (1 : Nat) (Option.none : Option Jvm.ClassFile.FieldType)).before args0 about1 = true := code_word (m := ⟨0, 0⟩) (meth := k0m0) (c := k0c0) (by decide +kernel) rfl rfl rfl (by decide +kernel)
set_option maxRecDepth 65536 in
theorem w_c3 : (Jvm.Cond.code ({ cls := "com/example/accrue/accrue/exact/CompensatedSum", name := "start", desc := "(D)Lcom/example/accrue/accrue/exact/CompensatedSum;" } : Jvm.MethodName) prog_3_method_2_code (3 : Nat) (Option.some (Jvm.ClassFile.FieldType.object "com/example/accrue/accrue/exact/CompensatedSum"))).before args0 about1 = true := code_word (m := ⟨2, 1⟩) (meth := k2m1) (c := k2c1) (by decide +kernel) rfl rfl rfl (by decide +kernel)
set_option maxRecDepth 65536 in
theorem w_c4 : (Jvm.Cond.code ({ cls := "com/example/accrue/accrue/exact/CompensatedSum", name := "add", desc := "(D)Lcom/example/accrue/accrue/exact/CompensatedSum;" } : Jvm.MethodName) prog_3_method_3_code (7 : Nat) (Option.some (Jvm.ClassFile.FieldType.object "com/example/accrue/accrue/exact/CompensatedSum"))).before args0 about1 = true := code_word (m := ⟨2, 2⟩) (meth := k2m2) (c := k2c2) (by decide +kernel) rfl rfl rfl (by decide +kernel)
set_option maxRecDepth 65536 in
theorem w_c5 : (Jvm.Cond.code ({ cls := "com/example/accrue/accrue/exact/CompensatedSum", name := "value", desc := "()D" } : Jvm.MethodName) prog_3_method_5_code (3 : Nat) (Option.some Jvm.ClassFile.FieldType.double)).before args0 about1 = true := code_word (m := ⟨2, 3⟩) (meth := k2m3) (c := k2c3) (by decide +kernel) rfl rfl rfl (by decide +kernel)
set_option maxRecDepth 65536 in
theorem w_c6 : (Jvm.Cond.code ({ cls := "java/lang/Double", name := "isNaN", desc := "(D)Z" } : Jvm.MethodName) jdk_117_method_6_code (2 : Nat) (Option.some Jvm.ClassFile.FieldType.boolean)).before args0 about1 = true := code_word (m := ⟨8, 0⟩) (meth := k8m0) (c := k8c0) (by decide +kernel) rfl rfl rfl (by decide +kernel)
def codes1 : List Jvm.Cond := [Jvm.Cond.code x code maxLocals ret, Jvm.Cond.code ({ cls := "com/example/accrue/accrue/exact/CompensatedSum", name := "<init>", desc := "()V" } : Jvm.MethodName) prog_3_method_1_code (1 : Nat) (Option.none : Option Jvm.ClassFile.FieldType), Jvm.Cond.code ({ cls := "java/lang/Object", name := "<init>", desc := "()V" } : Jvm.MethodName) object_method_1_code (1 : Nat) (Option.none : Option Jvm.ClassFile.FieldType), Jvm.Cond.code ({ cls := "com/example/accrue/accrue/exact/CompensatedSum", name := "start", desc := "(D)Lcom/example/accrue/accrue/exact/CompensatedSum;" } : Jvm.MethodName) prog_3_method_2_code (3 : Nat) (Option.some (Jvm.ClassFile.FieldType.object "com/example/accrue/accrue/exact/CompensatedSum")), Jvm.Cond.code ({ cls := "com/example/accrue/accrue/exact/CompensatedSum", name := "add", desc := "(D)Lcom/example/accrue/accrue/exact/CompensatedSum;" } : Jvm.MethodName) prog_3_method_3_code (7 : Nat) (Option.some (Jvm.ClassFile.FieldType.object "com/example/accrue/accrue/exact/CompensatedSum")), Jvm.Cond.code ({ cls := "com/example/accrue/accrue/exact/CompensatedSum", name := "value", desc := "()D" } : Jvm.MethodName) prog_3_method_5_code (3 : Nat) (Option.some Jvm.ClassFile.FieldType.double), Jvm.Cond.code ({ cls := "java/lang/Double", name := "isNaN", desc := "(D)Z" } : Jvm.MethodName) jdk_117_method_6_code (2 : Nat) (Option.some Jvm.ClassFile.FieldType.boolean)]
set_option maxRecDepth 65536 in
theorem codes_eq : words1.filter isCode = codes1 := rfl
theorem w_codes : ∀ c ∈ words1.filter isCode, c.before args0 about1 = true := by
  rw [codes_eq]
  intro c hc
  simp only [codes1, List.mem_cons, List.not_mem_nil, or_false] at hc
  rcases hc with rfl | rfl | rfl | rfl | rfl | rfl | rfl
  · exact w_c0
  · exact w_c1
  · exact w_c2
  · exact w_c3
  · exact w_c4
  · exact w_c5
  · exact w_c6
set_option maxRecDepth 65536 in
theorem w_t1 : (words1.take 24).all (fun c => isCode c || c.before args0 about1) = true := by decide +kernel
set_option maxRecDepth 65536 in
theorem w_t2 : (words1.drop 24).all (fun c => isCode c || c.before args0 about1) = true := by decide +kernel
theorem w_tables : (allAtoms (Jvm.Cond.code x code maxLocals ret :: tables_1)).before args0 about1 = true := by
  rw [allAtoms_all]
  show words1.all (fun c => c.before args0 about1) = true
  refine all_split ?_ w_codes
  rw [← List.take_append_drop 24 words1, List.all_append, w_t1, w_t2]
  rfl
set_option maxRecDepth 65536 in
theorem w_case : (Jvm.Cond.and given_1 narrow_1).before args0 about1 = true := by decide +kernel
theorem w_applies : (headSpec (Jvm.Cond.code x code maxLocals ret :: tables_1) room_1).applies x e0.platform about1 = true :=
  (Spec.applies_iff w_frames).mpr ⟨w_running, w_runnable, w_alone, w_named, w_hears, w_ripe, w_room, w_tables⟩
theorem atStart : AtStart classFile x code maxLocals ret World_1 tables_1 room_1 Calls_1 rest_1 Pre_1 launch0 p0 e0 about1 theMethod args0 below0 :=
  ⟨lists_1, trivial, launch0.admits_env _ _ _, launch0.least_env, fairChoices_fair.cas, fairChoices_fair.clock, w_frames, w_args, w_heap, w_applies, trivial, trivial, w_case⟩
end start1
theorem witness_1 : WitnessClaimed_1 := ⟨start1.p0, start1.e0, start1.about1, start1.theMethod, start1.args0, start1.below0, start1.atStart⟩
end Jvm.Pilot.@@N@@
