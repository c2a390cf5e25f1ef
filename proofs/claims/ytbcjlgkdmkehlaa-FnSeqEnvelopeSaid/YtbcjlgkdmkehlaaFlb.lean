/- More of doubles as rationals: what is no number, cutting to a whole number, turning to an integer. No program is in sight. -/
import Derived.Test.YtbcjlgkdmkehlaaFl
namespace Go.Proofs.Ytbcjlgkdmkehlaa.Fl
open Ieee

/-- a NaN -/
def IsNan (b : Nat) : Prop := ∃ s t, double.read b = .nan s t
/-- an infinity -/
def IsInf (b : Nat) (s : Bool) : Prop := double.read b = .infinity s
theorem trich (b : Nat) : (∃ v, Is b v) ∨ (∃ s, IsInf b s) ∨ IsNan b := by
  cases h : double.read b with
  | number s m p => exact .inl ⟨_, s, m, p, h, rfl⟩
  | infinity s => exact .inr (.inl ⟨s, h⟩)
  | nan s t => exact .inr (.inr ⟨s, t, h⟩)
theorem Is.unique {b : Nat} {u v : Rat} (h : Is b u) (k : Is b v) : u = v := by
  obtain ⟨s, m, p, h1, h2⟩ := h
  obtain ⟨t, n, q, k1, k2⟩ := k
  rw [h1] at k1
  cases k1
  rw [← h2, ← k2]
theorem IsI.unique {b : Nat} {m n : Int} (h : IsI b m) (k : IsI b n) : m = n := by
  have := Is.unique h k
  exact_mod_cast this
theorem Is.not_nan {b : Nat} {v : Rat} (h : Is b v) : ¬ IsNan b := by
  rintro ⟨s, t, k⟩
  obtain ⟨_, _, _, h1, _⟩ := h
  rw [k] at h1; cases h1
theorem Is.not_inf {b : Nat} {v : Rat} (h : Is b v) (s : Bool) : ¬ IsInf b s := by
  intro k
  obtain ⟨_, _, _, h1, _⟩ := h
  rw [k] at h1; cases h1
theorem order_nan_left {a : Nat} (h : IsNan a) (b : Nat) : double.order a b = none := by
  obtain ⟨s, t, h⟩ := h
  unfold Format.order Datum.order; rw [h]
theorem order_nan_right {b : Nat} (h : IsNan b) (a : Nat) : double.order a b = none := by
  obtain ⟨s, t, h⟩ := h
  unfold Format.order Datum.order; rw [h]
  cases double.read a <;> rfl
theorem order_inf_num {a b : Nat} {s : Bool} {v : Rat} (h : IsInf a s) (k : Is b v) : double.order a b = some (if s then .lt else .gt) := by
  obtain ⟨t, n, q, k1, k2⟩ := k
  unfold Format.order; rw [h, k1]; rfl
theorem order_num_inf {a b : Nat} {s : Bool} {v : Rat} (k : Is a v) (h : IsInf b s) : double.order a b = some (if s then .gt else .lt) := by
  obtain ⟨t, n, q, k1, k2⟩ := k
  unfold Format.order; rw [h, k1]; rfl
theorem order_inf_inf {a b : Nat} {s t : Bool} (h : IsInf a s) (k : IsInf b t) : double.order a b = some (compare t.toNat s.toNat) := by
  unfold Format.order; rw [h, k]; rfl

theorem cut_zero_way (s : Bool) (n d : Nat) : Toward.zero.cut s n d = n / 2 ^ d := by
  unfold Toward.cut
  simp only [Bool.toNat_false, Nat.add_zero, Nat.shiftLeft_eq, Nat.one_mul]
  by_cases h : d ≤ n.log2 + 2
  · rw [Nat.min_eq_left h]
  · have hn : n < 2 ^ (n.log2 + 1) := Nat.lt_log2_self
    have h1 : n < 2 ^ (n.log2 + 2) := Nat.lt_of_lt_of_le hn (Nat.pow_le_pow_right (by decide) (by omega))
    have h2 : n < 2 ^ d := Nat.lt_of_lt_of_le hn (Nat.pow_le_pow_right (by decide) (by omega))
    rw [Nat.min_eq_right (by omega), Nat.div_eq_of_lt h1, Nat.div_eq_of_lt h2]

/-- what a double's significand and place are bounded by -/
theorem read_bounds {b : Nat} {s : Bool} {m : Nat} {p : Int} (h : double.read b = .number s m p) : m < 2 ^ 53 ∧ -1074 ≤ p ∧ p ≤ 971 := by
  unfold Format.read at h
  rw [double_sw, double_binade, double_inf, double_least] at h
  dsimp only at h
  generalize b % 2 ^ 63 = r at h
  by_cases h1 : r < 2 ^ 52
  · rw [if_pos h1] at h; cases h; omega
  · rw [if_neg h1] at h
    by_cases h2 : r < 2047 * 2 ^ 52
    · rw [if_pos h2] at h; cases h
      have := Nat.mod_lt r (show 0 < 2 ^ 52 by decide)
      omega
    · rw [if_neg h2] at h
      split at h <;> cases h

theorem val_shift_zero (s : Bool) (m : Nat) (p : Int) (hp : 0 ≤ p) : val s m p = ((sg s (m * 2 ^ p.toNat) : Int) : Rat) := by
  have e : p = 0 + (p.toNat : Int) := by omega
  have := val_shift s m p.toNat 0
  rw [← e] at this
  rw [← this]; unfold val; rw [p2_zero, Rat.mul_one]

/-- the whole part of a number, toward zero -/
def truncR (v : Rat) : Int := if 0 ≤ v then v.floor else -((-v).floor)
theorem truncR_int (n : Int) : truncR (n : Rat) = n := by
  unfold truncR
  split
  · exact Rat.floor_intCast n
  · have : -(n : Rat) = ((-n : Int) : Rat) := by rw [Rat.intCast_neg]
    rw [this, Rat.floor_intCast, Int.neg_neg]

theorem floor_div (m d : Nat) : ((m : Rat) * p2 (-(d : Int))).floor = ((m / 2 ^ d : Nat) : Int) := by
  have hp : 0 < 2 ^ d := Nat.two_pow_pos d
  have e1 := Nat.div_add_mod m (2 ^ d)
  have e2 := Nat.mod_lt m hp
  generalize m / 2 ^ d = q at *
  generalize m % 2 ^ d = r at *
  have hpos : (0 : Rat) < ((2 ^ d : Nat) : Rat) := by exact_mod_cast hp
  have hinv : ((2 ^ d : Nat) : Rat) * p2 (-(d : Int)) = 1 := by
    rw [← p2_nat, ← p2_add]
    have : (d : Int) + -(d : Int) = 0 := by omega
    rw [this, p2_zero]
  have hm : (m : Rat) = ((2 ^ d : Nat) : Rat) * (q : Rat) + (r : Rat) := by
    rw [← Rat.natCast_mul, ← Rat.natCast_add, e1]
  have hv : (m : Rat) * p2 (-(d : Int)) = (q : Rat) + (r : Rat) * p2 (-(d : Int)) := by rw [hm]; grind
  have hr0 : (0 : Rat) ≤ (r : Rat) * p2 (-(d : Int)) := Rat.mul_nonneg (by exact_mod_cast Nat.zero_le r) (Rat.le_of_lt (p2_pos _))
  have hr1 : (r : Rat) * p2 (-(d : Int)) < 1 := by
    have : (r : Rat) < ((2 ^ d : Nat) : Rat) := by exact_mod_cast e2
    have := Rat.mul_lt_mul_of_pos_right this (p2_pos (-(d : Int)))
    rw [hinv] at this; exact this
  rw [hv]
  apply Int.le_antisymm
  · have : ((q : Rat) + (r : Rat) * p2 (-(d : Int))).floor < (q : Int) + 1 := by
      rw [Rat.floor_lt_iff, Rat.intCast_add, Rat.intCast_natCast, Rat.intCast_one]; grind
    omega
  · rw [Rat.le_floor_iff, Rat.intCast_natCast]; grind

/-- cutting a number to a whole one, toward zero -/
theorem integral_is {b : Nat} {v : Rat} (h : Is b v) : ∃ s m, (double.read b).integral .zero = .number s m 0 ∧ sg s m = truncR v ∧ (m < 2 ^ 53 ∨ v = ((sg s m : Int) : Rat)) := by
  obtain ⟨s, m, p, h1, h2⟩ := h
  obtain ⟨b1, b2, b3⟩ := read_bounds h1
  rw [h1]
  refine ⟨s, Toward.zero.cut s (m <<< p.toNat) (-p).toNat, rfl, ?_⟩
  rw [cut_zero_way, Nat.shiftLeft_eq]
  by_cases hp : 0 ≤ p
  · have e : (-p).toNat = 0 := by omega
    rw [e, Nat.pow_zero, Nat.div_one]
    have hv : v = ((sg s (m * 2 ^ p.toNat) : Int) : Rat) := by
      rw [← h2, val_shift_zero s m p hp]
    rw [hv]
    exact ⟨(truncR_int _).symm, .inr rfl⟩
  · obtain ⟨d, hd⟩ : ∃ d : Nat, p = -(d : Int) := ⟨(-p).toNat, by omega⟩
    subst hd
    have e : (-(d : Int)).toNat = 0 := by omega
    have e2 : (-(-(d : Int))).toNat = d := by omega
    rw [e, e2, Nat.pow_zero, Nat.mul_one]
    have hlt : m / 2 ^ d < 2 ^ 53 := Nat.lt_of_le_of_lt (Nat.div_le_self _ _) b1
    refine ⟨?_, .inl hlt⟩
    rw [← h2]
    have hm0 : (0 : Rat) ≤ (m : Rat) * p2 (-(d : Int)) := Rat.mul_nonneg (by exact_mod_cast Nat.zero_le m) (Rat.le_of_lt (p2_pos _))
    unfold truncR val sg
    cases s
    · simp only [Bool.false_eq_true, if_false, Rat.intCast_natCast]
      rw [if_pos hm0, floor_div]
    · simp only [if_true, Rat.intCast_neg, Rat.intCast_natCast, Rat.neg_mul]
      by_cases h0 : 0 ≤ -((m : Rat) * p2 (-(d : Int)))
      · have hz : (m : Rat) * p2 (-(d : Int)) = 0 := by grind
        rw [if_pos h0, hz]
        have := floor_div m d
        rw [hz] at this
        have z : (0 : Rat).floor = 0 := Rat.floor_intCast 0
        have z2 : (-(0 : Rat)).floor = 0 := by rw [show (-(0 : Rat)) = 0 from by grind]; exact z
        rw [z] at this
        rw [z2]; omega
      · rw [if_neg h0, Rat.neg_neg, floor_div]
theorem truncR_bound {v : Rat} {K : Int} (hK : 0 ≤ K) (h1 : ((-K : Int) : Rat) ≤ v) (h2 : v ≤ ((K : Int) : Rat)) : -K ≤ truncR v ∧ truncR v ≤ K := by
  unfold truncR
  by_cases h : 0 ≤ v
  · rw [if_pos h]
    have a : 0 ≤ v.floor := Rat.le_floor_iff.2 (by simpa using h)
    have b : v.floor ≤ K := by
      have := Rat.floor_monotone h2
      rwa [Rat.floor_intCast] at this
    omega
  · rw [if_neg h]
    have h' : 0 ≤ -v := by grind
    have h2' : -v ≤ ((K : Int) : Rat) := by
      rw [Rat.intCast_neg] at h1; grind
    have a : 0 ≤ (-v).floor := Rat.le_floor_iff.2 (by simpa using h')
    have b : (-v).floor ≤ K := by
      have := Rat.floor_monotone h2'
      rwa [Rat.floor_intCast] at this
    omega
theorem truncR_le {v : Rat} : (0 ≤ v → ((truncR v : Int) : Rat) ≤ v) ∧ (v ≤ 0 → v ≤ ((truncR v : Int) : Rat)) := by
  unfold truncR
  constructor
  · intro h; rw [if_pos h]; exact Rat.floor_le v
  · intro h
    by_cases h0 : 0 ≤ v
    · have : v = 0 := by grind
      rw [if_pos h0, this]
      have : (0 : Rat).floor = 0 := Rat.floor_intCast 0
      rw [this]; simp
    · rw [if_neg h0, Rat.intCast_neg]
      have := Rat.floor_le (-v)
      grind

/-- a word that is made whole -/
def truncW (x : Nat) : Nat := double.write ((double.read x).integral .zero)
theorem truncW_is {x : Nat} {v : Rat} {K : Int} (h : Is x v) (hK : 0 ≤ K) (hK2 : K ≤ 9007199254740992) (h1 : ((-K : Int) : Rat) ≤ v) (h2 : v ≤ ((K : Int) : Rat)) : IsI (truncW x) (truncR v) := by
  obtain ⟨s, m, e1, e2, -⟩ := integral_is h
  obtain ⟨b1, b2⟩ := truncR_bound hK h1 h2
  unfold truncW
  rw [e1]
  have hv : val s m 0 = ((truncR v : Int) : Rat) := by unfold val; rw [p2_zero, Rat.mul_one, e2]
  have := nearest_fits s m 0 (by rw [hv]; exact fits_int _ (by omega))
  rw [hv] at this
  exact this
/-- a number as an integer, toward zero -/
theorem toInt_is {x : Nat} {v : Rat} (h : Is x v) : (double.read x).toInt .zero = some (truncR v) := by
  obtain ⟨s, m, e1, e2, -⟩ := integral_is h
  unfold Datum.toInt
  rw [e1]
  show some (signed s m 0) = _
  rw [signed_eq, Nat.pow_zero]; simp [e2]
theorem toInt_isI {x : Nat} {n : Int} (h : IsI x n) : (double.read x).toInt .zero = some n := by
  rw [toInt_is h, truncR_int]

/-- 2^20 and its like -/
theorem isI_of (neg : Bool) (r m : Nat) (p : Int) (n : Int) (h : double.read (double.word neg r) = .number neg m p) (h2 : val neg m p = (n : Rat)) : IsI (double.word neg r) n := ⟨neg, m, p, h, h2⟩
theorem isI_lo : IsI 13920626448202203136 (-1048576) := by
  refine ⟨true, 2 ^ 52, -32, by decide +kernel, ?_⟩
  have e := p2_add 32 (-32)
  have : ((32 : Int) + -32) = 0 := rfl
  rw [this, p2_zero] at e
  have e2 : p2 32 = ((2 ^ 32 : Nat) : Rat) := p2_nat 32
  rw [e2] at e
  unfold val sg
  grind
theorem isI_hi : IsI 4697254411347427328 1048576 := by
  refine ⟨false, 2 ^ 52, -32, by decide +kernel, ?_⟩
  have e := p2_add 32 (-32)
  have : ((32 : Int) + -32) = 0 := rfl
  rw [this, p2_zero] at e
  have e2 : p2 32 = ((2 ^ 32 : Nat) : Rat) := p2_nat 32
  rw [e2] at e
  unfold val sg
  grind

open Classical in
/-- a whole number from -2^20 to 2^20 -/
noncomputable def wholeB (x : Nat) : Bool := decide (∃ n : Int, IsI x n ∧ -1048576 ≤ n ∧ n ≤ 1048576)
theorem wholeB_iff (x : Nat) : wholeB x = true ↔ ∃ n : Int, IsI x n ∧ -1048576 ≤ n ∧ n ≤ 1048576 := by unfold wholeB; simp

theorem whole_law (x t : Nat) (ht : ¬ IsNan x → t = truncW x) :
    (double.order x t == some .eq && (double.order x 13920626448202203136 == some .gt || double.order x 13920626448202203136 == some .eq) && (double.order x 4697254411347427328 == some .lt || double.order x 4697254411347427328 == some .eq)) = wholeB x := by
  rw [Bool.eq_iff_iff, wholeB_iff]
  rcases trich x with ⟨v, hv⟩ | ⟨s, hs⟩ | hn
  · rw [ht hv.not_nan, order_is hv isI_lo, order_is hv isI_hi]
    simp only [Bool.and_eq_true, Bool.or_eq_true, beq_iff_eq, Option.some.injEq]
    constructor
    · rintro ⟨⟨h1, h2⟩, h3⟩
      have g2 : ((-1048576 : Int) : Rat) ≤ v := by
        by_cases c : v < ((-1048576 : Int) : Rat)
        · rw [if_pos c] at h2; simp at h2
        · grind
      have g3 : v ≤ ((1048576 : Int) : Rat) := by
        by_cases c : v < ((1048576 : Int) : Rat)
        · grind
        · rw [if_neg c] at h3
          by_cases d : v = ((1048576 : Int) : Rat)
          · grind
          · rw [if_neg d] at h3; simp at h3
      have hw := truncW_is (K := 1048576) hv (by omega) (by omega) g2 g3
      rw [order_is hv hw] at h1
      have e : v = ((truncR v : Int) : Rat) := by
        by_cases c : v < ((truncR v : Int) : Rat)
        · rw [if_pos c] at h1; simp at h1
        · rw [if_neg c] at h1
          by_cases d : v = ((truncR v : Int) : Rat)
          · exact d
          · rw [if_neg d] at h1; simp at h1
      obtain ⟨b1, b2⟩ := truncR_bound (K := 1048576) (by omega) g2 g3
      exact ⟨truncR v, hv.congr e, b1, b2⟩
    · rintro ⟨n, hn, b1, b2⟩
      have e := Is.unique hv hn
      subst e
      have c1 : ((-1048576 : Int) : Rat) ≤ (n : Rat) := Rat.intCast_le_intCast.2 b1
      have c2 : (n : Rat) ≤ ((1048576 : Int) : Rat) := Rat.intCast_le_intCast.2 b2
      have hw := truncW_is (K := 1048576) hv (by omega) (by omega) c1 c2
      rw [truncR_int] at hw
      rw [order_is hv hw, if_neg (by grind), if_pos rfl]
      refine ⟨⟨rfl, ?_⟩, ?_⟩
      · rw [if_neg (by grind)]
        by_cases d : (n : Rat) = ((-1048576 : Int) : Rat)
        · rw [if_pos d]; exact .inr rfl
        · rw [if_neg d]; exact .inl rfl
      · by_cases d : (n : Rat) < ((1048576 : Int) : Rat)
        · rw [if_pos d]; exact .inl rfl
        · rw [if_neg d, if_pos (by grind)]; exact .inr rfl
  · constructor
    · intro h
      rw [order_inf_num hs isI_lo, order_inf_num hs isI_hi] at h
      cases s <;> simp at h
    · rintro ⟨n, hn, _⟩
      exact absurd hs (hn.not_inf s)
  · constructor
    · intro h
      rw [order_nan_left hn] at h
      simp at h
    · rintro ⟨n, hk, _⟩
      exact absurd hn hk.not_nan
end Go.Proofs.Ytbcjlgkdmkehlaa.Fl
