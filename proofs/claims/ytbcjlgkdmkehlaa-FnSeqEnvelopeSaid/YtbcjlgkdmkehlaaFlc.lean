/- More of doubles: NaN, infinite, finite as tests on words; what Go's math.IsInf tests. No program is in sight. -/
import Derived.Test.YtbcjlgkdmkehlaaFlb
namespace Go.Proofs.Ytbcjlgkdmkehlaa.Fl
open Ieee
def nanB (x : Nat) : Bool := match double.read x with | .nan .. => true | _ => false
def infB (x : Nat) : Bool := match double.read x with | .infinity .. => true | _ => false
def finB (x : Nat) : Bool := match double.read x with | .number .. => true | _ => false
theorem nanB_iff (x : Nat) : nanB x = true ↔ IsNan x := by
  unfold nanB IsNan
  cases h : double.read x <;> simp
theorem finB_iff (x : Nat) : finB x = true ↔ ∃ v, Is x v := by
  rcases trich x with ⟨v, hv⟩ | ⟨s, hs⟩ | hn
  · refine ⟨fun _ => ⟨v, hv⟩, fun _ => ?_⟩
    obtain ⟨s, m, p, h, _⟩ := hv
    unfold finB; rw [h]
  · constructor
    · intro h; unfold finB at h; rw [show double.read x = _ from hs] at h; cases h
    · rintro ⟨v, hv⟩; exact absurd hs (hv.not_inf s)
  · constructor
    · intro h; obtain ⟨s, t, hn⟩ := hn; unfold finB at h; rw [hn] at h; cases h
    · rintro ⟨v, hv⟩; exact absurd hn hv.not_nan
theorem infB_iff (x : Nat) : infB x = true ↔ ∃ s, IsInf x s := by
  unfold infB IsInf
  cases h : double.read x <;> simp
theorem finB_eq (x : Nat) : finB x = (!nanB x && !infB x) := by
  unfold finB nanB infB
  cases double.read x <;> rfl
theorem order_self (x : Nat) : (double.order x x != some .eq) = nanB x := by
  rcases trich x with ⟨v, hv⟩ | ⟨s, hs⟩ | hn
  · rw [order_is hv hv, if_neg (by grind), if_pos rfl]
    have := hv.not_nan
    rw [← nanB_iff] at this
    simp at this
    rw [this]; rfl
  · rw [order_inf_inf hs hs]
    have : nanB x = false := by unfold nanB; rw [show double.read x = _ from hs]
    rw [this]
    cases s <;> rfl
  · rw [order_nan_left hn, (nanB_iff x).2 hn]; rfl
theorem read_abs (x : Nat) : double.read (x % 9223372036854775808) = match double.read x with | .number _ m p => .number false m p | .infinity _ => .infinity false | .nan _ t => .nan false t := by
  unfold Format.read
  rw [double_sw, double_binade, double_inf, double_least]
  have e0 : (2 : Nat) ^ 63 = 9223372036854775808 := by decide
  rw [e0]
  have e1 : x % 9223372036854775808 / 9223372036854775808 = 0 := by omega
  have e2 : x % 9223372036854775808 % 9223372036854775808 = x % 9223372036854775808 := by omega
  rw [e1, e2]
  dsimp only
  generalize x % 9223372036854775808 = r
  by_cases h1 : r < 2 ^ 52
  · rw [if_pos h1, if_pos h1]; rfl
  · rw [if_neg h1, if_neg h1]
    by_cases h2 : r < 2047 * 2 ^ 52
    · rw [if_pos h2, if_pos h2]; rfl
    · rw [if_neg h2, if_neg h2]
      by_cases h3 : r = 2047 * 2 ^ 52
      · rw [if_pos h3, if_pos h3]; rfl
      · rw [if_neg h3, if_neg h3]; rfl
theorem p2_mono {a b : Int} (h : a ≤ b) : p2 a ≤ p2 b := by
  obtain ⟨k, hk⟩ : ∃ k : Nat, b = a + k := ⟨(b - a).toNat, by omega⟩
  rw [hk, p2_add, p2_nat]
  have h1k : (1 : Rat) ≤ ((2 ^ k : Nat) : Rat) := by exact_mod_cast Nat.one_le_two_pow
  have := Rat.mul_le_mul_of_nonneg_left h1k (Rat.le_of_lt (p2_pos a))
  simpa [Rat.mul_one] using this
theorem is_max : Is 9218868437227405311 (((2 ^ 53 - 1 : Nat) : Rat) * p2 971) := ⟨false, 2 ^ 53 - 1, 971, by decide +kernel, by unfold val sg; rfl⟩
theorem inf_law (x : Nat) : (double.order (x % 9223372036854775808) 9218868437227405311 == some .gt) = infB x := by
  have h := read_abs x
  unfold infB
  cases hr : double.read x with
  | number s m p =>
    rw [hr] at h
    dsimp only at h ⊢
    obtain ⟨b1, b2, b3⟩ := read_bounds hr
    have hi : Is (x % 9223372036854775808) ((m : Rat) * p2 p) := ⟨false, m, p, h, by unfold val sg; rfl⟩
    rw [order_is hi is_max]
    have : (m : Rat) * p2 p ≤ ((2 ^ 53 - 1 : Nat) : Rat) * p2 971 := by
      have c1 : (m : Rat) ≤ ((2 ^ 53 - 1 : Nat) : Rat) := by exact_mod_cast (by omega : m ≤ 2 ^ 53 - 1)
      have c2 := p2_mono b3
      have c3 := Rat.mul_le_mul_of_nonneg_right c1 (Rat.le_of_lt (p2_pos p))
      have c4 := Rat.mul_le_mul_of_nonneg_left (c := ((2 ^ 53 - 1 : Nat) : Rat)) c2 (by exact_mod_cast Nat.zero_le (2 ^ 53 - 1))
      exact Rat.le_trans c3 c4
    by_cases c : (m : Rat) * p2 p < ((2 ^ 53 - 1 : Nat) : Rat) * p2 971
    · rw [if_pos c]; rfl
    · rw [if_neg c, if_pos (Rat.le_antisymm this (Rat.not_lt.1 c))]; rfl
  | infinity s =>
    rw [hr] at h
    dsimp only at h ⊢
    rw [order_inf_num (s := false) h is_max]; rfl
  | nan s t =>
    rw [hr] at h
    dsimp only at h ⊢
    rw [order_nan_left ⟨false, t, h⟩]; rfl
end Go.Proofs.Ytbcjlgkdmkehlaa.Fl
