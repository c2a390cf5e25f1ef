/- Comparisons of words that stand for numbers. No program is in sight. -/
import Derived.Test.YtbcjlgkdmkehlaaFlc
namespace Go.Proofs.Ytbcjlgkdmkehlaa.Fl
open Ieee
theorem lt_is {a b : Nat} {u v : Rat} (ha : Is a u) (hb : Is b v) : (double.order a b == some .lt) = decide (u < v) := by
  rw [order_is ha hb]
  by_cases h : u < v
  · rw [if_pos h]; simp [h]
  · rw [if_neg h]
    by_cases h2 : u = v
    · rw [if_pos h2]; simp [h]
    · rw [if_neg h2]; simp [h]
theorem gt_is {a b : Nat} {u v : Rat} (ha : Is a u) (hb : Is b v) : (double.order a b == some .gt) = decide (v < u) := by
  rw [order_is ha hb]
  by_cases h : u < v
  · rw [if_pos h]; simp; grind
  · rw [if_neg h]
    by_cases h2 : u = v
    · rw [if_pos h2]; simp; grind
    · rw [if_neg h2]; simp; grind
theorem eq_is {a b : Nat} {u v : Rat} (ha : Is a u) (hb : Is b v) : (double.order a b == some .eq) = decide (u = v) := by
  rw [order_is ha hb]
  by_cases h : u < v
  · rw [if_pos h]; simp; grind
  · rw [if_neg h]
    by_cases h2 : u = v
    · rw [if_pos h2]; simp [h2]
    · rw [if_neg h2]; simp [h2]
theorem le_is {a b : Nat} {u v : Rat} (ha : Is a u) (hb : Is b v) : (double.order a b == some .lt || double.order a b == some .eq) = decide (u ≤ v) := by
  rw [lt_is ha hb, eq_is ha hb, Bool.eq_iff_iff]; simp; grind
theorem ge_is {a b : Nat} {u v : Rat} (ha : Is a u) (hb : Is b v) : (double.order a b == some .gt || double.order a b == some .eq) = decide (v ≤ u) := by
  rw [gt_is ha hb, eq_is ha hb, Bool.eq_iff_iff]; simp; grind
theorem Is.nanB {a : Nat} {u : Rat} (h : Is a u) : nanB a = false := by
  have := h.not_nan
  rw [← nanB_iff] at this
  simpa using this
theorem ite_is {a b : Nat} {u v : Rat} (c : Bool) (ha : Is a u) (hb : Is b v) : Is (if c = true then a else b) (if c = true then u else v) := by
  cases c
  · exact hb
  · exact ha
end Go.Proofs.Ytbcjlgkdmkehlaa.Fl
