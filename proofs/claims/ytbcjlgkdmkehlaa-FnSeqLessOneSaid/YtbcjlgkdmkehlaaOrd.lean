/- The order of floats: turned about; of two that are no NaN and not equal just one is less. What the order of two sequences tells, both ways. -/
import Derived.Test.YtbcjlgkdmkehlaaFlc
import Derived.Test.YtbcjlgkdmkehlaaLss
namespace Go.Proofs.Ytbcjlgkdmkehlaa
open Fl Ieee
theorem order_swap (a b : Nat) : double.order b a = (double.order a b).map Ordering.swap := by
  unfold Format.order
  generalize double.read a = x
  generalize double.read b = y
  cases x <;> cases y <;> simp [Datum.order]
  · rw [Int.min_comm]; exact Std.OrientedCmp.eq_swap
  · rename_i n; cases n <;> rfl
  · rename_i n _ _ _; cases n <;> rfl
  · exact Std.OrientedCmp.eq_swap
theorem order_some (a b : Nat) (ha : nanB a = false) (hb : nanB b = false) : ∃ o, double.order a b = some o := by
  unfold nanB at ha hb
  unfold Format.order
  revert ha hb
  generalize double.read a = x
  generalize double.read b = y
  cases x <;> cases y <;> simp [Datum.order]
theorem sameV_comm (a b : Nat) : sameV a b = sameV b a := by
  show (double.order a b == some .eq) = (double.order b a == some .eq)
  rw [order_swap a b]
  cases double.order a b with
  | none => rfl
  | some o => cases o <;> rfl
theorem ltV_not (a b : Nat) (ha : nanB a = false) (hb : nanB b = false) (h : sameV a b = false) : ltV a b = !ltV b a := by
  show (double.order a b == some .lt) = !(double.order b a == some .lt)
  have h' : (double.order a b == some .eq) = false := h
  rw [order_swap a b]
  obtain ⟨o, ho⟩ := order_some a b ha hb
  rw [ho] at h' ⊢
  cases o <;> first | rfl | cases h'
theorem ltXY_not (x y ox oy : Nat) (hx : nanB x = false) (hy : nanB y = false) (hox : nanB ox = false) (hoy : nanB oy = false) (h : (sameV x ox && sameV y oy) = false) : ltXY x y ox oy = !ltXY ox oy x y := by
  unfold ltXY
  rw [sameV_comm ox x]
  cases hs : sameV x ox with
  | true =>
    rw [hs, Bool.true_and] at h
    exact ltV_not y oy hy hoy h
  | false => exact ltV_not x ox hx hox hs
/-- as many places, each with the same X and Y -/
def SameR (q1 q2 : Nat) (X1 Y1 X2 Y2 : Nat → Nat) (s : Bool) : Prop := s = true ↔ (q1 = q2 ∧ ∀ j, j < q1 → (sameV (X1 j) (X2 j) && sameV (Y1 j) (Y2 j)) = true)
theorem lessLaw (q1 q2 : Nat) (X1 Y1 X2 Y2 : Nat → Nat) (l m s : Bool) (h1 : LessR q1 q2 X1 Y1 X2 Y2 l) (h2 : LessR q2 q1 X2 Y2 X1 Y1 m) (h3 : SameR q1 q2 X1 Y1 X2 Y2 s)
    (n1 : ∀ i, i < q1 → nanB (X1 i) = false ∧ nanB (Y1 i) = false) (n2 : ∀ i, i < q2 → nanB (X2 i) = false ∧ nanB (Y2 i) = false) : (l = true ∧ m = false ∧ s = false) ∨ (l = false ∧ m = true ∧ s = false) ∨ (l = false ∧ m = false ∧ s = true) := by
  obtain ⟨i, hi1, hi2, hi, ht⟩ := h1
  obtain ⟨k, hk2, hk1, hk, hu⟩ := h2
  have hk' : ∀ j, j < k → (sameV (X1 j) (X2 j) && sameV (Y1 j) (Y2 j)) = true := fun j hj => by rw [sameV_comm (X1 j), sameV_comm (Y1 j)]; exact hk j hj
  unfold SameR at h3
  have sF : (¬ (q1 = q2 ∧ ∀ j, j < q1 → (sameV (X1 j) (X2 j) && sameV (Y1 j) (Y2 j)) = true)) → s = false := fun h => by
    cases s with
    | false => rfl
    | true => exact absurd (h3.1 rfl) h
  rcases ht with ⟨hi3, rfl⟩ | ⟨hi3, hi4, rfl⟩ | ⟨hi3, hi4, hi5, rfl⟩
  · rcases hu with ⟨hk3, rfl⟩ | ⟨hk3, hk4, rfl⟩ | ⟨hk3, hk4, hk5, rfl⟩
    · refine .inr (.inr ⟨rfl, rfl, h3.2 ⟨by omega, fun j hj => hi j (by omega)⟩⟩)
    · exact .inr (.inl ⟨rfl, rfl, sF fun h => by omega⟩)
    · have := hi k (by omega)
      rw [sameV_comm (X1 k), sameV_comm (Y1 k), hk5] at this
      cases this
  · rcases hu with ⟨hk3, rfl⟩ | ⟨hk3, hk4, rfl⟩ | ⟨hk3, hk4, hk5, rfl⟩
    · exact .inl ⟨rfl, rfl, sF fun h => by omega⟩
    · omega
    · have := hi k (by omega)
      rw [sameV_comm (X1 k), sameV_comm (Y1 k), hk5] at this
      cases this
  · have hsf : s = false := sF fun h => by have := h.2 i hi3; rw [hi5] at this; cases this
    rcases hu with ⟨hk3, rfl⟩ | ⟨hk3, hk4, rfl⟩ | ⟨hk3, hk4, hk5, rfl⟩
    · have := hk' i (by omega); rw [hi5] at this; cases this
    · have := hk' i (by omega); rw [hi5] at this; cases this
    · have e : i = k := by
        rcases Nat.lt_trichotomy i k with h | h | h
        · have := hk' i h; rw [hi5] at this; cases this
        · exact h
        · have := hi k h; rw [sameV_comm (X1 k), sameV_comm (Y1 k), hk5] at this; cases this
      subst e
      have hn := ltXY_not (X1 i) (Y1 i) (X2 i) (Y2 i) (n1 i hi3).1 (n1 i hi3).2 (n2 i hi4).1 (n2 i hi4).2 hi5
      cases hl : ltXY (X1 i) (Y1 i) (X2 i) (Y2 i) <;> cases hm : ltXY (X2 i) (Y2 i) (X1 i) (Y1 i) <;> rw [hl, hm] at hn
      · simp at hn
      · exact .inr (.inl ⟨rfl, rfl, hsf⟩)
      · exact .inl ⟨rfl, rfl, hsf⟩
      · simp at hn
end Go.Proofs.Ytbcjlgkdmkehlaa
