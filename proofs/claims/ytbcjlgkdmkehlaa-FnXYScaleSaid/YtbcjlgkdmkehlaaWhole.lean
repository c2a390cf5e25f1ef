/- Whether a number is whole and small: Go's math.Trunc by the model's entry; what the laws' gWhole and vWhole return. -/
import Derived.Test.YtbcjlgkdmkehlaaRows
import Derived.Test.YtbcjlgkdmkehlaaPlane
import Derived.Test.YtbcjlgkdmkehlaaFlb
namespace Go.Proofs.Ytbcjlgkdmkehlaa
open Go.ChangeShapes Go.WideShapes Go.ChangeAt Go.RowKit Fl
set_option maxRecDepth 100000


theorem archTrunc (x : Nat) (w : World) : (callFunc 100 #[.float .f64 x]).run Try.prog w = ((Extern.MathFloor.toIntegral "math.archTrunc" .zero #[.float .f64 x]).run Try.prog w).andThen fun v w' => .ok (.value v) w' :=
  run_callFunc_extern Try.func100 (by kernel_rfl) (by kernel_rfl) (by kernel_rfl) (by kernel_rfl) _ w
theorem archTrunc_num (x : Nat) (h : ¬ IsNan x) (w : World) : (callFunc 100 #[.float .f64 x]).run Try.prog w = .ok (.value (.float .f64 (truncW x))) w := by
  rw [archTrunc]
  unfold Extern.MathFloor.toIntegral
  show (((match Ieee.double.read x with | .nan s t => _ | d => _) : Sem Value).run Try.prog w).andThen _ = _
  cases hr : Ieee.double.read x with
  | nan s t => exact absurd ⟨s, t, hr⟩ h
  | number s m p => simp only [Sem.run_pure, Result.andThen, truncW, hr]; rfl
  | infinity s => simp only [Sem.run_pure, Result.andThen, truncW, hr]; rfl
theorem archTrunc_nan (x : Nat) (h : IsNan x) (w : World) : ∃ r k, (callFunc 100 #[.float .f64 x]).run Try.prog w = .ok (.value (.float .f64 r)) (w.drewN k) := by
  rw [archTrunc]
  obtain ⟨s, t, hr⟩ := h
  unfold Extern.MathFloor.toIntegral
  show ∃ r k, (((match Ieee.double.read x with | .nan s t => _ | d => _) : Sem Value).run Try.prog w).andThen _ = _
  rw [hr]
  dsimp only
  split
  · exact ⟨x, 0, rfl⟩
  · simp only [Sem.run_bind, run_choose_drew]
    split
    · exact ⟨_, 0, rfl⟩
    · exact ⟨_, 1, rfl⟩
theorem trunc_num (x : Nat) (h : ¬ IsNan x) (w : World) : Calls Try.prog 63 #[.float .f64 x] w fun e w' => e = .returned (.float .f64 (truncW x)) ∧ w = w' := by
  have H := archTrunc_num x h
  clear h
  go_enter Try.func63, Try.ntmps63
  go_wp2
  go_ret
  exact ⟨rfl, rfl⟩
def SomeF (w : World) (e : Ending) (w' : World) : Prop := ∃ r, e = .returned (.float .f64 r) ∧ Below w.heap.size w w'
theorem trunc_nan (x : Nat) (h : IsNan x) (w : World) : Calls Try.prog 63 #[.float .f64 x] w (SomeF w) := by
  obtain ⟨r, k, H⟩ := archTrunc_nan x h w
  clear h
  go_enter Try.func63, Try.ntmps63
  go_wp2
  go_ret
  exact ⟨r, rfl, ⟨rfl, rfl, rfl, Nat.le_refl _, fun _ _ => rfl⟩⟩

abbrev oeq (x t : Nat) : Bool := FloatKind.f64.format.order x t == some .eq
theorem gWhole_num (x : Nat) (h : ¬ IsNan x) (w : World) : Calls Try.prog 26 #[.float .f64 x] w fun e w' => e = .returned (.bool (wholeB x)) ∧ Below w.heap.size w w' := by
  have L := hid (whole_law x (truncW x) (fun _ => rfl))
  have T := hid (trunc_num x h)
  clear h
  change Hid ((FloatKind.f64.format.order x (truncW x) == some .eq && (FloatKind.f64.format.order x 13920626448202203136 == some .gt || FloatKind.f64.format.order x 13920626448202203136 == some .eq) && (FloatKind.f64.format.order x 4697254411347427328 == some .lt || FloatKind.f64.format.order x 4697254411347427328 == some .eq)) = wholeB x) at L
  cases e1 : (FloatKind.f64.format.order x (truncW x) == some .eq) <;> cases e2 : (FloatKind.f64.format.order x 13920626448202203136 == some .gt || FloatKind.f64.format.order x 13920626448202203136 == some .eq) <;> cases e3 : (FloatKind.f64.format.order x 4697254411347427328 == some .lt || FloatKind.f64.format.order x 4697254411347427328 == some .eq)
  all_goals
    rw [e1, e2, e3] at L
    go_enter Try.func26, Try.ntmps26
    go_wp2_with (go_at_call 63; refine (T.out _).mono ?_; rintro e w' ⟨rfl, rfl⟩)
    go_ret
    exact ⟨ret_bool L.out, Below.refl _ _⟩
theorem gWhole_nan (x : Nat) (h : IsNan x) (w : World) : Calls Try.prog 26 #[.float .f64 x] w fun e w' => e = .returned (.bool (wholeB x)) ∧ Below w.heap.size w w' := by
  have L : wholeB x = false := by
    rw [← whole_law x 0 (fun k => absurd h k), order_nan_left h]; rfl
  replace L := hid L
  have N : ∀ t, (FloatKind.f64.format.order x t == some .eq) = false := fun t => by
    show (Ieee.double.order x t == some .eq) = false
    rw [order_nan_left h]; rfl
  have T := hid (trunc_nan x h)
  clear h
  go_enter Try.func26, Try.ntmps26
  go_wp2_with (go_at_call 63; refine (T.out _).mono ?_; rintro e w' ⟨r, rfl, hbl⟩)
  go_ret
  exact ⟨ret_bool L.out.symm, hbl⟩
theorem gWhole (x : Nat) (w : World) : Calls Try.prog 26 #[.float .f64 x] w fun e w' => e = .returned (.bool (wholeB x)) ∧ Below w.heap.size w w' := by
  by_cases h : IsNan x
  · exact gWhole_nan x h w
  · exact gWhole_num x h w
end Go.Proofs.Ytbcjlgkdmkehlaa
