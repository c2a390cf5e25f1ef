/- What math.IsNaN, math.IsInf, math.Abs, the laws' gFinite, and the package's fastMin, fastMax return. -/
import Derived.Test.YtbcjlgkdmkehlaaRows
import Derived.Test.YtbcjlgkdmkehlaaPlane
import Derived.Test.YtbcjlgkdmkehlaaFlc
namespace Go.Proofs.Ytbcjlgkdmkehlaa
open Go.ChangeShapes Go.WideShapes Go.ChangeAt Go.RowKit Fl
set_option maxRecDepth 100000

theorem callBits (x : Nat) (w : World) : (callFunc 70 #[.float .f64 x]).run Try.prog w = .ok (.value (.int .u64 x)) w :=
  run_callFunc_extern (e := Extern.MathFloatBits.float64bits) Try.func70 (by kernel_rfl) (by kernel_rfl) (by kernel_rfl) (by kernel_rfl) _ w
theorem callFrombits (n : Int) (w : World) : (callFunc 127 #[.int .u64 n]).run Try.prog w = .ok (.value (.float .f64 n.toNat)) w :=
  run_callFunc_extern (e := Extern.MathFloatBits.float64frombits) Try.func127 (by kernel_rfl) (by kernel_rfl) (by kernel_rfl) (by kernel_rfl) _ w

theorem isNaN (x : Nat) (w : World) : Calls Try.prog 72 #[.float .f64 x] w fun e w' => e = .returned (.bool (nanB x)) ∧ w = w' := by
  have h : (FloatKind.f64.format.order x x != some .eq) = nanB x := order_self x
  generalize nanB x = b at *
  cases b
  all_goals
    go_enter Try.func72, Try.ntmps72
    go_wp2
    go_ret
    exact ⟨rfl, rfl⟩
theorem and_low (x : Nat) : x &&& (18446744073709551615 - 9223372036854775808) = x % 9223372036854775808 := by
  have := Nat.and_two_pow_sub_one_eq_mod x 63
  simpa using this
theorem abs_word (x : Nat) (h : x < 18446744073709551616) : bits .andNot .u64 (x : Int) 9223372036854775808 = ((x % 9223372036854775808 : Nat) : Int) := by
  have := u64_andNot_nat x 9223372036854775808 h (by decide)
  rw [← and_low]; exact this
theorem fabs (x : Nat) (h : x < 18446744073709551616) (w : World) : Calls Try.prog 111 #[.float .f64 x] w fun e w' => e = .returned (.float .f64 (x % 9223372036854775808)) ∧ w = w' := by
  have b := callBits x
  have f := callFrombits
  have a := abs_word x h
  clear h
  generalize hk : x % 9223372036854775808 = k at *
  clear hk
  go_enter Try.func111, Try.ntmps111
  go_wp2
  go_ret
  exact ⟨by simp, rfl⟩
theorem isInf0 (x : Nat) (h : x < 18446744073709551616) (w : World) : Calls Try.prog 82 #[.float .f64 x, .int .i64 0] w fun e w' => e = .returned (.bool (infB x)) ∧ w = w' := by
  have hl : (FloatKind.f64.format.order (x % 9223372036854775808) 9218868437227405311 == some .gt) = infB x := inf_law x
  have A := hid (fabs x h)
  clear h
  generalize infB x = b at *
  generalize x % 9223372036854775808 = k at *
  cases b
  all_goals
    go_enter Try.func82, Try.ntmps82
    go_wp2_with (go_at_call 111; refine (A.out _).mono ?_; rintro e w' ⟨rfl, rfl⟩)
    go_ret
    exact ⟨rfl, rfl⟩
theorem gFinite (x : Nat) (h : x < 18446744073709551616) (w : World) : Calls Try.prog 42 #[.float .f64 x] w fun e w' => e = .returned (.bool (finB x)) ∧ w = w' := by
  have I := hid (isInf0 x h)
  have N := hid (isNaN x)
  clear h
  rw [finB_eq]
  generalize infB x = b at *
  generalize nanB x = c at *
  cases b <;> cases c
  all_goals
    go_enter Try.func42, Try.ntmps42
    go_wp2_with (first | (go_at_call 72; refine (N.out _).mono ?_; rintro e w' ⟨rfl, rfl⟩) | (go_at_call 82; refine (I.out _).mono ?_; rintro e w' ⟨rfl, rfl⟩))
    go_ret
    exact ⟨rfl, rfl⟩
def fmin (a b : Nat) : Nat := if nanB a || (Ieee.double.order a b == some .lt) then a else b
def fmax (a b : Nat) : Nat := if nanB a || (Ieee.double.order a b == some .gt) then a else b
theorem fastMin (a b : Nat) (w : World) : Calls Try.prog 115 #[.float .f64 a, .float .f64 b] w fun e w' => e = .returned (.float .f64 (fmin a b)) ∧ w = w' := by
  have N := hid (isNaN a)
  have E : fmin a b = if nanB a || (FloatKind.f64.format.order a b == some .lt) then a else b := rfl
  generalize fmin a b = r at *
  generalize nanB a = c at *
  cases h : (FloatKind.f64.format.order a b == some .lt) <;> cases c
  all_goals
    rw [h] at E
    simp only [Bool.or_self, Bool.or_true, Bool.true_or, Bool.false_eq_true, if_true, if_false] at E
    subst E
    go_enter Try.func115, Try.ntmps115
    go_wp2_with (go_at_call 72; refine (N.out _).mono ?_; rintro e w' ⟨rfl, rfl⟩)
    go_ret
    exact ⟨rfl, rfl⟩
theorem fastMax (a b : Nat) (w : World) : Calls Try.prog 116 #[.float .f64 a, .float .f64 b] w fun e w' => e = .returned (.float .f64 (fmax a b)) ∧ w = w' := by
  have N := hid (isNaN a)
  have E : fmax a b = if nanB a || (FloatKind.f64.format.order a b == some .gt) then a else b := rfl
  generalize fmax a b = r at *
  generalize nanB a = c at *
  cases h : (FloatKind.f64.format.order a b == some .gt) <;> cases c
  all_goals
    rw [h] at E
    simp only [Bool.or_self, Bool.or_true, Bool.true_or, Bool.false_eq_true, if_true, if_false] at E
    subst E
    go_enter Try.func116, Try.ntmps116
    go_wp2_with (go_at_call 72; refine (N.out _).mono ?_; rintro e w' ⟨rfl, rfl⟩)
    go_ret
    exact ⟨rfl, rfl⟩
end Go.Proofs.Ytbcjlgkdmkehlaa
