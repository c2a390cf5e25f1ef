/- How the arguments of the laws read: the shape of a value of each type. -/
import Derived.Test.YtbcjlgkdmkehlaaRows
import Derived.Test.YtbcjlgkdmkehlaaBase
import Derived.Lib.SmallJoins
namespace Go.Proofs.Ytbcjlgkdmkehlaa
open Go.ChangeShapes Go.WideShapes Go.ChangeAt Go.RowKit Go.Joins
set_option maxRecDepth 100000
theorem own : ownKnob Try.prog.godebug = none := by kernel_rfl
theorem laidOut : laidOutB Try.prog = true := by kernel_rfl
theorem Try.cells26 : Try.prog.cellsOf 26 = 2 := by kernel_rfl
theorem wf_i64 {n : Int} (h : (Lit.int .i64 n).wf = true) : -9223372036854775808 ≤ n ∧ n ≤ 9223372036854775807 := by
  simpa [Lit.wf, IntKind.min, IntKind.max, IntKind.signed, IntKind.bits] using h
theorem Try.cells32 : Try.prog.cellsOf 32 = 2 := by kernel_rfl
section
variable {H : Type} {enc : TypeId × Value → H} {W : World} {base : Nat} {spare : Nat → Bool} {held : Bool} {r : Reach} {b0 : Nat}
theorem readPt {v : Value} {d : DataW H} {p : List MemPlace} (hv : Value.okWide Try.prog W r b0 /-t-/26 v) (h : DataW.Trod enc Try.prog W base spare held /-t-/26 v d p) :
    ∃ x y : Int, v = .agg #[.int .i64 x, .int .i64 y] ∧ (-9223372036854775808 ≤ x ∧ x ≤ 9223372036854775807) ∧ (-9223372036854775808 ≤ y ∧ y ≤ 9223372036854775807) := by
  obtain ⟨c0, c1, y0, y1, m, rfl, -, -, hy0, hy1⟩ := open_agg2 Try.underlying26 (by kernel_rfl) Try.cells26 hv h
  obtain ⟨a, e0, -, wa⟩ := DataW.trod_int Try.underlying3 hy0
  obtain ⟨b, e1, -, wb⟩ := DataW.trod_int Try.underlying3 hy1
  simp at e0 e1
  subst e0 e1
  exact ⟨a, b, rfl, wf_i64 wa, wf_i64 wb⟩
theorem trod_f64 {t : TypeId} (ht : Try.prog.underlying t = some (.float .f64)) {n : Nat} {c : Value} {y : DataW H × List MemPlace} (h : DataW.trod enc Try.prog W base spare held n t [c] = some y) : ∃ x, c = .float .f64 x ∧ x < 18446744073709551616 := by
  cases n with
  | zero => simp [DataW.trod] at h
  | succ n =>
    simp only [DataW.trod, ht] at h
    cases c <;> simp at h
    obtain ⟨⟨rfl, hw⟩, -⟩ := h
    exact ⟨_, rfl, by simpa [Lit.wf] using hw⟩
theorem readF {v : Value} {d : DataW H} {p : List MemPlace} (hv : Value.okWide Try.prog W r b0 /-t-/29 v) (h : DataW.Trod enc Try.prog W base spare held /-t-/29 v d p) : ∃ x, v = .float .f64 x ∧ x < 18446744073709551616 := by
  obtain ⟨x, rfl, -, -, hw⟩ := open_float Try.underlying29 hv h
  exact ⟨x, rfl, by simpa [Lit.wf] using hw⟩
theorem readXY {v : Value} {d : DataW H} {p : List MemPlace} (hv : Value.okWide Try.prog W r b0 /-t-/32 v) (h : DataW.Trod enc Try.prog W base spare held /-t-/32 v d p) :
    ∃ x y : Nat, v = .agg #[.float .f64 x, .float .f64 y] ∧ x < 18446744073709551616 ∧ y < 18446744073709551616 := by
  obtain ⟨c0, c1, y0, y1, m, rfl, -, -, hy0, hy1⟩ := open_agg2 Try.underlying32 (by kernel_rfl) Try.cells32 hv h
  obtain ⟨a, rfl, ha⟩ := trod_f64 Try.underlying29 hy0
  obtain ⟨b, rfl, hb⟩ := trod_f64 Try.underlying29 hy1
  exact ⟨a, b, rfl, ha, hb⟩
end
end Go.Proofs.Ytbcjlgkdmkehlaa
