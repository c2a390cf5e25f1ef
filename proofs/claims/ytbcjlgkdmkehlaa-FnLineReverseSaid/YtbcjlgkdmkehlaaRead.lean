/- What the arguments are that a row reads. Points, places, numbers and envelopes: each value of the type is made of its cells. Conditions: none. -/
import Derived.Test.YtbcjlgkdmkehlaaRows
import Derived.Test.YtbcjlgkdmkehlaaBase
import Derived.Lib.SmallJoins
namespace Go.Proofs.Ytbcjlgkdmkehlaa
open Go.ChangeShapes Go.WideShapes Go.ChangeAt Go.RowKit Go.Joins
set_option maxRecDepth 100000
theorem own : ownKnob Try.prog.godebug = none := by kernel_rfl
theorem laidOut : laidOutB Try.prog = true := by kernel_rfl
theorem Try.cells26 : Try.prog.cellsOf 26 = 2 := by kernel_rfl
theorem wf_i64 {n : Int} (h : (Lit.int .i64 n).wf = true) : -9223372036854775808 ≤ n ∧ n ≤ 9223372036854775807 := by
  simpa [Lit.wf, IntKind.min, IntKind.max, IntKind.signed, IntKind.bits] using h
theorem Try.cells32 : Try.prog.cellsOf 32 = 2 := by kernel_rfl
section
variable {H : Type} {enc : TypeId × Value → H} {W : World} {base : Nat} {spare : Nat → Bool} {held : Bool} {r : Reach} {b0 : Nat}
theorem readPt {v : Value} {d : DataW H} {p : List MemPlace} (hv : Value.okWide Try.prog W r b0 26 v) (h : DataW.Trod enc Try.prog W base spare held 26 v d p) :
    ∃ x y : Int, v = .agg #[.int .i64 x, .int .i64 y] ∧ (-9223372036854775808 ≤ x ∧ x ≤ 9223372036854775807) ∧ (-9223372036854775808 ≤ y ∧ y ≤ 9223372036854775807) := by
  obtain ⟨c0, c1, y0, y1, m, rfl, -, -, hy0, hy1⟩ := open_agg2 Try.underlying26 (by kernel_rfl) Try.cells26 hv h
  obtain ⟨a, e0, -, wa⟩ := DataW.trod_int Try.underlying3 hy0
  obtain ⟨b, e1, -, wb⟩ := DataW.trod_int Try.underlying3 hy1
  simp at e0 e1
  subst e0 e1
  exact ⟨a, b, rfl, wf_i64 wa, wf_i64 wb⟩
theorem trod_f64 {t : TypeId} (ht : Try.prog.underlying t = some (.float .f64)) {n : Nat} {c : Value} {y : DataW H × List MemPlace} (h : DataW.trod enc Try.prog W base spare held n t [c] = some y) : ∃ x, c = .float .f64 x ∧ x < 18446744073709551616 := by
  cases n with
  | zero => simp [DataW.trod] at h
  | succ n =>
    simp only [DataW.trod, ht] at h
    cases c <;> simp at h
    obtain ⟨⟨rfl, hw⟩, -⟩ := h
    exact ⟨_, rfl, by simpa [Lit.wf] using hw⟩
theorem readF {v : Value} {d : DataW H} {p : List MemPlace} (hv : Value.okWide Try.prog W r b0 29 v) (h : DataW.Trod enc Try.prog W base spare held 29 v d p) : ∃ x, v = .float .f64 x ∧ x < 18446744073709551616 := by
  obtain ⟨x, rfl, -, -, hw⟩ := open_float Try.underlying29 hv h
  exact ⟨x, rfl, by simpa [Lit.wf] using hw⟩
theorem readXY {v : Value} {d : DataW H} {p : List MemPlace} (hv : Value.okWide Try.prog W r b0 32 v) (h : DataW.Trod enc Try.prog W base spare held 32 v d p) :
    ∃ x y : Nat, v = .agg #[.float .f64 x, .float .f64 y] ∧ x < 18446744073709551616 ∧ y < 18446744073709551616 := by
  obtain ⟨c0, c1, y0, y1, m, rfl, -, -, hy0, hy1⟩ := open_agg2 Try.underlying32 (by kernel_rfl) Try.cells32 hv h
  obtain ⟨a, rfl, ha⟩ := trod_f64 Try.underlying29 hy0
  obtain ⟨b, rfl, hb⟩ := trod_f64 Try.underlying29 hy1
  exact ⟨a, b, rfl, ha, hb⟩
theorem cellF {t : TypeId} {v : Value} (ht : Try.prog.underlying t = some (.float .f64)) (h : Cell.okWide Try.prog W r b0 t v) : ∃ x, v = .float .f64 x ∧ x < 18446744073709551616 := by
  simp only [Cell.okWide, ht, Cell.ok] at h
  cases v <;> simp at h
  obtain ⟨rfl, h⟩ := h
  exact ⟨_, rfl, h⟩
theorem cellI {t : TypeId} {v : Value} (ht : Try.prog.underlying t = some (.int .i64)) (h : Cell.okWide Try.prog W r b0 t v) : ∃ x : Int, v = .int .i64 x ∧ -9223372036854775808 ≤ x ∧ x ≤ 9223372036854775807 := by
  simp only [Cell.okWide, ht, Cell.ok] at h
  cases v <;> simp at h
  obtain ⟨rfl, h⟩ := h
  exact ⟨_, rfl, by simpa [IntKind.has, IntKind.min, IntKind.max, IntKind.signed, IntKind.bits] using h⟩
theorem cellB {t : TypeId} {v : Value} (ht : Try.prog.underlying t = some .bool) (h : Cell.okWide Try.prog W r b0 t v) : ∃ x : Bool, v = .bool x := by
  simp only [Cell.okWide, ht, Cell.ok] at h
  cases v <;> simp at h
  exact ⟨_, rfl⟩
theorem rowCells {t : TypeId} {v : Value} {fs : Array Field} {ts : List TypeId} (ht : Try.prog.underlying t = some (.struct fs)) (hts : Try.prog.cellTypes Try.prog.depth t = some ts) (hn : Try.prog.cellsOf t = ts.length) (hv : Value.okWide Try.prog W r b0 t v) :
    ∃ cs : Array Value, v = .agg cs ∧ cs.size = ts.length ∧ ∀ (i : Nat) (u : TypeId) (c : Value), ts[i]? = some u → cs[i]? = some c → Cell.okWide Try.prog W r b0 u c := by
  simp only [Value.okWide, ht] at hv
  obtain ⟨cs, rfl, hs, ts', h1, -, h3⟩ := hv
  rw [hts] at h1
  obtain rfl := Option.some.inj h1
  refine ⟨cs, rfl, hs.trans hn, fun i u c hu hc => ?_⟩
  obtain ⟨u', hu', h⟩ := h3 i c hc
  have hi : i < ts.length := by
    rcases Nat.lt_or_ge i ts.length with h | h
    · exact h
    · rw [List.getElem?_eq_none h] at hu; cases hu
  rw [Nat.mod_eq_of_lt hi, hu] at hu'
  obtain rfl := Option.some.inj hu'
  exact h
theorem array5 {cs : Array Value} (h : cs.size = 5) : ∃ a b c d e, cs = #[a, b, c, d, e] := by
  obtain ⟨l⟩ := cs
  match l, h with
  | [a, b, c, d, e], _ => exact ⟨a, b, c, d, e, rfl⟩
theorem array4 {cs : Array Value} (h : cs.size = 4) : ∃ a b c d, cs = #[a, b, c, d] := by
  obtain ⟨l⟩ := cs
  match l, h with
  | [a, b, c, d], _ => exact ⟨a, b, c, d, rfl⟩
theorem array3 {cs : Array Value} (h : cs.size = 3) : ∃ a b c, cs = #[a, b, c] := by
  obtain ⟨l⟩ := cs
  match l, h with
  | [a, b, c], _ => exact ⟨a, b, c, rfl⟩
theorem readEnv {v : Value} (hv : Value.okWide Try.prog W r b0 68 v) :
    ∃ (f : Bool) (a b c d : Nat), v = .agg #[.bool f, .float .f64 a, .float .f64 b, .float .f64 c, .float .f64 d] ∧ a < 18446744073709551616 ∧ b < 18446744073709551616 ∧ c < 18446744073709551616 ∧ d < 18446744073709551616 := by
  obtain ⟨cs, rfl, hs, hc⟩ := rowCells (ts := [4, 29, 29, 29, 29]) Try.underlying68 (by kernel_rfl) (by kernel_rfl) hv
  obtain ⟨v0, v1, v2, v3, v4, rfl⟩ := array5 hs
  obtain ⟨f, rfl⟩ := cellB Try.underlying4 (hc 0 _ _ rfl rfl)
  obtain ⟨a, rfl, ha⟩ := cellF Try.underlying29 (hc 1 _ _ rfl rfl)
  obtain ⟨b, rfl, hb⟩ := cellF Try.underlying29 (hc 2 _ _ rfl rfl)
  obtain ⟨c, rfl, hc'⟩ := cellF Try.underlying29 (hc 3 _ _ rfl rfl)
  obtain ⟨d, rfl, hd⟩ := cellF Try.underlying29 (hc 4 _ _ rfl rfl)
  exact ⟨f, a, b, c, d, rfl, ha, hb, hc', hd⟩
end
end Go.Proofs.Ytbcjlgkdmkehlaa
