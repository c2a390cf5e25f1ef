/- The law FnZigZagNext holds of every signed number: the unsigned numbers of n from 0 on and of -n-1 follow each other; the call returns true and leaves memory as it was. Conditions: none. -/
import Derived.Test.YtbcjlgkdmkehlaaRows
import Derived.WalkKit
import Derived.ProofKit
import Derived.OpenShut
namespace Go.Proofs.Ytbcjlgkdmkehlaa.fnZigZagNext
open Go.ChangeShapes Go.WideShapes Go.ChangeAt Go.RowKit
set_option linter.unusedVariables false

theorem toNat_ofInt64 (a : Int) : ((BitVec.ofInt 64 a).toNat : Int) = a % 18446744073709551616 := by
  rw [BitVec.toNat_ofInt]; omega
theorem xor_zero (a : Int) (h1 : -9223372036854775808 ≤ a) (h2 : a ≤ 9223372036854775807) : bits .xor .i64 a 0 = a := by
  show IntKind.i64.wrap ((BitVec.ofInt 64 a ^^^ BitVec.ofInt 64 0).toNat : Int) = _
  have e : BitVec.ofInt 64 0 = 0#64 := rfl
  rw [e, BitVec.xor_zero, toNat_ofInt64, IntKind.wrap_i64]
  omega
theorem xor_ones (a : Int) (h1 : -9223372036854775808 ≤ a) (h2 : a ≤ 9223372036854775807) : bits .xor .i64 a (-1) = -a - 1 := by
  show IntKind.i64.wrap ((BitVec.ofInt 64 a ^^^ BitVec.ofInt 64 (-1)).toNat : Int) = _
  have e : BitVec.ofInt 64 (-1) = BitVec.allOnes 64 := by decide
  rw [e, BitVec.xor_allOnes, BitVec.toNat_not]
  have h := toNat_ofInt64 a
  have hlt := (BitVec.ofInt 64 a).isLt
  generalize (BitVec.ofInt 64 a).toNat = k at *
  rw [IntKind.wrap_i64]
  omega
/-- what is written -/
def zz (n : Int) : Int := if n < 0 then -2 * n - 1 else 2 * n
theorem zz_eq (n : Int) (h1 : -9223372036854775808 ≤ n) (h2 : n ≤ 9223372036854775807) : IntKind.u64.wrap (bits BinOp.xor IntKind.i64 (wrap64 (n * 2)) (n / 9223372036854775808)) = zz n := by
  unfold zz
  have w1 : -9223372036854775808 ≤ wrap64 (n * 2) := by unfold wrap64; omega
  have w2 : wrap64 (n * 2) ≤ 9223372036854775807 := by unfold wrap64; omega
  by_cases h : n < 0
  · have e : n / 9223372036854775808 = -1 := by omega
    rw [e, xor_ones _ w1 w2, IntKind.wrap_u64, if_pos h]; unfold wrap64; omega
  · have e : n / 9223372036854775808 = 0 := by omega
    rw [e, xor_zero _ w1 w2, IntKind.wrap_u64, if_neg h]; unfold wrap64; omega

theorem ret_u64 {a b : Int} (h : a = b) : Ending.returned (.int .u64 a) = .returned (.int .u64 b) := by rw [h]
theorem enc (n : Int) (h1 : -9223372036854775808 ≤ n) (h2 : n ≤ 9223372036854775807) (w : World) : Calls Try.prog 94 #[.int .i64 n] w fun e w' => e = .returned (.int .u64 (zz n)) ∧ w = w' := by
  go_enter Try.func94, Try.ntmps94
  go_wp2
  go_ret
  exact ⟨ret_u64 (zz_eq n h1 h2), rfl⟩
theorem zigzag (n : Int) (h1 : -9223372036854775808 ≤ n) (h2 : n ≤ 9223372036854775807) (w : World) : Calls Try.prog 15 #[.int .i64 n] w fun e w' => e = .returned (.int .u64 (zz n)) ∧ w = w' := by
  go_enter Try.func15, Try.ntmps15
  go_wp2_with (first | (go_at_call 94; refine (enc _ h1 h2 _).mono ?_; rintro e w' ⟨rfl, rfl⟩) | go_in)
  go_ret
  exact ⟨rfl, rfl⟩
theorem walk (a0 : Int) (w0 : (Lit.int .i64 a0).wf = true) (w : World) :
    Calls Try.prog 3 #[.int .i64 a0] w fun e w' => e = .returned (.bool true) ∧ Grown w w' := by
  have hb : -9223372036854775808 ≤ a0 ∧ a0 ≤ 9223372036854775807 := by
    simpa [Lit.wf, IntKind.min, IntKind.max, IntKind.signed, IntKind.bits] using w0
  obtain ⟨h1, h2⟩ := hb
  by_cases h : a0 < 0
  · go_enter Try.func3, Try.ntmps3
    go_wp2
    go_ret
    exact ⟨rfl, Grown.refl _⟩
  · have e1 : zz (-a0 - 1) = 2 * a0 + 1 := by unfold zz; rw [if_pos (by omega)]; omega
    have e2 : zz a0 = 2 * a0 := by unfold zz; rw [if_neg h]
    have hd : decide (a0 < 0) = false := by simpa using h
    have hlo : 0 ≤ a0 := by omega
    go_enter Try.func3, Try.ntmps3
    go_wp2_with (first | (go_at_call 15; refine (zigzag _ (by omega) (by omega) _).mono ?_; rintro e w' ⟨rfl, rfl⟩))
    go_ret
    exact ⟨rfl, Grown.refl _⟩
theorem own : ownKnob Try.prog.godebug = none := by kernel_rfl

/-! ### THE ROW's STEP: WRITTEN OUT: LEAVE IT -/
set_option maxRecDepth 100000 in
theorem lifted (os : Os) (started : os.Started) (H : Type) (enc : TypeId × Value → H) :
    ReturnsInHanded {} Try.checked os 3 .any (Rows.fnZigZagNextSpec.pre6 enc Try.prog Try.f3 Rows.fnZigZagNextRow.domain false) (Rows.fnZigZagNextSpec.post enc Try.prog Try.f3 false true false false) := by
  refine returnsInHanded_of_change (C := Try.checked) own started (by kernel_rfl) Try.func3
    (ChangeSpec.witness6 (enc := enc) (C := Try.checked) false ⟨#[], #[.int .i64 0], []⟩ 8 (by kernel_rfl) (by kernel_rfl) (by kernel_rfl) (by kernel_rfl)) ?_
  intro W base args ds gs before hval0 hW hcnd _
  have hval : ∀ (j : Nat) t v, Try.f3.params[j]? = some t → args[j]? = some v → Value.okWide Try.prog W .any base t v := hval0
  have hW' := hW
  obtain ⟨p, q, hA0, hV, rfl, hfz, hnd⟩ := hW
  have hA : DataW.TrodAll enc Try.prog W 0 (fun _ => true) true Try.f3.params.toList args.toList ds p := hA0
  rw [Try.params3] at hA hval
  obtain ⟨v0, vs0, d0, ds0, p0, q0, hargs, rfl, rfl, h0, r0⟩ := trodAll_cons hA
  obtain ⟨rfl, rfl, rfl⟩ := trodAll_nil r0
  obtain rfl : args = #[v0] := by cases args; simp_all
  obtain ⟨rfl, rfl⟩ := trodVars_none hV
  obtain ⟨a0, rfl, rfl, rfl, w0⟩ := open_int Try.underlying2 (hval 0 2 v0 rfl rfl) h0
  clear hA0 hval0
  simp only [List.append_nil] at hW'
  refine (walk a0 w0 W).mono fun e W' ⟨he, hg⟩ => ?_
  subst he
  exact ⟨_, rfl, post_of_same (pa := []) (pv := []) hW' (fun _ _ _ => (trodAll_cons_mk (shut_bool Try.underlying4 _) trodAll_mk0)) (fun sp _ => (trodAll_cons_mk (shut_int Try.underlying2 w0) trodAll_mk0)) (fun _ _ => rfl) rfl
    (hg.frame _) hg.2.1 (ok_one (by kernel_rfl) rfl (okWide_bool_mk Try.underlying4 _))⟩

theorem over : Rows.fnZigZagNextRow.holds Try.pinned (OpenSpec.ofChange Rows.fnZigZagNextSpec) :=
  OpenClaim.holds_of_wide 3 Try.f3 rfl rfl rfl rfl rfl rfl rfl ⟨rfl, rfl, rfl, rfl, rfl⟩ rfl rfl rfl rfl rfl (by kernel_rfl) Try.func3 (by kernel_rfl)
    (of_decide_eq_true (by kernel_rfl)) (by unfold Func.isWrapper; first | (rw [if_pos (by decide +kernel)]; kernel_rfl) | (rw [if_neg (by decide +kernel)]; exact ⟨rfl, rfl⟩))
    (fun os started H enc _ => lifted os started H enc)

/-- ████ THE STATEMENT ████ -/
theorem proved : Rows.FnZigZagNextSaid :=
  over
#print axioms proved
end Go.Proofs.Ytbcjlgkdmkehlaa.fnZigZagNext
