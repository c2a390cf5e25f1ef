/- The laws' test of a small geometry; a place's width; whether a kind is a leaf. -/
import Derived.Test.YtbcjlgkdmkehlaaRows
import Derived.Test.YtbcjlgkdmkehlaaWei
namespace Go.Proofs.Ytbcjlgkdmkehlaa
open Go.ChangeShapes Go.WideShapes Go.ChangeAt Go.RowKit
set_option maxRecDepth 100000
/-- a test's answer, and what it tells -/
def Says (P : Bool → Prop) (w : World) (e : Ending) (w' : World) : Prop := ∃ r : Bool, e = .returned (.bool r) ∧ P r ∧ Below w.heap.size w w'
theorem gSmall (k d : Int) (nad : Option Addr) (ncp : Nat) (xs : List Nat) (kad : Option Addr) (kcp : Nat) (ks : List Value) (n p cp : Nat) (w : World) (ho : Own w k d nad ncp xs kad kcp ks) (hk : ∀ u ∈ ks, GeoAt w n u) (hr : RowAt w p 0 [.int .i64 k, .int .i64 d, .slice nad xs.length ncp, .slice kad ks.length kcp]) :
    Calls Try.prog 33 #[.slice (some ⟨p, 0, none⟩) 1 cp] w (Says (fun r => r = true → xs.length < 2000 ∧ ks.length ≤ 2000) w) := by
  obtain ⟨c0, c1, c2, c3, -⟩ := row4.1 hr
  have GW := gWeight n k d nad ncp xs kad kcp ks 2000 w ho hk (by omega) (by omega)
  unfold gv at GW
  replace GW := hid GW
  clear hr ho hk
  go_enter Try.func33, Try.ntmps33
  go_wp2_with fail
  refine wp_loop_rounds 2 ?_
  rw [rounds_succ]
  go_wp2_with (go_at_call 71; (with_reducible refine GW.out.mono ?_); rintro e w' ⟨r, rfl, hr1, hr2, hr3, hbl⟩)
  rw [rounds_succ]
  by_cases h0 : 0 ≤ r
  · have := hr3 h0
    clear hr3
    go_wp2_with fail
    go_ret
    exact ⟨true, rfl, fun _ => by omega, hbl⟩
  · go_wp2_with fail
    go_ret
    exact ⟨false, rfl, (fun h => by cases h), hbl⟩
theorem zzFits2 (k d : Int) (nad : Option Addr) (ncp : Nat) (xs : List Nat) (kad : Option Addr) (kcp : Nat) (ks : List Value) (w : World) :
    Calls Try.prog 29 #[gv k d nad xs.length ncp kad ks.length kcp] w (Says (fun _ => True) w) := by
  unfold gv
  generalize xs.length = nl at *
  generalize ks.length = kl at *
  go_enter Try.func29, Try.ntmps29
  go_wp2
  all_goals (go_ret; exact ⟨_, rfl, trivial, by go_grown⟩)
/-- a type of coordinates that is one -/
def isDim (d : Int) : Prop := d = 0 ∨ d = 1 ∨ d = 2 ∨ d = 3
def widthI (d : Int) : Int := if d = 0 then 2 else if d = 3 then 4 else 3
theorem width (d : Int) (h : isDim d) (w : World) : Calls Try.prog 73 #[.int .i64 d] w fun e w' => e = .returned (.int .i64 (widthI d)) ∧ Below w.heap.size w w' := by
  have b0 : bits BinOp.and IntKind.i64 0 1 = 0 := by decide +kernel
  have b1 : bits BinOp.and IntKind.i64 1 1 = 1 := by decide +kernel
  have b2 : bits BinOp.and IntKind.i64 2 1 = 0 := by decide +kernel
  have b3 : bits BinOp.and IntKind.i64 3 1 = 1 := by decide +kernel
  rcases h with rfl | rfl | rfl | rfl
  all_goals
    go_enter Try.func73, Try.ntmps73
    go_wp2
    go_ret
    exact ⟨rfl, by go_grown⟩
theorem widthS (d : Int) (h : isDim d) (w : World) : Calls Try.prog 73 #[.int .i64 d] w fun e w' => e = .returned (.int .i64 (widthI d)) ∧ w' = w := by
  have b0 : bits BinOp.and IntKind.i64 0 1 = 0 := by decide +kernel
  have b1 : bits BinOp.and IntKind.i64 1 1 = 1 := by decide +kernel
  have b2 : bits BinOp.and IntKind.i64 2 1 = 0 := by decide +kernel
  have b3 : bits BinOp.and IntKind.i64 3 1 = 1 := by decide +kernel
  rcases h with rfl | rfl | rfl | rfl
  all_goals
    go_enter Try.func73, Try.ntmps73
    go_wp2
    go_ret
    exact ⟨rfl, rfl⟩
theorem leafL (w : World) : Calls Try.prog 74 #[.int .i64 2] w fun e w' => e = .returned (.bool true) ∧ Below w.heap.size w w' := by
  go_enter Try.func74, Try.ntmps74
  go_wp2
  go_ret
  exact ⟨rfl, by go_grown⟩
theorem and3 (n : Int) : bits .and .i64 n 3 = n % 4 := by
  have h3 : (BitVec.ofInt 64 3).toNat = 2 ^ 2 - 1 := by decide
  have key : (BitVec.ofInt 64 n &&& BitVec.ofInt 64 3).toNat = (n % ((2 ^ 64 : Nat) : Int)).toNat % 2 ^ 2 := by
    rw [BitVec.toNat_and, BitVec.toNat_ofInt, h3, Nat.and_two_pow_sub_one_eq_mod]
  show IntKind.i64.wrap ((BitVec.ofInt 64 n &&& BitVec.ofInt 64 3).toNat : Nat) = n % 4
  rw [key, IntKind.wrap_i64]
  omega
theorem isDim4 (d : Int) : isDim (d % 4) := by unfold isDim; omega
theorem tDim (d : Int) (w : World) : Calls Try.prog 128 #[.int .i64 d] w fun e w' => e = .returned (.int .u8 (d % 4)) ∧ Below w.heap.size w w' := by
  have h := and3 d
  have h2 : d % 4 % 256 = d % 4 := by omega
  go_enter Try.func128, Try.ntmps128
  go_wp2
  go_ret
  exact ⟨rfl, by go_grown⟩
end Go.Proofs.Ytbcjlgkdmkehlaa
