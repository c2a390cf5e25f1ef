/- The laws' reverse of a line string's whole places; whether two line strings are the same. Condition: at most 2000 numbers. -/
import Derived.Test.YtbcjlgkdmkehlaaRows
import Derived.Test.YtbcjlgkdmkehlaaSrv
import Derived.Test.YtbcjlgkdmkehlaaLrv
import Derived.Test.YtbcjlgkdmkehlaaSnm
namespace Go.Proofs.Ytbcjlgkdmkehlaa
open Go.ChangeShapes Go.WideShapes Go.ChangeAt Go.RowKit
set_option maxRecDepth 100000
set_option linter.unusedSimpArgs false
theorem take_step (ys : List Nat) (p n : Nat) (h : p < ys.length) : ((ys.map (Value.float .f64)).drop p).take (n + 1) = .float .f64 (ys.getD p 0) :: ((ys.map (Value.float .f64)).drop (p + 1)).take n := by
  rw [List.drop_eq_getElem_cons (by rw [List.length_map]; exact h), List.take_succ_cons, List.getElem_map, List.getD_eq_getElem?_getD, List.getElem?_eq_getElem h]
  rfl
def zAt (dm : Int) (ys : List Nat) (k : Nat) : Nat := if zB dm then ys.getD (k * widthN dm + 2) 0 else 0
def mAt (dm : Int) (ys : List Nat) (k : Nat) : Nat := if mB dm then ys.getD (k * widthN dm + widthN dm - 1) 0 else 0
theorem places4 (dm : Int) (h : isDim dm) (ad : Option Addr) (cp : Nat) (ys : List Nat) (hl : ys.length < 2000) (w : World) (hF : FRow w ad ys) :
    Calls Try.prog 36 #[.slice ad ys.length cp, .int .i64 dm] w fun e w' => ∃ a c, e = .returned (.slice a (ys.length / widthN dm) c) ∧ ys.length / widthN dm ≤ c ∧ C4At w.heap.size w' a (ys.length / widthN dm) (fun k => ys.getD (k * widthN dm) 0) (fun k => ys.getD (k * widthN dm + 1) 0) (zAt dm ys) (mAt dm ys) ∧ Below w.heap.size w w' := by
  refine (places dm h ad cp ys hl w hF).mono fun e w' ⟨v, he, hown, hb⟩ => ?_
  subst he
  have hown0 := hown
  obtain ⟨_, hv | ⟨gp, cap, cur, rfl, hbase, _, hnc, _⟩⟩ := hown0
  · obtain ⟨rfl, hq0⟩ := hv
    exact ⟨none, 0, by rw [hq0], by omega, fun i hi => absurd hi (by omega), hb⟩
  · have C := hown.cells (g := gp) rfl
    have key : ∀ k r u, k < ys.length / widthN dm → r < 4 → (placeAt (widthN dm) (zB dm) (mB dm) ys k)[r]? = some u → w'.cell? ⟨gp, k * 4 + r, none⟩ = some u := by
      intro k r u hk hr hu
      have := C (k * 4 + r) u (by unfold placesOf; rw [flat4 _ (fun _ => rfl) _ k r hk hr]; exact hu)
      rw [add_plain0, Nat.zero_add] at this
      exact this
    exact ⟨some ⟨gp, 0, none⟩, cap, rfl, hnc, fun k hk => ⟨gp, rfl, hbase, key k 0 _ hk (by omega) rfl, key k 1 _ hk (by omega) rfl, key k 2 _ hk (by omega) rfl, key k 3 _ hk (by omega) rfl⟩, hb⟩
theorem numsAt (dm : Int) (h : isDim dm) (q : Nat) (ys : List Nat) (hl : ys.length = q * widthN dm) (k : Nat) (hk : k < q) (gp o cp : Nat) (w : World) (h0 : w.cell? ⟨gp, o, none⟩ = some (.float .f64 (ys.getD (k * widthN dm) 0))) (h1 : w.cell? ⟨gp, o + 1, none⟩ = some (.float .f64 (ys.getD (k * widthN dm + 1) 0))) (h2 : w.cell? ⟨gp, o + 2, none⟩ = some (.float .f64 (zAt dm ys k))) (h3 : w.cell? ⟨gp, o + 3, none⟩ = some (.float .f64 (mAt dm ys k))) :
    Calls Try.prog 87 #[.slice (some ⟨gp, o, none⟩) 1 cp, .int .i64 dm] w fun e w' => ∃ v, e = .returned v ∧ w'.ownsRow w.heap.size 29 1 v (widthN dm) (chunk (widthN dm) k (ys.map (Value.float .f64))) ∧ Below w.heap.size w w' := by
  have hk1 : (k + 1) * widthN dm ≤ q * widthN dm := Nat.mul_le_mul_right _ hk
  rw [Nat.succ_mul, ← hl] at hk1
  unfold chunk
  rcases h with rfl | rfl | rfl | rfl
  · have e : widthN 0 = 2 := rfl
    rw [e] at hk1 ⊢
    rw [take_step ys _ 1 (by omega), take_step ys _ 0 (by omega), List.take_zero]
    exact nums0 gp o cp _ _ _ _ w h0 h1 h2 h3
  · have e : widthN 1 = 3 := rfl
    rw [e] at hk1 ⊢
    rw [take_step ys _ 2 (by omega), take_step ys _ 1 (by omega), take_step ys _ 0 (by omega), List.take_zero]
    exact nums1 gp o cp _ _ _ _ w h0 h1 h2 h3
  · have e : widthN 2 = 3 := rfl
    rw [e] at hk1 ⊢
    rw [take_step ys _ 2 (by omega), take_step ys _ 1 (by omega), take_step ys _ 0 (by omega), List.take_zero]
    exact nums2 gp o cp _ _ _ _ w h0 h1 h2 h3
  · have e : widthN 3 = 4 := rfl
    rw [e] at hk1 ⊢
    rw [take_step ys _ 3 (by omega), take_step ys _ 2 (by omega), take_step ys _ 1 (by omega), take_step ys _ 0 (by omega), List.take_zero]
    exact nums3 gp o cp _ _ _ _ w h0 h1 h2 h3
theorem specReverse (dm : Int) (h : isDim dm) (ad : Option Addr) (cp q : Nat) (ys : List Nat) (hl : ys.length = q * widthN dm) (hn : ys.length < 2000) (w : World) (hF : FRow w ad ys) :
    Calls Try.prog 48 #[.agg #[.int .i64 2, .int .i64 dm, .slice ad ys.length cp, .slice none 0 0]] w fun e w' => ∃ v B, e = .returned (.agg #[.int .i64 2, .int .i64 dm, v, .slice none 0 0]) ∧ w.heap.size ≤ B ∧ w'.ownsRow B 29 1 v ys.length ((revN (widthN dm) q ys q).map (Value.float .f64)) ∧ Below w.heap.size w w' := by
  have hwp := widthN_pos dm
  have hdiv : ys.length / widthN dm = q := by rw [hl]; exact Nat.mul_div_cancel _ (by omega)
  have hq2 : q * 2 ≤ q * widthN dm := Nat.mul_le_mul_left _ hwp.1
  have hlm : (ys.map (Value.float .f64)).length = q * widthN dm := by rw [List.length_map]; exact hl
  have R := specRev dm ad ys.length cp q (widthN dm) (by omega) (by omega) hwp.2 (fun k => ys.getD (k * widthN dm) 0) (fun k => ys.getD (k * widthN dm + 1) 0) (zAt dm ys) (mAt dm ys) (fun k => chunk (widthN dm) k (ys.map (Value.float .f64))) w
    (fun k hk => chunk_length (widthN dm) k q _ hlm hk)
    (fun k _ u hu => by
      obtain ⟨x, _, rfl⟩ := List.mem_map.1 (List.mem_of_mem_drop (List.mem_of_mem_take hu))
      rfl)
    (fun w' hb => by
      have := places4 dm h ad cp ys hn w' (hF.below hb)
      rw [hdiv] at this
      exact this)
    (fun k gp o cp' w' hk h0 h1 h2 h3 => numsAt dm h q ys hl k hk gp o cp' w' h0 h1 h2 h3)
  rw [hl]
  rw [hl] at R
  refine R.mono fun e w' ⟨v, B, h1, h2, h3, h4⟩ => ⟨v, B, h1, h2, ?_, h4⟩
  rw [← revN_map]
  exact h3
theorem own_frow {w : World} {B m : Nat} {v : Value} {rv : List Nat} (h : w.ownsRow B 29 1 v m (rv.map (Value.float .f64))) : ∃ a c, v = .slice a rv.length c ∧ FRow w a rv := by
  have hlen : rv.length = m := by have := h.1; rw [List.length_map, Nat.mul_one] at this; exact this
  have h0 := h
  obtain ⟨_, hv | ⟨g, cap, cur, rfl, _⟩⟩ := h0
  · refine ⟨none, 0, by rw [hv.1, hlen, hv.2], fun i x hx => ?_⟩
    have := (List.getElem?_eq_some_iff.1 hx).1
    omega
  · refine ⟨some ⟨g, 0, none⟩, cap, by rw [hlen], fun i x hx => ⟨g, 0, rfl, ?_⟩⟩
    have := h.cells (g := g) rfl i (.float .f64 x) (by rw [List.getElem?_map, hx]; rfl)
    rw [add_plain0] at this
    exact this
theorem sameGeoms0 (w : World) : Calls Try.prog 84 #[.slice none 0 0, .slice none 0 0] w fun e w' => e = .returned (.bool true) ∧ Below w.heap.size w w' := by
  go_enter Try.func84, Try.ntmps84
  go_wp2_with fail
  refine wp_loop_rounds 1 ?_
  rw [rounds_succ]
  go_wp2_with fail
  go_ret
  exact ⟨rfl, by go_grown⟩
theorem sameGeom (dm : Int) (a b : Option Addr) (c1 c2 : Nat) (rv : List Nat) (hl : rv.length < 2000) (w : World) (h1 : FRow w a rv) (h2 : FRow w b rv) :
    Calls Try.prog 46 #[.agg #[.int .i64 2, .int .i64 dm, .slice a rv.length c1, .slice none 0 0], .agg #[.int .i64 2, .int .i64 dm, .slice b rv.length c2, .slice none 0 0]] w fun e w' => e = .returned (.bool true) ∧ Below w.heap.size w w' := by
  have SN := hid (fun w' (hb : Below w.heap.size w w') => sameNums a b c1 c2 rv rv (by omega) (by omega) w' (h1.below hb) (h2.below hb))
  rw [decide_eq_true rfl] at SN
  have S0 := hid sameGeoms0
  clear h1 h2
  generalize rv.length = m at *
  go_enter Try.func46, Try.ntmps46
  go_wp2_with fail
  refine lettered (R := fun wz => Calls _ _ _ wz _) (fun wz => wz.cell? ⟨w.heap.size, 0, none⟩ = some (.int .i64 2) ∧ wz.cell? ⟨w.heap.size, 1, none⟩ = some (.int .i64 dm) ∧ wz.cell? ⟨w.heap.size, 2, none⟩ = some (.slice a m c1) ∧ wz.cell? ⟨w.heap.size, 3, none⟩ = some (.slice none 0 0) ∧ wz.cell? ⟨w.heap.size + 1, 0, none⟩ = some (.int .i64 2) ∧ wz.cell? ⟨w.heap.size + 1, 1, none⟩ = some (.int .i64 dm) ∧ wz.cell? ⟨w.heap.size + 1, 2, none⟩ = some (.slice b m c2) ∧ wz.cell? ⟨w.heap.size + 1, 3, none⟩ = some (.slice none 0 0) ∧ w.heap.size + 2 ≤ wz.heap.size ∧ Below w.heap.size w wz) ⟨by go_cell, by go_cell, by go_cell, by go_cell, by go_cell, by go_cell, by go_cell, by go_cell, by simp, by go_grown⟩ ?_
  rintro wz ⟨c00, c01, c02, c03, c10, c11, c12, c13, hsz, hb⟩
  have HB := hid hb
  clear hb
  go_wp2_with (first | (go_at_call 32; (with_reducible refine (SN.out _ HB.out).mono ?_); rintro e w' ⟨rfl, hbl⟩; obtain ⟨nx, rfl⟩ := later1 (lat (wz := wz) (by repeat (first | (with_reducible exact below_later _ _) | (with_reducible exact Below.refl _ _) | (with_reducible assumption) | (with_reducible refine Below.drew ?_) | (with_reducible refine Below.alloc ?_ (by (first | (with_reducible exact Nat.le_refl _) | (with_reducible exact (below_later _ _).size) | omega | (simp; done) | (simp; omega))) _))) hbl); clear hbl) | (go_at_call 84; (with_reducible refine (S0.out _).mono ?_); rintro e w' ⟨rfl, hbl⟩; obtain ⟨nx, rfl⟩ := later1 (lat (wz := wz) (by repeat (first | (with_reducible exact below_later _ _) | (with_reducible exact Below.refl _ _) | (with_reducible assumption) | (with_reducible refine Below.drew ?_) | (with_reducible refine Below.alloc ?_ (by (first | (with_reducible exact Nat.le_refl _) | (with_reducible exact (below_later _ _).size) | omega | (simp; done) | (simp; omega))) _))) hbl); clear hbl))
  go_ret
  exact ⟨rfl, HB.out.trans ((below_later _ _).mono HB.out.size)⟩
end Go.Proofs.Ytbcjlgkdmkehlaa
