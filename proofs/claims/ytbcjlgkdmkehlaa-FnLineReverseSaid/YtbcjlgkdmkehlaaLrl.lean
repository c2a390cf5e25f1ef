/- The law FnLineReverse holds of every geometry: a line string reversed has its places in reverse order. The call returns true and leaves memory as it was. Conditions: none. -/
import Derived.Test.YtbcjlgkdmkehlaaRows
import Derived.Test.YtbcjlgkdmkehlaaSrl
namespace Go.Proofs.Ytbcjlgkdmkehlaa
open Go.ChangeShapes Go.WideShapes Go.ChangeAt Go.RowKit
set_option maxRecDepth 100000
set_option linter.unusedSimpArgs false
namespace fnLineReverse
theorem kSmall (n : Nat) (k d : Int) (nad : Option Addr) (ncp : Nat) (xs : List Nat) (kad : Option Addr) (kcp : Nat) (ks : List Value) (w : World) (ho : Own w k d nad ncp xs kad kcp ks) (hk : ∀ u ∈ ks, GeoAt w n u) :
    Calls Try.prog 45 #[gv k d nad xs.length ncp kad ks.length kcp, .int .i64 2] w (Says (fun r => r = true → k = 2 ∧ xs.length < 2000) w) := by
  have GS := hid (fun p w' (hb : Below w.heap.size w w') hr => gSmall k d nad ncp xs kad kcp ks n p 1 w' (ho.below hb) (fun u hu => (hk u hu).below hb) hr)
  unfold gv at *
  clear ho hk
  by_cases hk2 : k = 2
  · go_enter Try.func45, Try.ntmps45
    go_wp2_with fail
    refine lettered (R := fun wz => Calls _ _ _ wz _) (fun wz => wz.cell? ⟨w.heap.size, 0, none⟩ = some (.int .i64 k) ∧ wz.cell? ⟨w.heap.size, 1, none⟩ = some (.int .i64 d) ∧ wz.cell? ⟨w.heap.size, 2, none⟩ = some (.slice nad xs.length ncp) ∧ wz.cell? ⟨w.heap.size, 3, none⟩ = some (.slice kad ks.length kcp) ∧ wz.cell? ⟨w.heap.size + 1, 0, none⟩ = some (.int .i64 k) ∧ wz.cell? ⟨w.heap.size + 1, 1, none⟩ = some (.int .i64 d) ∧ wz.cell? ⟨w.heap.size + 1, 2, none⟩ = some (.slice nad xs.length ncp) ∧ wz.cell? ⟨w.heap.size + 1, 3, none⟩ = some (.slice kad ks.length kcp) ∧ w.heap.size + 2 ≤ wz.heap.size ∧ Below w.heap.size w wz) ⟨by go_cell, by go_cell, by go_cell, by go_cell, by go_cell, by go_cell, by go_cell, by go_cell, by simp, by go_grown⟩ ?_
    rintro wz ⟨c00, c01, c02, c03, c10, c11, c12, c13, hsz, hb⟩
    have HB := hid hb
    clear hb
    go_wp2_with (first | (go_at_call 33; (with_reducible refine (GS.out _ _ HB.out (row4.2 ⟨by go_cell, by go_cell, by go_cell, by go_cell, trivial⟩)).mono ?_); rintro e w' ⟨r, rfl, hsay, hbl⟩; obtain ⟨nx, rfl⟩ := later1 (lat (wz := wz) (by repeat (first | (with_reducible exact below_later _ _) | (with_reducible exact Below.refl _ _) | (with_reducible assumption) | (with_reducible refine Below.drew ?_) | (with_reducible refine Below.alloc ?_ (by (first | (with_reducible exact Nat.le_refl _) | (with_reducible exact (below_later _ _).size) | omega | (simp; done) | (simp; omega))) _))) hbl); clear hbl))
    go_ret
    exact ⟨r, rfl, fun h => ⟨hk2, (hsay h).1⟩, HB.out.trans ((below_later _ _).mono HB.out.size)⟩
  · go_enter Try.func45, Try.ntmps45
    go_wp2_with fail
    go_ret
    exact ⟨false, rfl, fun h => Bool.noConfusion h, by go_grown⟩
set_option maxHeartbeats 2000000 in
theorem other (n : Nat) (k d : Int) (nad : Option Addr) (ncp : Nat) (xs : List Nat) (kad : Option Addr) (kcp : Nat) (ks : List Value) (w : World) (hno : ¬ (k = 2 ∧ xs.length < 2000)) (ho : Own w k d nad ncp xs kad kcp ks) (hk : ∀ u ∈ ks, GeoAt w n u) :
    Calls Try.prog 12 #[gv k d nad xs.length ncp kad ks.length kcp] w fun e w' => e = .returned (.bool true) ∧ Below w.heap.size w w' := by
  have Z := hid (fun w => zzFits2 k d nad ncp xs kad kcp ks w)
  have KS := hid (fun w' (hb : Below w.heap.size w w') => ((kSmall n k d nad ncp xs kad kcp ks w' (ho.below hb) (fun u hu => (hk u hu).below hb)).mono fun e w2 ⟨r, h1, h2, h3⟩ => (show e = Ending.returned (.bool false) ∧ Below w'.heap.size w' w2 from ⟨by rw [h1]; cases r with | true => exact absurd (h2 rfl) hno | false => rfl, h3⟩)))
  unfold gv at *
  clear ho hk hno
  go_enter Try.func12, Try.ntmps12
  go_wp2_with fail
  refine lettered (R := fun wz => Calls _ _ _ wz _) (fun wz => wz.cell? ⟨w.heap.size, 0, none⟩ = some (.int .i64 k) ∧ wz.cell? ⟨w.heap.size, 1, none⟩ = some (.int .i64 d) ∧ wz.cell? ⟨w.heap.size, 2, none⟩ = some (.slice nad xs.length ncp) ∧ wz.cell? ⟨w.heap.size, 3, none⟩ = some (.slice kad ks.length kcp) ∧ w.heap.size + 1 ≤ wz.heap.size ∧ Below w.heap.size w wz) ⟨by go_cell, by go_cell, by go_cell, by go_cell, by simp, by go_grown⟩ ?_
  rintro wz ⟨c00, c01, c02, c03, hsz, hb⟩
  have HB := hid hb
  clear hb
  go_wp2_with (first | (go_at_call 29; (with_reducible refine (Z.out _).mono ?_); rintro e w' ⟨r, rfl, -, hbl⟩; obtain ⟨nx, rfl⟩ := later1 (lat (wz := wz) (by repeat (first | (with_reducible exact below_later _ _) | (with_reducible exact Below.refl _ _) | (with_reducible assumption) | (with_reducible refine Below.drew ?_) | (with_reducible refine Below.alloc ?_ (by (first | (with_reducible exact Nat.le_refl _) | (with_reducible exact (below_later _ _).size) | omega | (simp; done) | (simp; omega))) _))) hbl); clear hbl; cases r))
  · go_ret
    exact ⟨rfl, HB.out.trans ((below_later _ _).mono HB.out.size)⟩
  refine lettered (R := fun wz2 => Code.wp _ _ _ _ wz2) (fun wz2 => wz2.cell? ⟨w.heap.size, 0, none⟩ = some (.int .i64 k) ∧ wz2.cell? ⟨w.heap.size, 1, none⟩ = some (.int .i64 d) ∧ wz2.cell? ⟨w.heap.size, 2, none⟩ = some (.slice nad xs.length ncp) ∧ wz2.cell? ⟨w.heap.size, 3, none⟩ = some (.slice kad ks.length kcp) ∧ w.heap.size < wz2.heap.size ∧ Below w.heap.size w wz2) ⟨by go_cell, by go_cell, by go_cell, by go_cell, by have := (below_later wz nx).size; omega, HB.out.trans ((below_later _ _).mono HB.out.size)⟩ ?_
  rintro wz2 ⟨c2_0_0, c2_0_1, c2_0_2, c2_0_3, hs2_0, hb⟩
  clear HB
  have HB := hid hb
  clear hb
  refine wp_region_ord (S := (fun w' => ∃ e, w' = later wz2 e)) [(0, false), (1, true), (2, false), (3, false), (4, false), (6, false), (5, true), (7, true), (8, true), (9, true), (10, false), (11, false)] (by kernel_rfl) (by kernel_rfl) (fun _ _ d _ _ h => by cases d <;> exact h) ⟨_, (later_of (by repeat (first | (with_reducible exact below_later _ _) | (with_reducible exact Below.refl _ _) | (with_reducible assumption) | (with_reducible refine Below.drew ?_) | (with_reducible refine Below.alloc ?_ (by (first | (with_reducible exact Nat.le_refl _) | (with_reducible exact (below_later _ _).size) | omega | (simp; done) | (simp; omega))) _)))).symm⟩ ?_
  simp only [pickO, List.filterMap_cons, List.filterMap_nil, List.getElem?_cons_succ, List.getElem?_cons_zero, Option.map_some]
  repeat (first
    | ((with_reducible refine wpOrd_light (fun K hK => ?_)); go_simp; (first | (with_reducible refine hK _ ?_) | (rw [if_neg (by intro h; cases h)]; with_reducible refine hK _ ?_)); clear hK K)
    | ((with_reducible refine wpOrd_heavy (fun K L hK hL => ?_)); go_simp; (first | (with_reducible refine hL _ ?_) | (rw [if_neg (by intro h; cases h)]; with_reducible refine hL _ ?_)); clear hK hL K L)
    | ((with_reducible refine wpOrd_heavy (fun K L hK hL => ?_)); go_simp; (with_reducible refine hK _ _ ?_ ?_); (focus (exact ⟨_, (later_of (by repeat (first | (with_reducible exact below_later _ _) | (with_reducible exact Below.refl _ _) | (with_reducible assumption) | (with_reducible refine Below.drew ?_) | (with_reducible refine Below.alloc ?_ (by (first | (with_reducible exact Nat.le_refl _) | (with_reducible exact (below_later _ _).size) | omega | (simp; done) | (simp; omega))) _)))).symm⟩)); clear hK hL K L)
    | ((with_reducible refine wpOrd_heavy (fun K L hK hL => ?_)); go_simp; go_at_call 45; (with_reducible refine (KS.out _ (by first | exact HB.out.drew | exact HB.out)).mono ?_); rintro e w' ⟨rfl, hbl⟩; obtain ⟨nx, rfl⟩ := later1 (lat (wz := wz2) (by repeat (first | (with_reducible exact below_later _ _) | (with_reducible exact Below.refl _ _) | (with_reducible assumption) | (with_reducible refine Below.drew ?_) | (with_reducible refine Below.alloc ?_ (by (first | (with_reducible exact Nat.le_refl _) | (with_reducible exact (below_later _ _).size) | omega | (simp; done) | (simp; omega))) _))) hbl); clear hbl; go_simp; (with_reducible refine hK _ _ ?_ ?_); (focus (exact ⟨_, (later_of (by repeat (first | (with_reducible exact below_later _ _) | (with_reducible exact Below.refl _ _) | (with_reducible assumption) | (with_reducible refine Below.drew ?_) | (with_reducible refine Below.alloc ?_ (by (first | (with_reducible exact Nat.le_refl _) | (with_reducible exact (below_later _ _).size) | omega | (simp; done) | (simp; omega))) _)))).symm⟩)); clear hK hL K L))
  refine wpOrd_nil ?_
  go_wp2_with fail
  go_ret
  exact ⟨rfl, HB.out.trans ((below_later _ _).mono HB.out.size)⟩
set_option maxHeartbeats 4000000 in
theorem line (n : Nat) (d : Int) (nad : Option Addr) (ncp : Nat) (xs : List Nat) (kad : Option Addr) (kcp : Nat) (ks : List Value) (w : World) (hxl : xs.length < 2000) (ho : Own w 2 d nad ncp xs kad kcp ks) (hk : ∀ u ∈ ks, GeoAt w n u) :
    Calls Try.prog 12 #[gv 2 d nad xs.length ncp kad ks.length kcp] w fun e w' => e = .returned (.bool true) ∧ Below w.heap.size w w' := by
  have hml := Nat.div_mul_le_self xs.length (widthN d)
  have Z := hid (fun w => zzFits2 2 d nad ncp xs kad kcp ks w)
  have KS := hid (fun w' (hb : Below w.heap.size w w') => kSmall n 2 d nad ncp xs kad kcp ks w' (ho.below hb) (fun u hu => (hk u hu).below hb))
  have hlen : (xs.take (xs.length / widthN d * widthN d)).length = xs.length / widthN d * widthN d := by rw [List.length_take]; exact Nat.min_eq_left hml
  have hrl := revN_length (widthN d) (xs.length / widthN d) (xs.take (xs.length / widthN d * widthN d)) hlen (xs.length / widthN d) (Nat.le_refl _)
  have LR := hid (fun w' (hb : Below w.heap.size w w') => (lineReverse d nad ncp xs kad ks.length kcp hxl w' (ho.nums.below hb)).mono fun e w2 ⟨v, B, h1, h2, h3, h4⟩ => (show ∃ a c, e = Ending.returned (.agg #[.int .i64 2, .int .i64 (d % 4), .slice a (revN (widthN d) (xs.length / widthN d) (xs.take (xs.length / widthN d * widthN d)) (xs.length / widthN d)).length c, .slice none 0 0]) ∧ FRow w2 a (revN (widthN d) (xs.length / widthN d) (xs.take (xs.length / widthN d * widthN d)) (xs.length / widthN d)) ∧ Below w'.heap.size w' w2 from by
    obtain ⟨a, c, rfl, hf⟩ := own_frow h3
    exact ⟨a, c, h1, hf, h4⟩))
  have NL := hid (fun w' (hb : Below w.heap.size w w') => newLine d nad ncp xs kad ks.length kcp hxl ho.nCap ho.nMax ho.nNil w' (ho.nums.below hb))
  have SR := hid (fun ad cp w' (hF : FRow w' ad (xs.take (xs.length / widthN d * widthN d))) => by
    have := specReverse (d % 4) (isDim4 d) ad cp (xs.length / widthN d) (xs.take (xs.length / widthN d * widthN d)) (by rw [width4]; exact hlen) (by omega) w' hF
    rw [width4, hlen] at this
    exact this.mono fun e w2 ⟨v, B, h1, h2, h3, h4⟩ => (show ∃ a c, e = Ending.returned (.agg #[.int .i64 2, .int .i64 (d % 4), .slice a (revN (widthN d) (xs.length / widthN d) (xs.take (xs.length / widthN d * widthN d)) (xs.length / widthN d)).length c, .slice none 0 0]) ∧ FRow w2 a (revN (widthN d) (xs.length / widthN d) (xs.take (xs.length / widthN d * widthN d)) (xs.length / widthN d)) ∧ Below w'.heap.size w' w2 from by
      obtain ⟨a, c, rfl, hf⟩ := own_frow h3
      exact ⟨a, c, h1, hf, h4⟩))
  have SG := hid (fun a b c1 c2 w' h1 h2 => sameGeom (d % 4) a b c1 c2 (revN (widthN d) (xs.length / widthN d) (xs.take (xs.length / widthN d * widthN d)) (xs.length / widthN d)) (by rw [hrl]; omega) w' h1 h2)
  clear hrl hlen ho hk
  generalize revN (widthN d) (xs.length / widthN d) (xs.take (xs.length / widthN d * widthN d)) (xs.length / widthN d) = rv at *
  generalize xs.take (xs.length / widthN d * widthN d) = ys at *
  generalize xs.length / widthN d * widthN d = m at *
  unfold gv at *
  generalize d % 4 = dm at *
  generalize rv.length = rl at *
  go_enter Try.func12, Try.ntmps12
  go_wp2_with fail
  refine lettered (R := fun wz => Calls _ _ _ wz _) (fun wz => wz.cell? ⟨w.heap.size, 0, none⟩ = some (.int .i64 2) ∧ wz.cell? ⟨w.heap.size, 1, none⟩ = some (.int .i64 d) ∧ wz.cell? ⟨w.heap.size, 2, none⟩ = some (.slice nad xs.length ncp) ∧ wz.cell? ⟨w.heap.size, 3, none⟩ = some (.slice kad ks.length kcp) ∧ w.heap.size + 1 ≤ wz.heap.size ∧ Below w.heap.size w wz) ⟨by go_cell, by go_cell, by go_cell, by go_cell, by simp, by go_grown⟩ ?_
  rintro wz ⟨c00, c01, c02, c03, hsz, hb⟩
  have HB := hid hb
  clear hb
  go_wp2_with (first | (go_at_call 29; (with_reducible refine (Z.out _).mono ?_); rintro e w' ⟨r, rfl, -, hbl⟩; obtain ⟨nx, rfl⟩ := later1 (lat (wz := wz) (by repeat (first | (with_reducible exact below_later _ _) | (with_reducible exact Below.refl _ _) | (with_reducible assumption) | (with_reducible refine Below.drew ?_) | (with_reducible refine Below.alloc ?_ (by (first | (with_reducible exact Nat.le_refl _) | (with_reducible exact (below_later _ _).size) | omega | (simp; done) | (simp; omega))) _))) hbl); clear hbl; cases r))
  · go_ret
    exact ⟨rfl, HB.out.trans ((below_later _ _).mono HB.out.size)⟩
  refine lettered (R := fun wz2 => Code.wp _ _ _ _ wz2) (fun wz2 => wz2.cell? ⟨w.heap.size, 0, none⟩ = some (.int .i64 2) ∧ wz2.cell? ⟨w.heap.size, 1, none⟩ = some (.int .i64 d) ∧ wz2.cell? ⟨w.heap.size, 2, none⟩ = some (.slice nad xs.length ncp) ∧ wz2.cell? ⟨w.heap.size, 3, none⟩ = some (.slice kad ks.length kcp) ∧ w.heap.size < wz2.heap.size ∧ Below w.heap.size w wz2) ⟨by go_cell, by go_cell, by go_cell, by go_cell, by have := (below_later wz nx).size; omega, HB.out.trans ((below_later _ _).mono HB.out.size)⟩ ?_
  rintro wz2 ⟨c2_0_0, c2_0_1, c2_0_2, c2_0_3, hs2_0, hb⟩
  clear HB
  have HB := hid hb
  clear hb
  refine wp_region_tree (S := (fun w' => ∃ e, w' = later wz2 e)) (.lt 0 (.hv 1 (.lt 2 (.lt 3 (.lt 4 (.lt 6 (.hv 5 (.hv 7 (.hv 8 (.hv 9 (.lt 10 (.lt 11 (.nil))))))))))))) (by kernel_rfl) (by kernel_rfl) (fun _ _ d _ _ h => by cases d <;> exact h) ⟨_, (later_of (by repeat (first | (with_reducible exact below_later _ _) | (with_reducible exact Below.refl _ _) | (with_reducible assumption) | (with_reducible refine Below.drew ?_) | (with_reducible refine Below.alloc ?_ (by (first | (with_reducible exact Nat.le_refl _) | (with_reducible exact (below_later _ _).size) | omega | (simp; done) | (simp; omega))) _)))).symm⟩ ?_
  simp only [pickT, List.filterMap_cons, List.filterMap_nil, List.getElem?_cons_succ, List.getElem?_cons_zero, Option.map_some]
  repeat' (first
    | (with_reducible refine wpTr_hv2 ?_ ?_)
    | ((with_reducible refine wpTr_lt (fun K hK => ?_)); go_simp; (first | (with_reducible refine hK _ ?_) | (rw [if_neg (by intro h; cases h)]; with_reducible refine hK _ ?_)); clear hK K)
    | ((with_reducible refine wpTr_hv (fun K L hK hL => ?_)); go_simp; (first | (with_reducible refine hL _ ?_) | (rw [if_neg (by intro h; cases h)]; with_reducible refine hL _ ?_)); clear hK hL K L)
    | ((with_reducible refine wpTr_hv (fun K L hK hL => ?_)); go_simp; (with_reducible refine hK _ _ ?_ ?_); (focus (exact ⟨_, (later_of (by repeat (first | (with_reducible exact below_later _ _) | (with_reducible exact Below.refl _ _) | (with_reducible assumption) | (with_reducible refine Below.drew ?_) | (with_reducible refine Below.alloc ?_ (by (first | (with_reducible exact Nat.le_refl _) | (with_reducible exact (below_later _ _).size) | omega | (simp; done) | (simp; omega))) _)))).symm⟩)); clear hK hL K L)
    | ((with_reducible refine wpTr_hv (fun K L hK hL => ?_)); go_simp; go_at_call 45; (with_reducible refine (KS.out _ (by first | exact HB.out.drew | exact HB.out | exact HB.out.trans ((below_later wz2 nx).mono HB.out.size))).mono ?_); rintro e w' ⟨_ | _, rfl, -, hbl⟩; all_goals (obtain ⟨nx, rfl⟩ := later1 (lat (wz := wz2) (by repeat (first | (with_reducible exact below_later _ _) | (with_reducible exact Below.refl _ _) | (with_reducible assumption) | (with_reducible refine Below.drew ?_) | (with_reducible refine Below.alloc ?_ (by (first | (with_reducible exact Nat.le_refl _) | (with_reducible exact (below_later _ _).size) | omega | (simp; done) | (simp; omega))) _))) hbl); clear hbl; go_simp; (with_reducible refine hK _ _ ?_ ?_); (focus (exact ⟨_, (later_of (by repeat (first | (with_reducible exact below_later _ _) | (with_reducible exact Below.refl _ _) | (with_reducible assumption) | (with_reducible refine Below.drew ?_) | (with_reducible refine Below.alloc ?_ (by (first | (with_reducible exact Nat.le_refl _) | (with_reducible exact (below_later _ _).size) | omega | (simp; done) | (simp; omega))) _)))).symm⟩)); clear hK hL K L))
    | ((with_reducible refine wpTr_hv (fun K L hK hL => ?_)); go_simp; go_at_call 47; (with_reducible refine (LR.out _ (by first | exact HB.out.drew | exact HB.out | exact HB.out.trans ((below_later wz2 nx).mono HB.out.size))).mono ?_); rintro e w' ⟨a1, k1, rfl, hf1, hbl⟩; have F1 := hid hf1; clear hf1; obtain ⟨nx, rfl⟩ := later1 (lat (wz := wz2) (by repeat (first | (with_reducible exact below_later _ _) | (with_reducible exact Below.refl _ _) | (with_reducible assumption) | (with_reducible refine Below.drew ?_) | (with_reducible refine Below.alloc ?_ (by (first | (with_reducible exact Nat.le_refl _) | (with_reducible exact (below_later _ _).size) | omega | (simp; done) | (simp; omega))) _))) hbl); clear hbl; go_simp; (with_reducible refine hK _ _ ?_ ?_); (focus (exact ⟨_, (later_of (by repeat (first | (with_reducible exact below_later _ _) | (with_reducible exact Below.refl _ _) | (with_reducible assumption) | (with_reducible refine Below.drew ?_) | (with_reducible refine Below.alloc ?_ (by (first | (with_reducible exact Nat.le_refl _) | (with_reducible exact (below_later _ _).size) | omega | (simp; done) | (simp; omega))) _)))).symm⟩)); clear hK hL K L)
    | ((with_reducible refine wpTr_hv (fun K L hK hL => ?_)); go_simp; go_at_call 37; (with_reducible refine (NL.out _ (by first | exact HB.out.drew | exact HB.out | exact HB.out.trans ((below_later wz2 nx).mono HB.out.size))).mono ?_); rintro e w' ⟨ad, cp, rfl, hf2, hbl⟩; have F2 := hid hf2; have F1 := hid (F1.out.below hbl); clear hf2; obtain ⟨nx, rfl⟩ := later1 (lat (wz := wz2) (by repeat (first | (with_reducible exact below_later _ _) | (with_reducible exact Below.refl _ _) | (with_reducible assumption) | (with_reducible refine Below.drew ?_) | (with_reducible refine Below.alloc ?_ (by (first | (with_reducible exact Nat.le_refl _) | (with_reducible exact (below_later _ _).size) | omega | (simp; done) | (simp; omega))) _))) hbl); clear hbl; go_simp; (with_reducible refine hK _ _ ?_ ?_); (focus (exact ⟨_, (later_of (by repeat (first | (with_reducible exact below_later _ _) | (with_reducible exact Below.refl _ _) | (with_reducible assumption) | (with_reducible refine Below.drew ?_) | (with_reducible refine Below.alloc ?_ (by (first | (with_reducible exact Nat.le_refl _) | (with_reducible exact (below_later _ _).size) | omega | (simp; done) | (simp; omega))) _)))).symm⟩)); clear hK hL K L)
    | ((with_reducible refine wpTr_hv (fun K L hK hL => ?_)); go_simp; go_at_call 48; (with_reducible refine (SR.out _ _ _ F2.out).mono ?_); rintro e w' ⟨a3, k3, rfl, hf3, hbl⟩; have F3 := hid hf3; have F1 := hid (F1.out.below hbl); clear hf3; obtain ⟨nx, rfl⟩ := later1 (lat (wz := wz2) (by repeat (first | (with_reducible exact below_later _ _) | (with_reducible exact Below.refl _ _) | (with_reducible assumption) | (with_reducible refine Below.drew ?_) | (with_reducible refine Below.alloc ?_ (by (first | (with_reducible exact Nat.le_refl _) | (with_reducible exact (below_later _ _).size) | omega | (simp; done) | (simp; omega))) _))) hbl); clear hbl; go_simp; (with_reducible refine hK _ _ ?_ ?_); (focus (exact ⟨_, (later_of (by repeat (first | (with_reducible exact below_later _ _) | (with_reducible exact Below.refl _ _) | (with_reducible assumption) | (with_reducible refine Below.drew ?_) | (with_reducible refine Below.alloc ?_ (by (first | (with_reducible exact Nat.le_refl _) | (with_reducible exact (below_later _ _).size) | omega | (simp; done) | (simp; omega))) _)))).symm⟩)); clear hK hL K L)
    | ((with_reducible refine wpTr_hv (fun K L hK hL => ?_)); go_simp; go_at_call 46; (with_reducible refine (SG.out _ _ _ _ _ F1.out F3.out).mono ?_); rintro e w' ⟨rfl, hbl⟩; obtain ⟨nx, rfl⟩ := later1 (lat (wz := wz2) (by repeat (first | (with_reducible exact below_later _ _) | (with_reducible exact Below.refl _ _) | (with_reducible assumption) | (with_reducible refine Below.drew ?_) | (with_reducible refine Below.alloc ?_ (by (first | (with_reducible exact Nat.le_refl _) | (with_reducible exact (below_later _ _).size) | omega | (simp; done) | (simp; omega))) _))) hbl); clear hbl; go_simp; (with_reducible refine hK _ _ ?_ ?_); (focus (exact ⟨_, (later_of (by repeat (first | (with_reducible exact below_later _ _) | (with_reducible exact Below.refl _ _) | (with_reducible assumption) | (with_reducible refine Below.drew ?_) | (with_reducible refine Below.alloc ?_ (by (first | (with_reducible exact Nat.le_refl _) | (with_reducible exact (below_later _ _).size) | omega | (simp; done) | (simp; omega))) _)))).symm⟩)); clear hK hL K L))
  all_goals refine wpTr_nil ?_
  all_goals
    go_wp2_with fail
    go_ret
    exact ⟨rfl, HB.out.trans ((below_later _ _).mono HB.out.size)⟩
theorem walk (n : Nat) (k d : Int) (nad : Option Addr) (ncp : Nat) (xs : List Nat) (kad : Option Addr) (kcp : Nat) (ks : List Value) (w : World) (ho : Own w k d nad ncp xs kad kcp ks) (hk : ∀ u ∈ ks, GeoAt w n u) :
    Calls Try.prog 12 #[gv k d nad xs.length ncp kad ks.length kcp] w fun e w' => e = .returned (.bool true) ∧ Below w.heap.size w w' := by
  by_cases h : k = 2 ∧ xs.length < 2000
  · obtain ⟨rfl, hxl⟩ := h
    exact line n d nad ncp xs kad kcp ks w hxl ho hk
  · exact other n k d nad ncp xs kad kcp ks w h ho hk
set_option maxRecDepth 100000 in
theorem lifted (os : Os) (started : os.Started) (H : Type) (enc : TypeId × Value → H) :
    ReturnsInHanded {} Try.checked os 12 .any (Rows.fnLineReverseSpec.pre6 enc Try.prog Try.f12 Rows.fnLineReverseRow.domain false) (Rows.fnLineReverseSpec.post enc Try.prog Try.f12 false true false false) := by
  refine returnsInHanded_of_change (C := Try.checked) own started (by kernel_rfl) Try.func12
    (ChangeSpec.witness6 (enc := enc) (C := Try.checked) false ⟨#[], #[.agg #[.int .i64 0, .int .i64 0, .slice none 0 0, .slice none 0 0]], []⟩ 16 (by kernel_rfl) (by kernel_rfl) (by kernel_rfl) (by kernel_rfl)) ?_
  intro W base args ds gs before hval0 hW hcnd _
  have hval : ∀ (j : Nat) t v, Try.f12.params[j]? = some t → args[j]? = some v → Value.okWide Try.prog W .any base t v := hval0
  have hW' := hW
  obtain ⟨p, q, hA0, hV, rfl, hfz, hnd⟩ := hW
  have hA : DataW.TrodAll enc Try.prog W 0 (fun _ => true) true Try.f12.params.toList args.toList ds p := hA0
  rw [Try.params12] at hA hval
  obtain ⟨v0, vs0, d0, ds0, p0, q0, hargs, rfl, rfl, h0, r0⟩ := trodAll_cons hA
  obtain ⟨rfl, rfl, rfl⟩ := trodAll_nil r0
  obtain rfl : args = #[v0] := by cases args; simp_all
  obtain ⟨rfl, rfl⟩ := trodVars_none hV
  have lt0 : ∀ x ∈ p0, x.block < W.heap.size := by obtain ⟨m, hm⟩ := h0; exact DataW.trod_lt m _ _ _ hm
  obtain ⟨n, hg⟩ := readGeom (hval 0 _ _ rfl rfl) h0
  cases n with
  | zero => exact hg.elim
  | succ n =>
  obtain ⟨gk, gd, nad, ncp, xs, kad, kcp, ks, rfl, ho, hk⟩ := hg
  clear hA0 hval0
  refine (walk n gk gd nad ncp xs kad kcp ks W ho hk).mono fun e W' ⟨he, bel⟩ => ?_
  subst he
  exact ⟨_, rfl, _, _, _, [], _, [], hW', trodAll_mk1 (shut_bool Try.underlying4 _), (trodAll_cons_mk (Below.trod laidOut (by kernel_rfl) (of_decide_eq_true (by kernel_rfl)) h0 bel lt0) trodAll_mk0), rfl, bel.frame _, fun h => by cases h⟩

theorem over : Rows.fnLineReverseRow.holds Try.pinned (OpenSpec.ofChange Rows.fnLineReverseSpec) :=
  OpenClaim.holds_of_wide 12 Try.f12 rfl rfl rfl rfl rfl rfl rfl ⟨rfl, rfl, rfl, rfl, rfl⟩ rfl rfl rfl rfl rfl (by kernel_rfl) Try.func12 (by kernel_rfl)
    (of_decide_eq_true (by kernel_rfl)) (by unfold Func.isWrapper; first | (rw [if_pos (by decide +kernel)]; kernel_rfl) | (rw [if_neg (by decide +kernel)]; exact ⟨rfl, rfl⟩))
    (fun os started H enc _ => lifted os started H enc)

theorem proved : Rows.FnLineReverseSaid := over
end fnLineReverse
end Go.Proofs.Ytbcjlgkdmkehlaa
