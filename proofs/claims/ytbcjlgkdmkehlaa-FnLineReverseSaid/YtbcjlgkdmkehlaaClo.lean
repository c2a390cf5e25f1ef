/- Whether the package's line string is closed: not empty, its first and last places' X and Y equal. -/
import Derived.Test.YtbcjlgkdmkehlaaRows
import Derived.Test.YtbcjlgkdmkehlaaLin
namespace Go.Proofs.Ytbcjlgkdmkehlaa
open Go.ChangeShapes Go.WideShapes Go.ChangeAt Go.RowKit
set_option maxRecDepth 100000
set_option linter.unusedSimpArgs false
abbrev sameV (a b : Nat) : Bool := FloatKind.f64.format.order a b == some .eq
theorem RowOf.alloc {w : World} {g : Nat} {xs : List Value} (h : RowOf w g xs) (o : Obj) : RowOf (w.alloc o) g xs := fun j u hu =>
  (World.cell?_alloc_lt _ _ _ (World.block_lt_of_cell? w _ (h j u hu))).trans (h j u hu)
theorem lsClosed0 (d : Int) (h : isDim d) (ad : Option Addr) (cp : Nat) (w : World) : Calls Try.prog 77 #[sv d ad 0 cp] w fun e w' => e = .returned (.bool false) ∧ Below w.heap.size w w' := by
  have LE := lineEmpty d h ad 0 cp 0 (by omega) (by omega)
  unfold sv at *
  simp only [decide_true] at LE
  replace LE := hid LE
  go_enter Try.func77, Try.ntmps77
  go_wp2_with fail
  refine lettered (R := fun wz => Code.wp _ _ _ _ wz) (fun wz => wz.cell? ⟨w.heap.size, 0, none⟩ = some (.int .u8 d) ∧ wz.cell? ⟨w.heap.size, 1, none⟩ = some (.slice ad 0 cp) ∧ w.heap.size + 1 ≤ wz.heap.size ∧ Below w.heap.size w wz) ⟨by go_cell, by go_cell, by simp, by go_grown⟩ ?_
  rintro wz ⟨c00, c01, hsz, hb⟩
  have HB := hid hb
  clear hb
  refine wp_region_ord (S := (fun w' => ∃ e, w' = later wz e)) [(0, false), (1, true), (2, false), (3, false), (4, false), (5, false), (7, false), (8, false), (9, false), (10, false), (6, true), (11, true), (12, false), (13, true), (14, false), (15, false), (16, false)] (by kernel_rfl) (by kernel_rfl) (fun _ _ d _ _ h => by cases d <;> exact h) ⟨_, (later_of (by repeat (first | (with_reducible exact below_later _ _) | (with_reducible exact Below.refl _ _) | (with_reducible assumption) | (with_reducible refine Below.drew ?_) | (with_reducible refine Below.alloc ?_ (by (first | (with_reducible exact Nat.le_refl _) | (with_reducible exact (below_later _ _).size) | omega | (simp; done) | (simp; omega))) _)))).symm⟩ ?_
  simp only [pickO, List.filterMap_cons, List.filterMap_nil, List.getElem?_cons_succ, List.getElem?_cons_zero, Option.map_some]
  repeat (first
    | ((with_reducible refine wpOrd_light (fun K hK => ?_)); go_simp; (first | (with_reducible refine hK _ ?_) | (rw [if_neg (by intro h; cases h)]; with_reducible refine hK _ ?_)); clear hK K)
    | ((with_reducible refine wpOrd_heavy (fun K L hK hL => ?_)); go_simp; (first | (with_reducible refine hL _ ?_) | (rw [if_neg (by intro h; cases h)]; with_reducible refine hL _ ?_)); clear hK hL K L)
    | ((with_reducible refine wpOrd_heavy (fun K L hK hL => ?_)); go_simp; (with_reducible refine hK _ _ ?_ ?_); (focus (exact ⟨_, (later_of (by repeat (first | (with_reducible exact below_later _ _) | (with_reducible exact Below.refl _ _) | (with_reducible assumption) | (with_reducible refine Below.drew ?_) | (with_reducible refine Below.alloc ?_ (by (first | (with_reducible exact Nat.le_refl _) | (with_reducible exact (below_later _ _).size) | omega | (simp; done) | (simp; omega))) _)))).symm⟩)); clear hK hL K L)
    | ((with_reducible refine wpOrd_heavy (fun K L hK hL => ?_)); go_simp; go_at_call 105; (with_reducible refine (LE.out _).mono ?_); rintro e w' ⟨rfl, hbl⟩; obtain ⟨nx, rfl⟩ := later1 (lat (wz := wz) (by repeat (first | (with_reducible exact below_later _ _) | (with_reducible exact Below.refl _ _) | (with_reducible assumption) | (with_reducible refine Below.drew ?_) | (with_reducible refine Below.alloc ?_ (by (first | (with_reducible exact Nat.le_refl _) | (with_reducible exact (below_later _ _).size) | omega | (simp; done) | (simp; omega))) _))) hbl); clear hbl; go_simp; (with_reducible refine hK _ _ ?_ ?_); (focus (exact ⟨_, (later_of (by repeat (first | (with_reducible exact below_later _ _) | (with_reducible exact Below.refl _ _) | (with_reducible assumption) | (with_reducible refine Below.drew ?_) | (with_reducible refine Below.alloc ?_ (by (first | (with_reducible exact Nat.le_refl _) | (with_reducible exact (below_later _ _).size) | omega | (simp; done) | (simp; omega))) _)))).symm⟩)); clear hK hL K L))
  refine wpOrd_nil ?_
  go_wp2_with fail
  go_ret
  exact ⟨rfl, HB.out.trans ((below_later _ _).mono HB.out.size)⟩
set_option maxHeartbeats 2000000 in
theorem lsClosed (d : Int) (h : isDim d) (g n cp q : Nat) (hq : n = q * widthN d) (hq0 : 0 < q) (news : List Value) (x0 y0 xn yn : Nat) (h0 : news[0 * widthN d]? = some (.float .f64 x0)) (h1 : news[0 * widthN d + 1]? = some (.float .f64 y0)) (h2 : news[(q - 1) * widthN d]? = some (.float .f64 xn)) (h3 : news[(q - 1) * widthN d + 1]? = some (.float .f64 yn))
    (hl : news.length = n) (hn : n < 2000) (w : World) (hR : RowOf w g news) :
    Calls Try.prog 77 #[sv d (some ⟨g, 0, none⟩) n cp] w fun e w' => e = .returned (.bool (sameV x0 xn && sameV y0 yn)) ∧ Below w.heap.size w w' := by
  have LE := lineEmpty d h (some ⟨g, 0, none⟩) n cp q hq hn
  have LN := length d h (some ⟨g, 0, none⟩) n cp q hq hn
  have G0 : ∀ w, RowOf w g news → Calls Try.prog 69 #[sv d (some ⟨g, 0, none⟩) n cp, .int .i64 0] w fun e w' => e = .returned (.agg #[.float .f64 x0, .float .f64 y0]) ∧ Below w.heap.size w w' := fun w hr => getXY d h g n cp 0 news x0 y0 h0 h1 hl hn w hr
  have G1 := fun w hr => getXY d h g n cp (q - 1) news xn yn h2 h3 hl hn w hr
  rw [show decide (q = 0) = false from decide_eq_false (by omega)] at LE
  rw [show ((q - 1 : Nat) : Int) = (q : Int) - 1 from by omega] at G1
  have hqw : IntKind.i64.wrap ((q : Int) - 1) = (q : Int) - 1 := by
    have hqn : q ≤ n := by rw [hq]; exact Nat.le_mul_of_pos_right q (by have := widthN_pos d; omega)
    exact IntWalk.i64_in _ (by omega)
  unfold sv at *
  replace LE := hid LE
  replace LN := hid LN
  replace G0 := hid G0
  replace G1 := hid G1
  have HR0 := hid hR
  generalize hb0 : sameV x0 xn = e0 at *
  generalize hb1 : sameV y0 yn = e1 at *
  unfold sameV at hb0 hb1
  clear hq h0 h1 h2 h3 hl hR
  cases e0 <;> cases e1
  all_goals
    go_enter Try.func77, Try.ntmps77
    go_wp2_with fail
    refine lettered (R := fun wz => Code.wp _ _ _ _ wz) (fun wz => wz.cell? ⟨w.heap.size, 0, none⟩ = some (.int .u8 d) ∧ wz.cell? ⟨w.heap.size, 1, none⟩ = some (.slice (some ⟨g, 0, none⟩) n cp) ∧ RowOf wz g news ∧ w.heap.size + 1 ≤ wz.heap.size ∧ Below w.heap.size w wz) ⟨by go_cell, by go_cell, HR0.out.alloc _, by simp, by go_grown⟩ ?_
    rintro wz ⟨c00, c01, hrow, hsz, hb⟩
    have HB := hid hb
    clear hb
    have HR := hid hrow
    clear hrow
    refine wp_region_ord (S := (fun w' => ∃ e, w' = later wz e)) [(0, false), (1, true), (2, false), (3, false), (4, false), (5, false), (7, false), (8, false), (9, false), (10, false), (6, true), (11, true), (12, false), (13, true), (14, false), (15, false), (16, false)] (by kernel_rfl) (by kernel_rfl) (fun _ _ d _ _ h => by cases d <;> exact h) ⟨_, (later_of (by repeat (first | (with_reducible exact below_later _ _) | (with_reducible exact Below.refl _ _) | (with_reducible assumption) | (with_reducible refine Below.drew ?_) | (with_reducible refine Below.alloc ?_ (by (first | (with_reducible exact Nat.le_refl _) | (with_reducible exact (below_later _ _).size) | omega | (simp; done) | (simp; omega))) _)))).symm⟩ ?_
    simp only [pickO, List.filterMap_cons, List.filterMap_nil, List.getElem?_cons_succ, List.getElem?_cons_zero, Option.map_some]
    repeat (first
      | ((with_reducible refine wpOrd_light (fun K hK => ?_)); go_simp; (first | (with_reducible refine hK _ ?_) | (rw [if_neg (by intro h; cases h)]; with_reducible refine hK _ ?_)); clear hK K)
      | ((with_reducible refine wpOrd_heavy (fun K L hK hL => ?_)); go_simp; (first | (with_reducible refine hL _ ?_) | (rw [if_neg (by intro h; cases h)]; with_reducible refine hL _ ?_)); clear hK hL K L)
      | ((with_reducible refine wpOrd_heavy (fun K L hK hL => ?_)); go_simp; (with_reducible refine hK _ _ ?_ ?_); (focus (exact ⟨_, (later_of (by repeat (first | (with_reducible exact below_later _ _) | (with_reducible exact Below.refl _ _) | (with_reducible assumption) | (with_reducible refine Below.drew ?_) | (with_reducible refine Below.alloc ?_ (by (first | (with_reducible exact Nat.le_refl _) | (with_reducible exact (below_later _ _).size) | omega | (simp; done) | (simp; omega))) _)))).symm⟩)); clear hK hL K L)
      | ((with_reducible refine wpOrd_heavy (fun K L hK hL => ?_)); go_simp; go_at_call 105; (with_reducible refine (LE.out _).mono ?_); rintro e w' ⟨rfl, hbl⟩; obtain ⟨nx, rfl⟩ := later1 (lat (wz := wz) (by repeat (first | (with_reducible exact below_later _ _) | (with_reducible exact Below.refl _ _) | (with_reducible assumption) | (with_reducible refine Below.drew ?_) | (with_reducible refine Below.alloc ?_ (by (first | (with_reducible exact Nat.le_refl _) | (with_reducible exact (below_later _ _).size) | omega | (simp; done) | (simp; omega))) _))) hbl); clear hbl; go_simp; (with_reducible refine hK _ _ ?_ ?_); (focus (exact ⟨_, (later_of (by repeat (first | (with_reducible exact below_later _ _) | (with_reducible exact Below.refl _ _) | (with_reducible assumption) | (with_reducible refine Below.drew ?_) | (with_reducible refine Below.alloc ?_ (by (first | (with_reducible exact Nat.le_refl _) | (with_reducible exact (below_later _ _).size) | omega | (simp; done) | (simp; omega))) _)))).symm⟩)); clear hK hL K L)
      | ((with_reducible refine wpOrd_heavy (fun K L hK hL => ?_)); go_simp; go_at_call 106; (with_reducible refine (LN.out _).mono ?_); rintro e w' ⟨rfl, hbl⟩; obtain ⟨nx, rfl⟩ := later1 (lat (wz := wz) (by repeat (first | (with_reducible exact below_later _ _) | (with_reducible exact Below.refl _ _) | (with_reducible assumption) | (with_reducible refine Below.drew ?_) | (with_reducible refine Below.alloc ?_ (by (first | (with_reducible exact Nat.le_refl _) | (with_reducible exact (below_later _ _).size) | omega | (simp; done) | (simp; omega))) _))) hbl); clear hbl; go_simp; (with_reducible refine hK _ _ ?_ ?_); (focus (exact ⟨_, (later_of (by repeat (first | (with_reducible exact below_later _ _) | (with_reducible exact Below.refl _ _) | (with_reducible assumption) | (with_reducible refine Below.drew ?_) | (with_reducible refine Below.alloc ?_ (by (first | (with_reducible exact Nat.le_refl _) | (with_reducible exact (below_later _ _).size) | omega | (simp; done) | (simp; omega))) _)))).symm⟩)); clear hK hL K L)
      | ((with_reducible refine wpOrd_heavy (fun K L hK hL => ?_)); go_simp; go_at_call 69; (with_reducible refine (G0.out _ (by first | exact HR.out.later | exact HR.out)).mono ?_); rintro e w' ⟨rfl, hbl⟩; obtain ⟨nx, rfl⟩ := later1 (lat (wz := wz) (by repeat (first | (with_reducible exact below_later _ _) | (with_reducible exact Below.refl _ _) | (with_reducible assumption) | (with_reducible refine Below.drew ?_) | (with_reducible refine Below.alloc ?_ (by (first | (with_reducible exact Nat.le_refl _) | (with_reducible exact (below_later _ _).size) | omega | (simp; done) | (simp; omega))) _))) hbl); clear hbl; go_simp; (with_reducible refine hK _ _ ?_ ?_); (focus (exact ⟨_, (later_of (by repeat (first | (with_reducible exact below_later _ _) | (with_reducible exact Below.refl _ _) | (with_reducible assumption) | (with_reducible refine Below.drew ?_) | (with_reducible refine Below.alloc ?_ (by (first | (with_reducible exact Nat.le_refl _) | (with_reducible exact (below_later _ _).size) | omega | (simp; done) | (simp; omega))) _)))).symm⟩)); clear hK hL K L)
      | ((with_reducible refine wpOrd_heavy (fun K L hK hL => ?_)); go_simp; go_at_call 69; (with_reducible refine (G1.out _ (by first | exact HR.out.later | exact HR.out)).mono ?_); rintro e w' ⟨rfl, hbl⟩; obtain ⟨nx, rfl⟩ := later1 (lat (wz := wz) (by repeat (first | (with_reducible exact below_later _ _) | (with_reducible exact Below.refl _ _) | (with_reducible assumption) | (with_reducible refine Below.drew ?_) | (with_reducible refine Below.alloc ?_ (by (first | (with_reducible exact Nat.le_refl _) | (with_reducible exact (below_later _ _).size) | omega | (simp; done) | (simp; omega))) _))) hbl); clear hbl; go_simp; (with_reducible refine hK _ _ ?_ ?_); (focus (exact ⟨_, (later_of (by repeat (first | (with_reducible exact below_later _ _) | (with_reducible exact Below.refl _ _) | (with_reducible assumption) | (with_reducible refine Below.drew ?_) | (with_reducible refine Below.alloc ?_ (by (first | (with_reducible exact Nat.le_refl _) | (with_reducible exact (below_later _ _).size) | omega | (simp; done) | (simp; omega))) _)))).symm⟩)); clear hK hL K L))
    refine wpOrd_nil ?_
    go_wp2_with fail
    go_ret
    exact ⟨rfl, HB.out.trans ((below_later _ _).mono HB.out.size)⟩
theorem isClosed (d : Int) (nad : Option Addr) (nl ncp : Nat) (kad : Option Addr) (kl kcp : Nat) (m : Nat) (news : List Value) (r : Bool) (w : World)
    (hS : ∀ w', Below w.heap.size w w' → Calls Try.prog 103 #[.slice nad nl ncp, .int .i64 d] w' fun e w'' => ∃ g, e = .returned (.agg #[.int .u8 (d % 4), .slice (some ⟨g, 0, none⟩) m m]) ∧ RowOf w'' g news ∧ w'.heap.size ≤ g ∧ g < w''.heap.size ∧ Below w'.heap.size w' w'')
    (hC : ∀ g w', RowOf w' g news → Calls Try.prog 77 #[sv (d % 4) (some ⟨g, 0, none⟩) m m] w' fun e w'' => e = .returned (.bool r) ∧ Below w'.heap.size w' w'') :
    Calls Try.prog 38 #[gv 2 d nad nl ncp kad kl kcp] w fun e w' => e = .returned (.bool r) ∧ Below w.heap.size w w' := by
  have L := fun wz (hb : Below w.heap.size w wz) => line d nad nl ncp kad kl kcp m news wz (fun w' hb' => hS w' (hb.trans (hb'.mono hb.size)))
  unfold gv sv at *
  replace L := hid L
  replace hC := hid hC
  clear hS
  generalize d % 4 = dm at *
  go_enter Try.func38, Try.ntmps38
  go_wp2_with fail
  refine lettered (R := fun wz => Calls _ _ _ wz _) (fun wz => wz.cell? ⟨w.heap.size, 0, none⟩ = some (.int .i64 2) ∧ wz.cell? ⟨w.heap.size, 1, none⟩ = some (.int .i64 d) ∧ wz.cell? ⟨w.heap.size, 2, none⟩ = some (.slice nad nl ncp) ∧ wz.cell? ⟨w.heap.size, 3, none⟩ = some (.slice kad kl kcp) ∧ w.heap.size + 1 ≤ wz.heap.size ∧ Below w.heap.size w wz) ⟨by go_cell, by go_cell, by go_cell, by go_cell, by simp, by go_grown⟩ ?_
  rintro wz ⟨c00, c01, c02, c03, hsz, hb⟩
  have HB := hid hb
  clear hb
  have S := hid (L.out wz HB.out)
  go_wp2_with (first | (go_at_call 67; (with_reducible refine (S.out).mono ?_); rintro e w' ⟨g, rfl, hrow, hg1, hg2, hbl⟩; obtain ⟨nx, rfl⟩ := later1 (lat (wz := wz) (by repeat (first | (with_reducible exact below_later _ _) | (with_reducible exact Below.refl _ _) | (with_reducible assumption) | (with_reducible refine Below.drew ?_) | (with_reducible refine Below.alloc ?_ (by (first | (with_reducible exact Nat.le_refl _) | (with_reducible exact (below_later _ _).size) | omega | (simp; done) | (simp; omega))) _))) hbl); clear hbl) | (go_at_call 77; (with_reducible refine (hC.out _ _ hrow).mono ?_); rintro e w' ⟨rfl, hbl⟩; obtain ⟨nx, rfl⟩ := later1 (lat (wz := wz) (by repeat (first | (with_reducible exact below_later _ _) | (with_reducible exact Below.refl _ _) | (with_reducible assumption) | (with_reducible refine Below.drew ?_) | (with_reducible refine Below.alloc ?_ (by (first | (with_reducible exact Nat.le_refl _) | (with_reducible exact (below_later _ _).size) | omega | (simp; done) | (simp; omega))) _))) hbl); clear hbl))
  go_ret
  exact ⟨rfl, HB.out.trans ((below_later _ _).mono HB.out.size)⟩
end Go.Proofs.Ytbcjlgkdmkehlaa
