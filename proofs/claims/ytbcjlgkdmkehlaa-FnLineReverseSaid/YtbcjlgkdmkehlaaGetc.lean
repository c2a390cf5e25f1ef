/- The coordinates of a place of a sequence, by its type. Condition: at most 2000 numbers, a place that there is. -/
import Derived.Test.YtbcjlgkdmkehlaaRows
import Derived.Test.YtbcjlgkdmkehlaaSgx
namespace Go.Proofs.Ytbcjlgkdmkehlaa
open Go.ChangeShapes Go.WideShapes Go.ChangeAt Go.RowKit
set_option maxRecDepth 100000
set_option linter.unusedSimpArgs false
set_option maxHeartbeats 2000000 in
theorem getC0 (g n c i p x y : Nat) (hp : p = i * 2) (hpn : p + 2 ≤ n) (hn : n < 2000) (w : World) (h0 : w.cell? ⟨g, p, none⟩ = some (.float .f64 x)) (h1 : w.cell? ⟨g, p + 1, none⟩ = some (.float .f64 y)) :
    Calls Try.prog 134 #[.agg #[.int .u8 0, .slice (some ⟨g, 0, none⟩) n c], .int .i64 (i : Int)] w fun e w' => e = .returned (.agg #[.float .f64 x, .float .f64 y, .float .f64 0, .float .f64 0, .int .u8 0]) ∧ Below w.heap.size w w' := by
  have D := dimension 0 (.inl rfl)
  rw [show widthI 0 = 2 from rfl] at D
  replace D := hid D
  have hg := World.block_lt_of_cell? w _ h0
  simp only at hg
  have m0 : IntKind.i64.wrap ((i : Int) * 2) = (p : Int) := by rw [show (i : Int) * 2 = (p : Int) from by omega]; exact IntWalk.i64_in _ (by omega)
  have m1 : IntKind.i64.wrap ((p : Int) + 1) = (p : Int) + 1 := IntWalk.i64_in _ (by omega)
  have j0 : (0 : Int) ≤ (p : Int) := by omega
  have j1 : (p : Int) < (n : Int) := by omega
  have k1 : (0 : Int) ≤ (p : Int) + 1 := by omega
  have l1 : (p : Int) + 1 < (n : Int) := by omega
  clear hp
  go_enter Try.func134, Try.ntmps134
  go_wp2_with fail
  refine lettered (R := fun wz => Calls _ _ _ wz _) (fun wz => wz.cell? ⟨w.heap.size, 0, none⟩ = some (.int .u8 0) ∧ wz.cell? ⟨w.heap.size, 1, none⟩ = some (.slice (some ⟨g, 0, none⟩) n c) ∧ wz.cell? ⟨w.heap.size + 1, 0, none⟩ = some (.float .f64 0) ∧ wz.cell? ⟨w.heap.size + 1, 1, none⟩ = some (.float .f64 0) ∧ wz.cell? ⟨w.heap.size + 1, 2, none⟩ = some (.float .f64 0) ∧ wz.cell? ⟨w.heap.size + 1, 3, none⟩ = some (.float .f64 0) ∧ wz.cell? ⟨w.heap.size + 1, 4, none⟩ = some (.int .u8 0) ∧ wz.frozen? ⟨w.heap.size + 1, 0, none⟩ = false ∧ wz.frozen? ⟨w.heap.size + 1, 1, none⟩ = false ∧ wz.frozen? ⟨w.heap.size + 1, 2, none⟩ = false ∧ wz.frozen? ⟨w.heap.size + 1, 3, none⟩ = false ∧ wz.frozen? ⟨w.heap.size + 1, 4, none⟩ = false ∧ wz.cell? ⟨g, p, none⟩ = some (.float .f64 x) ∧ wz.cell? ⟨g, p + 1, none⟩ = some (.float .f64 y) ∧ w.heap.size + 2 ≤ wz.heap.size ∧ Below w.heap.size w wz) ⟨by go_cell, by go_cell, by go_cell, by go_cell, by go_cell, by go_cell, by go_cell, by go_cell, by go_cell, by go_cell, by go_cell, by go_cell, by go_cell, by go_cell, by simp, by go_grown⟩ ?_
  rintro wz ⟨c00, c01, c10, c11, c12, c13, c14, z10, z11, z12, z13, z14, e0, e1, hsz, hb⟩
  have HB := hid hb
  clear hb
  have ng : ¬ g = w.heap.size := by omega
  go_wp2_with (first | (go_at_call 104; (with_reducible refine (D.out _).mono ?_); rintro e w' ⟨rfl, hbl⟩; obtain ⟨nx, rfl⟩ := later1 (lat (wz := wz) (by repeat (first | (with_reducible exact below_later _ _) | (with_reducible exact Below.refl _ _) | (with_reducible assumption) | (with_reducible refine Below.drew ?_) | (with_reducible refine Below.alloc ?_ (by (first | (with_reducible exact Nat.le_refl _) | (with_reducible exact (below_later _ _).size) | omega | (simp; done) | (simp; omega))) _))) hbl); clear hbl))
  refine lettered (R := fun wz2 => Code.wp _ _ _ _ wz2) (fun wz2 => wz2.cell? ⟨w.heap.size, 0, none⟩ = some (.int .u8 0) ∧ wz2.cell? ⟨w.heap.size, 1, none⟩ = some (.slice (some ⟨g, 0, none⟩) n c) ∧ wz2.cell? ⟨w.heap.size + 1, 0, none⟩ = some (.float .f64 0) ∧ wz2.cell? ⟨w.heap.size + 1, 1, none⟩ = some (.float .f64 0) ∧ wz2.cell? ⟨w.heap.size + 1, 2, none⟩ = some (.float .f64 0) ∧ wz2.cell? ⟨w.heap.size + 1, 3, none⟩ = some (.float .f64 0) ∧ wz2.cell? ⟨w.heap.size + 1, 4, none⟩ = some (.int .u8 0) ∧ wz2.frozen? ⟨w.heap.size + 1, 0, none⟩ = false ∧ wz2.frozen? ⟨w.heap.size + 1, 1, none⟩ = false ∧ wz2.frozen? ⟨w.heap.size + 1, 2, none⟩ = false ∧ wz2.frozen? ⟨w.heap.size + 1, 3, none⟩ = false ∧ wz2.frozen? ⟨w.heap.size + 1, 4, none⟩ = false ∧ wz2.cell? ⟨g, p, none⟩ = some (.float .f64 x) ∧ wz2.cell? ⟨g, p + 1, none⟩ = some (.float .f64 y) ∧ g < wz2.heap.size ∧ w.heap.size < wz2.heap.size ∧ w.heap.size + 1 < wz2.heap.size ∧ Below w.heap.size w wz2) ⟨by go_cell, by go_cell, by go_cell, by go_cell, by go_cell, by go_cell, by go_cell, by go_cell, by go_cell, by go_cell, by go_cell, by go_cell, by go_cell, by go_cell, by have := (below_later wz nx).size; omega, by have := (below_later wz nx).size; omega, by have := (below_later wz nx).size; omega, HB.out.trans ((below_later _ _).mono HB.out.size)⟩ ?_
  rintro wz2 ⟨c2_0_0, c2_0_1, c2_1_0, c2_1_1, c2_1_2, c2_1_3, c2_1_4, z2_1_0, z2_1_1, z2_1_2, z2_1_3, z2_1_4, f0, f1, hs2_0, hs2_1, hs2_2, hb⟩
  clear HB
  have HB := hid hb
  clear hb
  have ng2 : ¬ g = wz2.heap.size := by omega
  have nb : ¬ w.heap.size = wz2.heap.size := by omega
  have nb2 : ¬ w.heap.size + 1 = wz2.heap.size := by omega
  clear c00 c01 c10 c11 c12 c13 c14 z10 z11 z12 z13 z14 e0 e1 h0 h1
  refine wp_region_ord (S := (fun w' => ∃ e, w' = laterB (wz2.heap.size) wz2 e)) [(0, false), (1, false), (2, false), (3, false), (4, false), (5, false), (6, false), (7, false), (8, false), (9, false), (10, false), (11, false), (12, false), (13, false), (14, false), (15, false), (16, false), (17, false), (18, false), (19, true), (20, true)] (by kernel_rfl) (by kernel_rfl) (fun _ _ d _ _ h => by cases d <;> exact h) ⟨_, (laterB_of (by repeat (first | (with_reducible assumption) | (with_reducible exact (below_later _ _).mono (by omega)) | (with_reducible exact Below.refl _ _) | (with_reducible refine Below.drew ?_) | (with_reducible refine Below.setCell ?_ (by first | omega | (simp; done) | (simp; omega)) _) | (with_reducible refine Below.alloc ?_ (by first | omega | (simp; omega) | (have := (below_later wz2 nx).size; simp; omega)) _)))).symm⟩ ?_
  simp only [pickO, List.filterMap_cons, List.filterMap_nil, List.getElem?_cons_succ, List.getElem?_cons_zero, Option.map_some]
  repeat (first
    | ((with_reducible refine wpOrd_light (fun K hK => ?_)); go_simp; (first | (with_reducible refine hK _ ?_) | (rw [if_neg (by intro h; cases h)]; with_reducible refine hK _ ?_)); clear hK K)
    | ((with_reducible refine wpOrd_heavy (fun K L hK hL => ?_)); go_simp; (first | (with_reducible refine hL _ ?_) | (rw [if_neg (by intro h; cases h)]; with_reducible refine hL _ ?_)); clear hK hL K L)
    | ((with_reducible refine wpOrd_heavy (fun K L hK hL => ?_)); go_simp; (with_reducible refine hK _ _ ?_ ?_); (focus (exact ⟨_, (laterB_of (by repeat (first | (with_reducible assumption) | (with_reducible exact (below_later _ _).mono (by omega)) | (with_reducible exact Below.refl _ _) | (with_reducible refine Below.drew ?_) | (with_reducible refine Below.setCell ?_ (by first | omega | (simp; done) | (simp; omega)) _) | (with_reducible refine Below.alloc ?_ (by first | omega | (simp; omega) | (have := (below_later wz2 nx).size; simp; omega)) _)))).symm⟩)); clear hK hL K L))
  refine wpOrd_nil ?_
  go_wp2_with fail
  refine bodyPost_ret (ret1 (b := w.heap.size + 1) (cs := [.float .f64 x, .float .f64 y, .float .f64 0, .float .f64 0, .int .u8 0]) Try.results134 rfl Try.underlying124 rfl (by kernel_rfl) ⟨by go_cell, by go_cell, by go_cell, by go_cell, by go_cell, trivial⟩) rfl ?_
  exact ⟨rfl, by
    have hB := HB.out
    repeat' (first | (with_reducible exact hB) | (with_reducible refine Below.setCell ?_ ?_ _) | (with_reducible refine Below.alloc ?_ ?_ _) | (with_reducible refine Below.drew ?_) | (with_reducible exact hB.size) | omega | (simp; done) | (simp; omega))⟩
set_option maxHeartbeats 2000000 in
theorem getC1 (g n c i p x y z : Nat) (hp : p = i * 3) (hpn : p + 3 ≤ n) (hn : n < 2000) (w : World) (h0 : w.cell? ⟨g, p, none⟩ = some (.float .f64 x)) (h1 : w.cell? ⟨g, p + 1, none⟩ = some (.float .f64 y)) (h2 : w.cell? ⟨g, p + 2, none⟩ = some (.float .f64 z)) :
    Calls Try.prog 134 #[.agg #[.int .u8 1, .slice (some ⟨g, 0, none⟩) n c], .int .i64 (i : Int)] w fun e w' => e = .returned (.agg #[.float .f64 x, .float .f64 y, .float .f64 z, .float .f64 0, .int .u8 1]) ∧ Below w.heap.size w w' := by
  have D := dimension 1 (.inr (.inl rfl))
  rw [show widthI 1 = 3 from rfl] at D
  replace D := hid D
  have hg := World.block_lt_of_cell? w _ h0
  simp only at hg
  have m0 : IntKind.i64.wrap ((i : Int) * 3) = (p : Int) := by rw [show (i : Int) * 3 = (p : Int) from by omega]; exact IntWalk.i64_in _ (by omega)
  have m1 : IntKind.i64.wrap ((p : Int) + 1) = (p : Int) + 1 := IntWalk.i64_in _ (by omega)
  have m2 : IntKind.i64.wrap ((p : Int) + 2) = (p : Int) + 2 := IntWalk.i64_in _ (by omega)
  have j0 : (0 : Int) ≤ (p : Int) := by omega
  have j1 : (p : Int) < (n : Int) := by omega
  have k1 : (0 : Int) ≤ (p : Int) + 1 := by omega
  have l1 : (p : Int) + 1 < (n : Int) := by omega
  have k2 : (0 : Int) ≤ (p : Int) + 2 := by omega
  have l2 : (p : Int) + 2 < (n : Int) := by omega
  clear hp
  go_enter Try.func134, Try.ntmps134
  go_wp2_with fail
  refine lettered (R := fun wz => Calls _ _ _ wz _) (fun wz => wz.cell? ⟨w.heap.size, 0, none⟩ = some (.int .u8 1) ∧ wz.cell? ⟨w.heap.size, 1, none⟩ = some (.slice (some ⟨g, 0, none⟩) n c) ∧ wz.cell? ⟨w.heap.size + 1, 0, none⟩ = some (.float .f64 0) ∧ wz.cell? ⟨w.heap.size + 1, 1, none⟩ = some (.float .f64 0) ∧ wz.cell? ⟨w.heap.size + 1, 2, none⟩ = some (.float .f64 0) ∧ wz.cell? ⟨w.heap.size + 1, 3, none⟩ = some (.float .f64 0) ∧ wz.cell? ⟨w.heap.size + 1, 4, none⟩ = some (.int .u8 0) ∧ wz.frozen? ⟨w.heap.size + 1, 0, none⟩ = false ∧ wz.frozen? ⟨w.heap.size + 1, 1, none⟩ = false ∧ wz.frozen? ⟨w.heap.size + 1, 2, none⟩ = false ∧ wz.frozen? ⟨w.heap.size + 1, 3, none⟩ = false ∧ wz.frozen? ⟨w.heap.size + 1, 4, none⟩ = false ∧ wz.cell? ⟨g, p, none⟩ = some (.float .f64 x) ∧ wz.cell? ⟨g, p + 1, none⟩ = some (.float .f64 y) ∧ wz.cell? ⟨g, p + 2, none⟩ = some (.float .f64 z) ∧ w.heap.size + 2 ≤ wz.heap.size ∧ Below w.heap.size w wz) ⟨by go_cell, by go_cell, by go_cell, by go_cell, by go_cell, by go_cell, by go_cell, by go_cell, by go_cell, by go_cell, by go_cell, by go_cell, by go_cell, by go_cell, by go_cell, by simp, by go_grown⟩ ?_
  rintro wz ⟨c00, c01, c10, c11, c12, c13, c14, z10, z11, z12, z13, z14, e0, e1, e2, hsz, hb⟩
  have HB := hid hb
  clear hb
  have ng : ¬ g = w.heap.size := by omega
  go_wp2_with (first | (go_at_call 104; (with_reducible refine (D.out _).mono ?_); rintro e w' ⟨rfl, hbl⟩; obtain ⟨nx, rfl⟩ := later1 (lat (wz := wz) (by repeat (first | (with_reducible exact below_later _ _) | (with_reducible exact Below.refl _ _) | (with_reducible assumption) | (with_reducible refine Below.drew ?_) | (with_reducible refine Below.alloc ?_ (by (first | (with_reducible exact Nat.le_refl _) | (with_reducible exact (below_later _ _).size) | omega | (simp; done) | (simp; omega))) _))) hbl); clear hbl))
  refine lettered (R := fun wz2 => Code.wp _ _ _ _ wz2) (fun wz2 => wz2.cell? ⟨w.heap.size, 0, none⟩ = some (.int .u8 1) ∧ wz2.cell? ⟨w.heap.size, 1, none⟩ = some (.slice (some ⟨g, 0, none⟩) n c) ∧ wz2.cell? ⟨w.heap.size + 1, 0, none⟩ = some (.float .f64 0) ∧ wz2.cell? ⟨w.heap.size + 1, 1, none⟩ = some (.float .f64 0) ∧ wz2.cell? ⟨w.heap.size + 1, 2, none⟩ = some (.float .f64 0) ∧ wz2.cell? ⟨w.heap.size + 1, 3, none⟩ = some (.float .f64 0) ∧ wz2.cell? ⟨w.heap.size + 1, 4, none⟩ = some (.int .u8 0) ∧ wz2.frozen? ⟨w.heap.size + 1, 0, none⟩ = false ∧ wz2.frozen? ⟨w.heap.size + 1, 1, none⟩ = false ∧ wz2.frozen? ⟨w.heap.size + 1, 2, none⟩ = false ∧ wz2.frozen? ⟨w.heap.size + 1, 3, none⟩ = false ∧ wz2.frozen? ⟨w.heap.size + 1, 4, none⟩ = false ∧ wz2.cell? ⟨g, p, none⟩ = some (.float .f64 x) ∧ wz2.cell? ⟨g, p + 1, none⟩ = some (.float .f64 y) ∧ wz2.cell? ⟨g, p + 2, none⟩ = some (.float .f64 z) ∧ g < wz2.heap.size ∧ w.heap.size < wz2.heap.size ∧ w.heap.size + 1 < wz2.heap.size ∧ Below w.heap.size w wz2) ⟨by go_cell, by go_cell, by go_cell, by go_cell, by go_cell, by go_cell, by go_cell, by go_cell, by go_cell, by go_cell, by go_cell, by go_cell, by go_cell, by go_cell, by go_cell, by have := (below_later wz nx).size; omega, by have := (below_later wz nx).size; omega, by have := (below_later wz nx).size; omega, HB.out.trans ((below_later _ _).mono HB.out.size)⟩ ?_
  rintro wz2 ⟨c2_0_0, c2_0_1, c2_1_0, c2_1_1, c2_1_2, c2_1_3, c2_1_4, z2_1_0, z2_1_1, z2_1_2, z2_1_3, z2_1_4, f0, f1, f2, hs2_0, hs2_1, hs2_2, hb⟩
  clear HB
  have HB := hid hb
  clear hb
  have ng2 : ¬ g = wz2.heap.size := by omega
  have nb : ¬ w.heap.size = wz2.heap.size := by omega
  have nb2 : ¬ w.heap.size + 1 = wz2.heap.size := by omega
  clear c00 c01 c10 c11 c12 c13 c14 z10 z11 z12 z13 z14 e0 e1 e2 h0 h1 h2
  refine wp_region_ord (S := (fun w' => ∃ e, w' = laterB (wz2.heap.size) wz2 e)) [(0, false), (1, false), (2, false), (3, false), (4, false), (5, false), (6, false), (7, false), (8, false), (9, false), (10, false), (11, false), (12, false), (13, false), (14, false), (15, false), (16, false), (17, false), (18, false), (19, true), (20, true)] (by kernel_rfl) (by kernel_rfl) (fun _ _ d _ _ h => by cases d <;> exact h) ⟨_, (laterB_of (by repeat (first | (with_reducible assumption) | (with_reducible exact (below_later _ _).mono (by omega)) | (with_reducible exact Below.refl _ _) | (with_reducible refine Below.drew ?_) | (with_reducible refine Below.setCell ?_ (by first | omega | (simp; done) | (simp; omega)) _) | (with_reducible refine Below.alloc ?_ (by first | omega | (simp; omega) | (have := (below_later wz2 nx).size; simp; omega)) _)))).symm⟩ ?_
  simp only [pickO, List.filterMap_cons, List.filterMap_nil, List.getElem?_cons_succ, List.getElem?_cons_zero, Option.map_some]
  repeat (first
    | ((with_reducible refine wpOrd_light (fun K hK => ?_)); go_simp; (first | (with_reducible refine hK _ ?_) | (rw [if_neg (by intro h; cases h)]; with_reducible refine hK _ ?_)); clear hK K)
    | ((with_reducible refine wpOrd_heavy (fun K L hK hL => ?_)); go_simp; (first | (with_reducible refine hL _ ?_) | (rw [if_neg (by intro h; cases h)]; with_reducible refine hL _ ?_)); clear hK hL K L)
    | ((with_reducible refine wpOrd_heavy (fun K L hK hL => ?_)); go_simp; (with_reducible refine hK _ _ ?_ ?_); (focus (exact ⟨_, (laterB_of (by repeat (first | (with_reducible assumption) | (with_reducible exact (below_later _ _).mono (by omega)) | (with_reducible exact Below.refl _ _) | (with_reducible refine Below.drew ?_) | (with_reducible refine Below.setCell ?_ (by first | omega | (simp; done) | (simp; omega)) _) | (with_reducible refine Below.alloc ?_ (by first | omega | (simp; omega) | (have := (below_later wz2 nx).size; simp; omega)) _)))).symm⟩)); clear hK hL K L))
  refine wpOrd_nil ?_
  go_wp2_with fail
  refine bodyPost_ret (ret1 (b := w.heap.size + 1) (cs := [.float .f64 x, .float .f64 y, .float .f64 z, .float .f64 0, .int .u8 1]) Try.results134 rfl Try.underlying124 rfl (by kernel_rfl) ⟨by go_cell, by go_cell, by go_cell, by go_cell, by go_cell, trivial⟩) rfl ?_
  exact ⟨rfl, by
    have hB := HB.out
    repeat' (first | (with_reducible exact hB) | (with_reducible refine Below.setCell ?_ ?_ _) | (with_reducible refine Below.alloc ?_ ?_ _) | (with_reducible refine Below.drew ?_) | (with_reducible exact hB.size) | omega | (simp; done) | (simp; omega))⟩
set_option maxHeartbeats 2000000 in
theorem getC2 (g n c i p x y z : Nat) (hp : p = i * 3) (hpn : p + 3 ≤ n) (hn : n < 2000) (w : World) (h0 : w.cell? ⟨g, p, none⟩ = some (.float .f64 x)) (h1 : w.cell? ⟨g, p + 1, none⟩ = some (.float .f64 y)) (h2 : w.cell? ⟨g, p + 2, none⟩ = some (.float .f64 z)) :
    Calls Try.prog 134 #[.agg #[.int .u8 2, .slice (some ⟨g, 0, none⟩) n c], .int .i64 (i : Int)] w fun e w' => e = .returned (.agg #[.float .f64 x, .float .f64 y, .float .f64 0, .float .f64 z, .int .u8 2]) ∧ Below w.heap.size w w' := by
  have D := dimension 2 (.inr (.inr (.inl rfl)))
  rw [show widthI 2 = 3 from rfl] at D
  replace D := hid D
  have hg := World.block_lt_of_cell? w _ h0
  simp only at hg
  have m0 : IntKind.i64.wrap ((i : Int) * 3) = (p : Int) := by rw [show (i : Int) * 3 = (p : Int) from by omega]; exact IntWalk.i64_in _ (by omega)
  have m1 : IntKind.i64.wrap ((p : Int) + 1) = (p : Int) + 1 := IntWalk.i64_in _ (by omega)
  have m2 : IntKind.i64.wrap ((p : Int) + 2) = (p : Int) + 2 := IntWalk.i64_in _ (by omega)
  have j0 : (0 : Int) ≤ (p : Int) := by omega
  have j1 : (p : Int) < (n : Int) := by omega
  have k1 : (0 : Int) ≤ (p : Int) + 1 := by omega
  have l1 : (p : Int) + 1 < (n : Int) := by omega
  have k2 : (0 : Int) ≤ (p : Int) + 2 := by omega
  have l2 : (p : Int) + 2 < (n : Int) := by omega
  clear hp
  go_enter Try.func134, Try.ntmps134
  go_wp2_with fail
  refine lettered (R := fun wz => Calls _ _ _ wz _) (fun wz => wz.cell? ⟨w.heap.size, 0, none⟩ = some (.int .u8 2) ∧ wz.cell? ⟨w.heap.size, 1, none⟩ = some (.slice (some ⟨g, 0, none⟩) n c) ∧ wz.cell? ⟨w.heap.size + 1, 0, none⟩ = some (.float .f64 0) ∧ wz.cell? ⟨w.heap.size + 1, 1, none⟩ = some (.float .f64 0) ∧ wz.cell? ⟨w.heap.size + 1, 2, none⟩ = some (.float .f64 0) ∧ wz.cell? ⟨w.heap.size + 1, 3, none⟩ = some (.float .f64 0) ∧ wz.cell? ⟨w.heap.size + 1, 4, none⟩ = some (.int .u8 0) ∧ wz.frozen? ⟨w.heap.size + 1, 0, none⟩ = false ∧ wz.frozen? ⟨w.heap.size + 1, 1, none⟩ = false ∧ wz.frozen? ⟨w.heap.size + 1, 2, none⟩ = false ∧ wz.frozen? ⟨w.heap.size + 1, 3, none⟩ = false ∧ wz.frozen? ⟨w.heap.size + 1, 4, none⟩ = false ∧ wz.cell? ⟨g, p, none⟩ = some (.float .f64 x) ∧ wz.cell? ⟨g, p + 1, none⟩ = some (.float .f64 y) ∧ wz.cell? ⟨g, p + 2, none⟩ = some (.float .f64 z) ∧ w.heap.size + 2 ≤ wz.heap.size ∧ Below w.heap.size w wz) ⟨by go_cell, by go_cell, by go_cell, by go_cell, by go_cell, by go_cell, by go_cell, by go_cell, by go_cell, by go_cell, by go_cell, by go_cell, by go_cell, by go_cell, by go_cell, by simp, by go_grown⟩ ?_
  rintro wz ⟨c00, c01, c10, c11, c12, c13, c14, z10, z11, z12, z13, z14, e0, e1, e2, hsz, hb⟩
  have HB := hid hb
  clear hb
  have ng : ¬ g = w.heap.size := by omega
  go_wp2_with (first | (go_at_call 104; (with_reducible refine (D.out _).mono ?_); rintro e w' ⟨rfl, hbl⟩; obtain ⟨nx, rfl⟩ := later1 (lat (wz := wz) (by repeat (first | (with_reducible exact below_later _ _) | (with_reducible exact Below.refl _ _) | (with_reducible assumption) | (with_reducible refine Below.drew ?_) | (with_reducible refine Below.alloc ?_ (by (first | (with_reducible exact Nat.le_refl _) | (with_reducible exact (below_later _ _).size) | omega | (simp; done) | (simp; omega))) _))) hbl); clear hbl))
  refine lettered (R := fun wz2 => Code.wp _ _ _ _ wz2) (fun wz2 => wz2.cell? ⟨w.heap.size, 0, none⟩ = some (.int .u8 2) ∧ wz2.cell? ⟨w.heap.size, 1, none⟩ = some (.slice (some ⟨g, 0, none⟩) n c) ∧ wz2.cell? ⟨w.heap.size + 1, 0, none⟩ = some (.float .f64 0) ∧ wz2.cell? ⟨w.heap.size + 1, 1, none⟩ = some (.float .f64 0) ∧ wz2.cell? ⟨w.heap.size + 1, 2, none⟩ = some (.float .f64 0) ∧ wz2.cell? ⟨w.heap.size + 1, 3, none⟩ = some (.float .f64 0) ∧ wz2.cell? ⟨w.heap.size + 1, 4, none⟩ = some (.int .u8 0) ∧ wz2.frozen? ⟨w.heap.size + 1, 0, none⟩ = false ∧ wz2.frozen? ⟨w.heap.size + 1, 1, none⟩ = false ∧ wz2.frozen? ⟨w.heap.size + 1, 2, none⟩ = false ∧ wz2.frozen? ⟨w.heap.size + 1, 3, none⟩ = false ∧ wz2.frozen? ⟨w.heap.size + 1, 4, none⟩ = false ∧ wz2.cell? ⟨g, p, none⟩ = some (.float .f64 x) ∧ wz2.cell? ⟨g, p + 1, none⟩ = some (.float .f64 y) ∧ wz2.cell? ⟨g, p + 2, none⟩ = some (.float .f64 z) ∧ g < wz2.heap.size ∧ w.heap.size < wz2.heap.size ∧ w.heap.size + 1 < wz2.heap.size ∧ Below w.heap.size w wz2) ⟨by go_cell, by go_cell, by go_cell, by go_cell, by go_cell, by go_cell, by go_cell, by go_cell, by go_cell, by go_cell, by go_cell, by go_cell, by go_cell, by go_cell, by go_cell, by have := (below_later wz nx).size; omega, by have := (below_later wz nx).size; omega, by have := (below_later wz nx).size; omega, HB.out.trans ((below_later _ _).mono HB.out.size)⟩ ?_
  rintro wz2 ⟨c2_0_0, c2_0_1, c2_1_0, c2_1_1, c2_1_2, c2_1_3, c2_1_4, z2_1_0, z2_1_1, z2_1_2, z2_1_3, z2_1_4, f0, f1, f2, hs2_0, hs2_1, hs2_2, hb⟩
  clear HB
  have HB := hid hb
  clear hb
  have ng2 : ¬ g = wz2.heap.size := by omega
  have nb : ¬ w.heap.size = wz2.heap.size := by omega
  have nb2 : ¬ w.heap.size + 1 = wz2.heap.size := by omega
  clear c00 c01 c10 c11 c12 c13 c14 z10 z11 z12 z13 z14 e0 e1 e2 h0 h1 h2
  refine wp_region_ord (S := (fun w' => ∃ e, w' = laterB (wz2.heap.size) wz2 e)) [(0, false), (1, false), (2, false), (3, false), (4, false), (5, false), (6, false), (7, false), (8, false), (9, false), (10, false), (11, false), (12, false), (13, false), (14, false), (15, false), (16, false), (17, false), (18, false), (19, true), (20, true)] (by kernel_rfl) (by kernel_rfl) (fun _ _ d _ _ h => by cases d <;> exact h) ⟨_, (laterB_of (by repeat (first | (with_reducible assumption) | (with_reducible exact (below_later _ _).mono (by omega)) | (with_reducible exact Below.refl _ _) | (with_reducible refine Below.drew ?_) | (with_reducible refine Below.setCell ?_ (by first | omega | (simp; done) | (simp; omega)) _) | (with_reducible refine Below.alloc ?_ (by first | omega | (simp; omega) | (have := (below_later wz2 nx).size; simp; omega)) _)))).symm⟩ ?_
  simp only [pickO, List.filterMap_cons, List.filterMap_nil, List.getElem?_cons_succ, List.getElem?_cons_zero, Option.map_some]
  repeat (first
    | ((with_reducible refine wpOrd_light (fun K hK => ?_)); go_simp; (first | (with_reducible refine hK _ ?_) | (rw [if_neg (by intro h; cases h)]; with_reducible refine hK _ ?_)); clear hK K)
    | ((with_reducible refine wpOrd_heavy (fun K L hK hL => ?_)); go_simp; (first | (with_reducible refine hL _ ?_) | (rw [if_neg (by intro h; cases h)]; with_reducible refine hL _ ?_)); clear hK hL K L)
    | ((with_reducible refine wpOrd_heavy (fun K L hK hL => ?_)); go_simp; (with_reducible refine hK _ _ ?_ ?_); (focus (exact ⟨_, (laterB_of (by repeat (first | (with_reducible assumption) | (with_reducible exact (below_later _ _).mono (by omega)) | (with_reducible exact Below.refl _ _) | (with_reducible refine Below.drew ?_) | (with_reducible refine Below.setCell ?_ (by first | omega | (simp; done) | (simp; omega)) _) | (with_reducible refine Below.alloc ?_ (by first | omega | (simp; omega) | (have := (below_later wz2 nx).size; simp; omega)) _)))).symm⟩)); clear hK hL K L))
  refine wpOrd_nil ?_
  go_wp2_with fail
  refine bodyPost_ret (ret1 (b := w.heap.size + 1) (cs := [.float .f64 x, .float .f64 y, .float .f64 0, .float .f64 z, .int .u8 2]) Try.results134 rfl Try.underlying124 rfl (by kernel_rfl) ⟨by go_cell, by go_cell, by go_cell, by go_cell, by go_cell, trivial⟩) rfl ?_
  exact ⟨rfl, by
    have hB := HB.out
    repeat' (first | (with_reducible exact hB) | (with_reducible refine Below.setCell ?_ ?_ _) | (with_reducible refine Below.alloc ?_ ?_ _) | (with_reducible refine Below.drew ?_) | (with_reducible exact hB.size) | omega | (simp; done) | (simp; omega))⟩
set_option maxHeartbeats 2000000 in
theorem getC3 (g n c i p x y z m : Nat) (hp : p = i * 4) (hpn : p + 4 ≤ n) (hn : n < 2000) (w : World) (h0 : w.cell? ⟨g, p, none⟩ = some (.float .f64 x)) (h1 : w.cell? ⟨g, p + 1, none⟩ = some (.float .f64 y)) (h2 : w.cell? ⟨g, p + 2, none⟩ = some (.float .f64 z)) (h3 : w.cell? ⟨g, p + 3, none⟩ = some (.float .f64 m)) :
    Calls Try.prog 134 #[.agg #[.int .u8 3, .slice (some ⟨g, 0, none⟩) n c], .int .i64 (i : Int)] w fun e w' => e = .returned (.agg #[.float .f64 x, .float .f64 y, .float .f64 z, .float .f64 m, .int .u8 3]) ∧ Below w.heap.size w w' := by
  have D := dimension 3 (.inr (.inr (.inr rfl)))
  rw [show widthI 3 = 4 from rfl] at D
  replace D := hid D
  have hg := World.block_lt_of_cell? w _ h0
  simp only at hg
  have m0 : IntKind.i64.wrap ((i : Int) * 4) = (p : Int) := by rw [show (i : Int) * 4 = (p : Int) from by omega]; exact IntWalk.i64_in _ (by omega)
  have m1 : IntKind.i64.wrap ((p : Int) + 1) = (p : Int) + 1 := IntWalk.i64_in _ (by omega)
  have m2 : IntKind.i64.wrap ((p : Int) + 2) = (p : Int) + 2 := IntWalk.i64_in _ (by omega)
  have m3 : IntKind.i64.wrap ((p : Int) + 3) = (p : Int) + 3 := IntWalk.i64_in _ (by omega)
  have j0 : (0 : Int) ≤ (p : Int) := by omega
  have j1 : (p : Int) < (n : Int) := by omega
  have k1 : (0 : Int) ≤ (p : Int) + 1 := by omega
  have l1 : (p : Int) + 1 < (n : Int) := by omega
  have k2 : (0 : Int) ≤ (p : Int) + 2 := by omega
  have l2 : (p : Int) + 2 < (n : Int) := by omega
  have k3 : (0 : Int) ≤ (p : Int) + 3 := by omega
  have l3 : (p : Int) + 3 < (n : Int) := by omega
  clear hp
  go_enter Try.func134, Try.ntmps134
  go_wp2_with fail
  refine lettered (R := fun wz => Calls _ _ _ wz _) (fun wz => wz.cell? ⟨w.heap.size, 0, none⟩ = some (.int .u8 3) ∧ wz.cell? ⟨w.heap.size, 1, none⟩ = some (.slice (some ⟨g, 0, none⟩) n c) ∧ wz.cell? ⟨w.heap.size + 1, 0, none⟩ = some (.float .f64 0) ∧ wz.cell? ⟨w.heap.size + 1, 1, none⟩ = some (.float .f64 0) ∧ wz.cell? ⟨w.heap.size + 1, 2, none⟩ = some (.float .f64 0) ∧ wz.cell? ⟨w.heap.size + 1, 3, none⟩ = some (.float .f64 0) ∧ wz.cell? ⟨w.heap.size + 1, 4, none⟩ = some (.int .u8 0) ∧ wz.frozen? ⟨w.heap.size + 1, 0, none⟩ = false ∧ wz.frozen? ⟨w.heap.size + 1, 1, none⟩ = false ∧ wz.frozen? ⟨w.heap.size + 1, 2, none⟩ = false ∧ wz.frozen? ⟨w.heap.size + 1, 3, none⟩ = false ∧ wz.frozen? ⟨w.heap.size + 1, 4, none⟩ = false ∧ wz.cell? ⟨g, p, none⟩ = some (.float .f64 x) ∧ wz.cell? ⟨g, p + 1, none⟩ = some (.float .f64 y) ∧ wz.cell? ⟨g, p + 2, none⟩ = some (.float .f64 z) ∧ wz.cell? ⟨g, p + 3, none⟩ = some (.float .f64 m) ∧ w.heap.size + 2 ≤ wz.heap.size ∧ Below w.heap.size w wz) ⟨by go_cell, by go_cell, by go_cell, by go_cell, by go_cell, by go_cell, by go_cell, by go_cell, by go_cell, by go_cell, by go_cell, by go_cell, by go_cell, by go_cell, by go_cell, by go_cell, by simp, by go_grown⟩ ?_
  rintro wz ⟨c00, c01, c10, c11, c12, c13, c14, z10, z11, z12, z13, z14, e0, e1, e2, e3, hsz, hb⟩
  have HB := hid hb
  clear hb
  have ng : ¬ g = w.heap.size := by omega
  go_wp2_with (first | (go_at_call 104; (with_reducible refine (D.out _).mono ?_); rintro e w' ⟨rfl, hbl⟩; obtain ⟨nx, rfl⟩ := later1 (lat (wz := wz) (by repeat (first | (with_reducible exact below_later _ _) | (with_reducible exact Below.refl _ _) | (with_reducible assumption) | (with_reducible refine Below.drew ?_) | (with_reducible refine Below.alloc ?_ (by (first | (with_reducible exact Nat.le_refl _) | (with_reducible exact (below_later _ _).size) | omega | (simp; done) | (simp; omega))) _))) hbl); clear hbl))
  refine lettered (R := fun wz2 => Code.wp _ _ _ _ wz2) (fun wz2 => wz2.cell? ⟨w.heap.size, 0, none⟩ = some (.int .u8 3) ∧ wz2.cell? ⟨w.heap.size, 1, none⟩ = some (.slice (some ⟨g, 0, none⟩) n c) ∧ wz2.cell? ⟨w.heap.size + 1, 0, none⟩ = some (.float .f64 0) ∧ wz2.cell? ⟨w.heap.size + 1, 1, none⟩ = some (.float .f64 0) ∧ wz2.cell? ⟨w.heap.size + 1, 2, none⟩ = some (.float .f64 0) ∧ wz2.cell? ⟨w.heap.size + 1, 3, none⟩ = some (.float .f64 0) ∧ wz2.cell? ⟨w.heap.size + 1, 4, none⟩ = some (.int .u8 0) ∧ wz2.frozen? ⟨w.heap.size + 1, 0, none⟩ = false ∧ wz2.frozen? ⟨w.heap.size + 1, 1, none⟩ = false ∧ wz2.frozen? ⟨w.heap.size + 1, 2, none⟩ = false ∧ wz2.frozen? ⟨w.heap.size + 1, 3, none⟩ = false ∧ wz2.frozen? ⟨w.heap.size + 1, 4, none⟩ = false ∧ wz2.cell? ⟨g, p, none⟩ = some (.float .f64 x) ∧ wz2.cell? ⟨g, p + 1, none⟩ = some (.float .f64 y) ∧ wz2.cell? ⟨g, p + 2, none⟩ = some (.float .f64 z) ∧ wz2.cell? ⟨g, p + 3, none⟩ = some (.float .f64 m) ∧ g < wz2.heap.size ∧ w.heap.size < wz2.heap.size ∧ w.heap.size + 1 < wz2.heap.size ∧ Below w.heap.size w wz2) ⟨by go_cell, by go_cell, by go_cell, by go_cell, by go_cell, by go_cell, by go_cell, by go_cell, by go_cell, by go_cell, by go_cell, by go_cell, by go_cell, by go_cell, by go_cell, by go_cell, by have := (below_later wz nx).size; omega, by have := (below_later wz nx).size; omega, by have := (below_later wz nx).size; omega, HB.out.trans ((below_later _ _).mono HB.out.size)⟩ ?_
  rintro wz2 ⟨c2_0_0, c2_0_1, c2_1_0, c2_1_1, c2_1_2, c2_1_3, c2_1_4, z2_1_0, z2_1_1, z2_1_2, z2_1_3, z2_1_4, f0, f1, f2, f3, hs2_0, hs2_1, hs2_2, hb⟩
  clear HB
  have HB := hid hb
  clear hb
  have ng2 : ¬ g = wz2.heap.size := by omega
  have nb : ¬ w.heap.size = wz2.heap.size := by omega
  have nb2 : ¬ w.heap.size + 1 = wz2.heap.size := by omega
  clear c00 c01 c10 c11 c12 c13 c14 z10 z11 z12 z13 z14 e0 e1 e2 e3 h0 h1 h2 h3
  refine wp_region_ord (S := (fun w' => ∃ e, w' = laterB (wz2.heap.size) wz2 e)) [(0, false), (1, false), (2, false), (3, false), (4, false), (5, false), (6, false), (7, false), (8, false), (9, false), (10, false), (11, false), (12, false), (13, false), (14, false), (15, false), (16, false), (17, false), (18, false), (19, true), (20, true)] (by kernel_rfl) (by kernel_rfl) (fun _ _ d _ _ h => by cases d <;> exact h) ⟨_, (laterB_of (by repeat (first | (with_reducible assumption) | (with_reducible exact (below_later _ _).mono (by omega)) | (with_reducible exact Below.refl _ _) | (with_reducible refine Below.drew ?_) | (with_reducible refine Below.setCell ?_ (by first | omega | (simp; done) | (simp; omega)) _) | (with_reducible refine Below.alloc ?_ (by first | omega | (simp; omega) | (have := (below_later wz2 nx).size; simp; omega)) _)))).symm⟩ ?_
  simp only [pickO, List.filterMap_cons, List.filterMap_nil, List.getElem?_cons_succ, List.getElem?_cons_zero, Option.map_some]
  repeat (first
    | ((with_reducible refine wpOrd_light (fun K hK => ?_)); go_simp; (first | (with_reducible refine hK _ ?_) | (rw [if_neg (by intro h; cases h)]; with_reducible refine hK _ ?_)); clear hK K)
    | ((with_reducible refine wpOrd_heavy (fun K L hK hL => ?_)); go_simp; (first | (with_reducible refine hL _ ?_) | (rw [if_neg (by intro h; cases h)]; with_reducible refine hL _ ?_)); clear hK hL K L)
    | ((with_reducible refine wpOrd_heavy (fun K L hK hL => ?_)); go_simp; (with_reducible refine hK _ _ ?_ ?_); (focus (exact ⟨_, (laterB_of (by repeat (first | (with_reducible assumption) | (with_reducible exact (below_later _ _).mono (by omega)) | (with_reducible exact Below.refl _ _) | (with_reducible refine Below.drew ?_) | (with_reducible refine Below.setCell ?_ (by first | omega | (simp; done) | (simp; omega)) _) | (with_reducible refine Below.alloc ?_ (by first | omega | (simp; omega) | (have := (below_later wz2 nx).size; simp; omega)) _)))).symm⟩)); clear hK hL K L))
  refine wpOrd_nil ?_
  go_wp2_with fail
  refine bodyPost_ret (ret1 (b := w.heap.size + 1) (cs := [.float .f64 x, .float .f64 y, .float .f64 z, .float .f64 m, .int .u8 3]) Try.results134 rfl Try.underlying124 rfl (by kernel_rfl) ⟨by go_cell, by go_cell, by go_cell, by go_cell, by go_cell, trivial⟩) rfl ?_
  exact ⟨rfl, by
    have hB := HB.out
    repeat' (first | (with_reducible exact hB) | (with_reducible refine Below.setCell ?_ ?_ _) | (with_reducible refine Below.alloc ?_ ?_ _) | (with_reducible refine Below.drew ?_) | (with_reducible exact hB.size) | omega | (simp; done) | (simp; omega))⟩
end Go.Proofs.Ytbcjlgkdmkehlaa
