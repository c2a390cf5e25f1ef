/- The law FnEnvEnds holds of every envelope: one with finite ends has the points of its least and of its greatest X and Y; the empty one has the empty point twice. The call returns true and leaves memory as it was. Conditions: none. -/
import Derived.Test.YtbcjlgkdmkehlaaRows
import Derived.Test.YtbcjlgkdmkehlaaEndp
import Derived.Test.YtbcjlgkdmkehlaaTre
namespace Go.Proofs.Ytbcjlgkdmkehlaa
open Go.ChangeShapes Go.WideShapes Go.ChangeAt Go.RowKit Fl
set_option maxRecDepth 100000
set_option linter.unusedSimpArgs false
theorem RowOf.get0 {w : World} {g : Nat} {u0 u1 : Value} (h : RowOf w g [u0, u1]) : w.cell? ⟨g, 0, none⟩ = some u0 := h 0 _ rfl
theorem RowOf.get1 {w : World} {g : Nat} {u0 u1 : Value} (h : RowOf w g [u0, u1]) : w.cell? ⟨g, 1, none⟩ = some u1 := h 1 _ rfl
theorem RowOf.below {w w' : World} {g B : Nat} {xs : List Value} (h : RowOf w g xs) (hb : Below B w w') (hg : g < B) : RowOf w' g xs := fun j u hu => (hb.cell (p := ⟨g, j, none⟩) hg).trans (h j u hu)
theorem envMin (a b c d : Nat) (lx ly hx hy : Nat) (hE : ∀ w, Calls Try.prog 80 #[.agg #[.bool true, .float .f64 a, .float .f64 b, .float .f64 c, .float .f64 d]] w fun e w' => e = .returned (.agg #[.float .f64 lx, .float .f64 ly, .float .f64 hx, .float .f64 hy, .bool true]) ∧ Below w.heap.size w w') (w : World) :
    Calls Try.prog 53 #[.agg #[.bool true, .float .f64 a, .float .f64 b, .float .f64 c, .float .f64 d]] w fun e w' => ∃ g cp, e = .returned (.agg #[.int .i64 1, .int .i64 0, .slice (some ⟨g, 0, none⟩) 2 cp, .slice none 0 0]) ∧ w.heap.size ≤ g ∧ g < w'.heap.size ∧ 2 ≤ cp ∧ RowOf w' g [.float .f64 lx, .float .f64 ly] ∧ Below w.heap.size w w' := by
  have M := envMinT lx ly hx hy
  have P := plainPointT lx ly
  unfold pointV at *
  replace M := hid M
  replace P := hid P
  replace hE := hid hE
  go_enter Try.func53, Try.ntmps53
  go_wp2_with fail
  refine lettered (R := fun wz => Calls _ _ _ wz _) (fun wz => wz.cell? ⟨w.heap.size, 0, none⟩ = some (.bool true) ∧ wz.cell? ⟨w.heap.size, 1, none⟩ = some (.float .f64 a) ∧ wz.cell? ⟨w.heap.size, 2, none⟩ = some (.float .f64 b) ∧ wz.cell? ⟨w.heap.size, 3, none⟩ = some (.float .f64 c) ∧ wz.cell? ⟨w.heap.size, 4, none⟩ = some (.float .f64 d) ∧ wz.cell? ⟨w.heap.size + 1, 0, none⟩ = some (.int .i64 0) ∧ wz.cell? ⟨w.heap.size + 1, 1, none⟩ = some (.int .i64 0) ∧ wz.cell? ⟨w.heap.size + 1, 2, none⟩ = some (.slice none 0 0) ∧ wz.cell? ⟨w.heap.size + 1, 3, none⟩ = some (.slice none 0 0) ∧ wz.frozen? ⟨w.heap.size + 1, 0, none⟩ = false ∧ wz.frozen? ⟨w.heap.size + 1, 1, none⟩ = false ∧ wz.frozen? ⟨w.heap.size + 1, 2, none⟩ = false ∧ wz.frozen? ⟨w.heap.size + 1, 3, none⟩ = false ∧ w.heap.size + 2 ≤ wz.heap.size ∧ Below w.heap.size w wz) ⟨by go_cell, by go_cell, by go_cell, by go_cell, by go_cell, by go_cell, by go_cell, by go_cell, by go_cell, by go_cell, by go_cell, by go_cell, by go_cell, by simp, by go_grown⟩ ?_
  rintro wz ⟨c00, c01, c02, c03, c04, c10, c11, c12, c13, z10, z11, z12, z13, hsz, hb⟩
  have HB := hid hb
  clear hb
  go_wp2_with (first | (go_at_call 80; (with_reducible refine (hE.out _).mono ?_); rintro e w' ⟨rfl, hbl⟩; obtain ⟨nx, rfl⟩ := later1 (lat (wz := wz) (by repeat (first | (with_reducible exact below_later _ _) | (with_reducible exact Below.refl _ _) | (with_reducible assumption) | (with_reducible refine Below.drew ?_) | (with_reducible refine Below.alloc ?_ (by (first | (with_reducible exact Nat.le_refl _) | (with_reducible exact (below_later _ _).size) | omega | (simp; done) | (simp; omega))) _))) hbl); clear hbl) | (go_at_call 92; (with_reducible refine (M.out _).mono ?_); rintro e w' ⟨rfl, hbl⟩; obtain ⟨nx, rfl⟩ := later1 (lat (wz := wz) (by repeat (first | (with_reducible exact below_later _ _) | (with_reducible exact Below.refl _ _) | (with_reducible assumption) | (with_reducible refine Below.drew ?_) | (with_reducible refine Below.alloc ?_ (by (first | (with_reducible exact Nat.le_refl _) | (with_reducible exact (below_later _ _).size) | omega | (simp; done) | (simp; omega))) _))) hbl); clear hbl) | (go_at_call 91; (with_reducible refine (P.out _).mono ?_); rintro e w' ⟨g, cp, rfl, a1, a2, a3, a4, hbl⟩; have a0 := (below_later wz nx).size; obtain ⟨nx, rfl⟩ := later1 (lat (wz := wz) (by repeat (first | (with_reducible exact below_later _ _) | (with_reducible exact Below.refl _ _) | (with_reducible assumption) | (with_reducible refine Below.drew ?_) | (with_reducible refine Below.alloc ?_ (by (first | (with_reducible exact Nat.le_refl _) | (with_reducible exact (below_later _ _).size) | omega | (simp; done) | (simp; omega))) _))) hbl); clear hbl; have r0 := a4.get0; have r1 := a4.get1; clear a4; have hgg : ¬ w.heap.size + 1 = g := (by omega); have hgg' : ¬ w.heap.size = g := (by omega); have hgl : w.heap.size ≤ g := (by omega)))
  refine bodyPost_ret (ret1 (b := w.heap.size + 1) (cs := [.int .i64 1, .int .i64 0, .slice (some ⟨g, 0, none⟩) 2 cp, .slice none 0 0]) Try.results53 rfl Try.underlying49 rfl (by kernel_rfl) ⟨by go_cell, by go_cell, by go_cell, by go_cell, trivial⟩) rfl ?_
  have hZ := HB.out.trans ((below_later wz nx).mono HB.out.size)
  exact ⟨g, cp, rfl, hgl, by simp; omega, a3, rowOf2 (by go_cell) (by go_cell), by
    repeat' (first | (with_reducible exact hZ) | (with_reducible refine Below.setCell ?_ ?_ _) | omega | (simp; done) | (simp; omega))⟩
theorem envMax (a b c d : Nat) (lx ly hx hy : Nat) (hE : ∀ w, Calls Try.prog 80 #[.agg #[.bool true, .float .f64 a, .float .f64 b, .float .f64 c, .float .f64 d]] w fun e w' => e = .returned (.agg #[.float .f64 lx, .float .f64 ly, .float .f64 hx, .float .f64 hy, .bool true]) ∧ Below w.heap.size w w') (w : World) :
    Calls Try.prog 54 #[.agg #[.bool true, .float .f64 a, .float .f64 b, .float .f64 c, .float .f64 d]] w fun e w' => ∃ g cp, e = .returned (.agg #[.int .i64 1, .int .i64 0, .slice (some ⟨g, 0, none⟩) 2 cp, .slice none 0 0]) ∧ w.heap.size ≤ g ∧ g < w'.heap.size ∧ 2 ≤ cp ∧ RowOf w' g [.float .f64 hx, .float .f64 hy] ∧ Below w.heap.size w w' := by
  have M := envMaxT lx ly hx hy
  have P := plainPointT hx hy
  unfold pointV at *
  replace M := hid M
  replace P := hid P
  replace hE := hid hE
  go_enter Try.func54, Try.ntmps54
  go_wp2_with fail
  refine lettered (R := fun wz => Calls _ _ _ wz _) (fun wz => wz.cell? ⟨w.heap.size, 0, none⟩ = some (.bool true) ∧ wz.cell? ⟨w.heap.size, 1, none⟩ = some (.float .f64 a) ∧ wz.cell? ⟨w.heap.size, 2, none⟩ = some (.float .f64 b) ∧ wz.cell? ⟨w.heap.size, 3, none⟩ = some (.float .f64 c) ∧ wz.cell? ⟨w.heap.size, 4, none⟩ = some (.float .f64 d) ∧ wz.cell? ⟨w.heap.size + 1, 0, none⟩ = some (.int .i64 0) ∧ wz.cell? ⟨w.heap.size + 1, 1, none⟩ = some (.int .i64 0) ∧ wz.cell? ⟨w.heap.size + 1, 2, none⟩ = some (.slice none 0 0) ∧ wz.cell? ⟨w.heap.size + 1, 3, none⟩ = some (.slice none 0 0) ∧ wz.frozen? ⟨w.heap.size + 1, 0, none⟩ = false ∧ wz.frozen? ⟨w.heap.size + 1, 1, none⟩ = false ∧ wz.frozen? ⟨w.heap.size + 1, 2, none⟩ = false ∧ wz.frozen? ⟨w.heap.size + 1, 3, none⟩ = false ∧ w.heap.size + 2 ≤ wz.heap.size ∧ Below w.heap.size w wz) ⟨by go_cell, by go_cell, by go_cell, by go_cell, by go_cell, by go_cell, by go_cell, by go_cell, by go_cell, by go_cell, by go_cell, by go_cell, by go_cell, by simp, by go_grown⟩ ?_
  rintro wz ⟨c00, c01, c02, c03, c04, c10, c11, c12, c13, z10, z11, z12, z13, hsz, hb⟩
  have HB := hid hb
  clear hb
  go_wp2_with (first | (go_at_call 80; (with_reducible refine (hE.out _).mono ?_); rintro e w' ⟨rfl, hbl⟩; obtain ⟨nx, rfl⟩ := later1 (lat (wz := wz) (by repeat (first | (with_reducible exact below_later _ _) | (with_reducible exact Below.refl _ _) | (with_reducible assumption) | (with_reducible refine Below.drew ?_) | (with_reducible refine Below.alloc ?_ (by (first | (with_reducible exact Nat.le_refl _) | (with_reducible exact (below_later _ _).size) | omega | (simp; done) | (simp; omega))) _))) hbl); clear hbl) | (go_at_call 93; (with_reducible refine (M.out _).mono ?_); rintro e w' ⟨rfl, hbl⟩; obtain ⟨nx, rfl⟩ := later1 (lat (wz := wz) (by repeat (first | (with_reducible exact below_later _ _) | (with_reducible exact Below.refl _ _) | (with_reducible assumption) | (with_reducible refine Below.drew ?_) | (with_reducible refine Below.alloc ?_ (by (first | (with_reducible exact Nat.le_refl _) | (with_reducible exact (below_later _ _).size) | omega | (simp; done) | (simp; omega))) _))) hbl); clear hbl) | (go_at_call 91; (with_reducible refine (P.out _).mono ?_); rintro e w' ⟨g, cp, rfl, a1, a2, a3, a4, hbl⟩; have a0 := (below_later wz nx).size; obtain ⟨nx, rfl⟩ := later1 (lat (wz := wz) (by repeat (first | (with_reducible exact below_later _ _) | (with_reducible exact Below.refl _ _) | (with_reducible assumption) | (with_reducible refine Below.drew ?_) | (with_reducible refine Below.alloc ?_ (by (first | (with_reducible exact Nat.le_refl _) | (with_reducible exact (below_later _ _).size) | omega | (simp; done) | (simp; omega))) _))) hbl); clear hbl; have r0 := a4.get0; have r1 := a4.get1; clear a4; have hgg : ¬ w.heap.size + 1 = g := (by omega); have hgg' : ¬ w.heap.size = g := (by omega); have hgl : w.heap.size ≤ g := (by omega)))
  refine bodyPost_ret (ret1 (b := w.heap.size + 1) (cs := [.int .i64 1, .int .i64 0, .slice (some ⟨g, 0, none⟩) 2 cp, .slice none 0 0]) Try.results54 rfl Try.underlying49 rfl (by kernel_rfl) ⟨by go_cell, by go_cell, by go_cell, by go_cell, trivial⟩) rfl ?_
  have hZ := HB.out.trans ((below_later wz nx).mono HB.out.size)
  exact ⟨g, cp, rfl, hgl, by simp; omega, a3, rowOf2 (by go_cell) (by go_cell), by
    repeat' (first | (with_reducible exact hZ) | (with_reducible refine Below.setCell ?_ ?_ _) | omega | (simp; done) | (simp; omega))⟩
theorem envMinN (a b c d : Nat) (w : World) : Calls Try.prog 53 #[.agg #[.bool false, .float .f64 a, .float .f64 b, .float .f64 c, .float .f64 d]] w fun e w' => e = .returned (.agg #[.int .i64 1, .int .i64 0, .slice none 0 0, .slice none 0 0]) ∧ Below w.heap.size w w' := by
  have hE := envelopeN a b c d
  have M := envMinF
  have P := plainPointF 0 0
  unfold pointV at *
  replace M := hid M
  replace P := hid P
  replace hE := hid hE
  go_enter Try.func53, Try.ntmps53
  go_wp2_with fail
  refine lettered (R := fun wz => Calls _ _ _ wz _) (fun wz => wz.cell? ⟨w.heap.size, 0, none⟩ = some (.bool false) ∧ wz.cell? ⟨w.heap.size, 1, none⟩ = some (.float .f64 a) ∧ wz.cell? ⟨w.heap.size, 2, none⟩ = some (.float .f64 b) ∧ wz.cell? ⟨w.heap.size, 3, none⟩ = some (.float .f64 c) ∧ wz.cell? ⟨w.heap.size, 4, none⟩ = some (.float .f64 d) ∧ wz.cell? ⟨w.heap.size + 1, 0, none⟩ = some (.int .i64 0) ∧ wz.cell? ⟨w.heap.size + 1, 1, none⟩ = some (.int .i64 0) ∧ wz.cell? ⟨w.heap.size + 1, 2, none⟩ = some (.slice none 0 0) ∧ wz.cell? ⟨w.heap.size + 1, 3, none⟩ = some (.slice none 0 0) ∧ wz.frozen? ⟨w.heap.size + 1, 0, none⟩ = false ∧ wz.frozen? ⟨w.heap.size + 1, 1, none⟩ = false ∧ wz.frozen? ⟨w.heap.size + 1, 2, none⟩ = false ∧ wz.frozen? ⟨w.heap.size + 1, 3, none⟩ = false ∧ w.heap.size + 2 ≤ wz.heap.size ∧ Below w.heap.size w wz) ⟨by go_cell, by go_cell, by go_cell, by go_cell, by go_cell, by go_cell, by go_cell, by go_cell, by go_cell, by go_cell, by go_cell, by go_cell, by go_cell, by simp, by go_grown⟩ ?_
  rintro wz ⟨c00, c01, c02, c03, c04, c10, c11, c12, c13, z10, z11, z12, z13, hsz, hb⟩
  have HB := hid hb
  clear hb
  go_wp2_with (first | (go_at_call 80; (with_reducible refine (hE.out _).mono ?_); rintro e w' ⟨rfl, hbl⟩; obtain ⟨nx, rfl⟩ := later1 (lat (wz := wz) (by repeat (first | (with_reducible exact below_later _ _) | (with_reducible exact Below.refl _ _) | (with_reducible assumption) | (with_reducible refine Below.drew ?_) | (with_reducible refine Below.alloc ?_ (by (first | (with_reducible exact Nat.le_refl _) | (with_reducible exact (below_later _ _).size) | omega | (simp; done) | (simp; omega))) _))) hbl); clear hbl) | (go_at_call 92; (with_reducible refine (M.out _).mono ?_); rintro e w' ⟨rfl, hbl⟩; obtain ⟨nx, rfl⟩ := later1 (lat (wz := wz) (by repeat (first | (with_reducible exact below_later _ _) | (with_reducible exact Below.refl _ _) | (with_reducible assumption) | (with_reducible refine Below.drew ?_) | (with_reducible refine Below.alloc ?_ (by (first | (with_reducible exact Nat.le_refl _) | (with_reducible exact (below_later _ _).size) | omega | (simp; done) | (simp; omega))) _))) hbl); clear hbl) | (go_at_call 91; (with_reducible refine (P.out _).mono ?_); rintro e w' ⟨rfl, hbl⟩; obtain ⟨nx, rfl⟩ := later1 (lat (wz := wz) (by repeat (first | (with_reducible exact below_later _ _) | (with_reducible exact Below.refl _ _) | (with_reducible assumption) | (with_reducible refine Below.drew ?_) | (with_reducible refine Below.alloc ?_ (by (first | (with_reducible exact Nat.le_refl _) | (with_reducible exact (below_later _ _).size) | omega | (simp; done) | (simp; omega))) _))) hbl); clear hbl))
  refine bodyPost_ret (ret1 (b := w.heap.size + 1) (cs := [.int .i64 1, .int .i64 0, .slice none 0 0, .slice none 0 0]) Try.results53 rfl Try.underlying49 rfl (by kernel_rfl) ⟨by go_cell, by go_cell, by go_cell, by go_cell, trivial⟩) rfl ?_
  exact ⟨rfl, by
    have hB := HB.out.trans ((below_later wz nx).mono HB.out.size)
    repeat' (first | (with_reducible exact hB) | (with_reducible refine Below.setCell ?_ ?_ _) | (with_reducible refine Below.alloc ?_ ?_ _) | (with_reducible refine Below.drew ?_) | (with_reducible exact hB.size) | omega | (simp; done) | (simp; omega))⟩
theorem envMaxN (a b c d : Nat) (w : World) : Calls Try.prog 54 #[.agg #[.bool false, .float .f64 a, .float .f64 b, .float .f64 c, .float .f64 d]] w fun e w' => e = .returned (.agg #[.int .i64 1, .int .i64 0, .slice none 0 0, .slice none 0 0]) ∧ Below w.heap.size w w' := by
  have hE := envelopeN a b c d
  have M := envMaxF
  have P := plainPointF 0 0
  unfold pointV at *
  replace M := hid M
  replace P := hid P
  replace hE := hid hE
  go_enter Try.func54, Try.ntmps54
  go_wp2_with fail
  refine lettered (R := fun wz => Calls _ _ _ wz _) (fun wz => wz.cell? ⟨w.heap.size, 0, none⟩ = some (.bool false) ∧ wz.cell? ⟨w.heap.size, 1, none⟩ = some (.float .f64 a) ∧ wz.cell? ⟨w.heap.size, 2, none⟩ = some (.float .f64 b) ∧ wz.cell? ⟨w.heap.size, 3, none⟩ = some (.float .f64 c) ∧ wz.cell? ⟨w.heap.size, 4, none⟩ = some (.float .f64 d) ∧ wz.cell? ⟨w.heap.size + 1, 0, none⟩ = some (.int .i64 0) ∧ wz.cell? ⟨w.heap.size + 1, 1, none⟩ = some (.int .i64 0) ∧ wz.cell? ⟨w.heap.size + 1, 2, none⟩ = some (.slice none 0 0) ∧ wz.cell? ⟨w.heap.size + 1, 3, none⟩ = some (.slice none 0 0) ∧ wz.frozen? ⟨w.heap.size + 1, 0, none⟩ = false ∧ wz.frozen? ⟨w.heap.size + 1, 1, none⟩ = false ∧ wz.frozen? ⟨w.heap.size + 1, 2, none⟩ = false ∧ wz.frozen? ⟨w.heap.size + 1, 3, none⟩ = false ∧ w.heap.size + 2 ≤ wz.heap.size ∧ Below w.heap.size w wz) ⟨by go_cell, by go_cell, by go_cell, by go_cell, by go_cell, by go_cell, by go_cell, by go_cell, by go_cell, by go_cell, by go_cell, by go_cell, by go_cell, by simp, by go_grown⟩ ?_
  rintro wz ⟨c00, c01, c02, c03, c04, c10, c11, c12, c13, z10, z11, z12, z13, hsz, hb⟩
  have HB := hid hb
  clear hb
  go_wp2_with (first | (go_at_call 80; (with_reducible refine (hE.out _).mono ?_); rintro e w' ⟨rfl, hbl⟩; obtain ⟨nx, rfl⟩ := later1 (lat (wz := wz) (by repeat (first | (with_reducible exact below_later _ _) | (with_reducible exact Below.refl _ _) | (with_reducible assumption) | (with_reducible refine Below.drew ?_) | (with_reducible refine Below.alloc ?_ (by (first | (with_reducible exact Nat.le_refl _) | (with_reducible exact (below_later _ _).size) | omega | (simp; done) | (simp; omega))) _))) hbl); clear hbl) | (go_at_call 93; (with_reducible refine (M.out _).mono ?_); rintro e w' ⟨rfl, hbl⟩; obtain ⟨nx, rfl⟩ := later1 (lat (wz := wz) (by repeat (first | (with_reducible exact below_later _ _) | (with_reducible exact Below.refl _ _) | (with_reducible assumption) | (with_reducible refine Below.drew ?_) | (with_reducible refine Below.alloc ?_ (by (first | (with_reducible exact Nat.le_refl _) | (with_reducible exact (below_later _ _).size) | omega | (simp; done) | (simp; omega))) _))) hbl); clear hbl) | (go_at_call 91; (with_reducible refine (P.out _).mono ?_); rintro e w' ⟨rfl, hbl⟩; obtain ⟨nx, rfl⟩ := later1 (lat (wz := wz) (by repeat (first | (with_reducible exact below_later _ _) | (with_reducible exact Below.refl _ _) | (with_reducible assumption) | (with_reducible refine Below.drew ?_) | (with_reducible refine Below.alloc ?_ (by (first | (with_reducible exact Nat.le_refl _) | (with_reducible exact (below_later _ _).size) | omega | (simp; done) | (simp; omega))) _))) hbl); clear hbl))
  refine bodyPost_ret (ret1 (b := w.heap.size + 1) (cs := [.int .i64 1, .int .i64 0, .slice none 0 0, .slice none 0 0]) Try.results54 rfl Try.underlying49 rfl (by kernel_rfl) ⟨by go_cell, by go_cell, by go_cell, by go_cell, trivial⟩) rfl ?_
  exact ⟨rfl, by
    have hB := HB.out.trans ((below_later wz nx).mono HB.out.size)
    repeat' (first | (with_reducible exact hB) | (with_reducible refine Below.setCell ?_ ?_ _) | (with_reducible refine Below.alloc ?_ ?_ _) | (with_reducible refine Below.drew ?_) | (with_reducible exact hB.size) | omega | (simp; done) | (simp; omega))⟩
abbrev feqV (a b : Nat) : Bool := FloatKind.f64.format.order a b == some .eq
theorem gPoint (g cp x y x' y' : Nat) (w : World) (h : RowOf w g [.float .f64 x, .float .f64 y]) : Calls Try.prog 55 #[.agg #[.int .i64 1, .int .i64 0, .slice (some ⟨g, 0, none⟩) 2 cp, .slice none 0 0], .float .f64 x', .float .f64 y'] w fun e w' => e = .returned (.bool (feqV x x' && feqV y y')) ∧ Below w.heap.size w w' := by
  have r0 := h.get0
  have r1 := h.get1
  clear h
  have l0 := World.block_lt_of_cell? w _ r0
  simp only at l0
  have n0 : ¬ g = w.heap.size := by omega
  have n1 : ¬ w.heap.size = g := by omega
  generalize hb0 : feqV x x' = b0 at *
  generalize hb1 : feqV y y' = b1 at *
  unfold feqV at hb0 hb1
  cases b0 <;> cases b1
  all_goals
    go_enter Try.func55, Try.ntmps55
    go_wp2
    go_ret
    exact ⟨rfl, by go_grown⟩
/-- a point's geometry: its two numbers in a row of their own -/
def PtRow (B : Nat) (x y : Nat) (v : Value) (w : World) : Prop := ∃ g cp, v = .agg #[.int .i64 1, .int .i64 0, .slice (some ⟨g, 0, none⟩) 2 cp, .slice none 0 0] ∧ B ≤ g ∧ g < w.heap.size ∧ RowOf w g [.float .f64 x, .float .f64 y]
theorem PtRow.below {B x y : Nat} {v : Value} {w w' : World} (h : PtRow B x y v w) (hb : Below w.heap.size w w') : PtRow B x y v w' := by
  obtain ⟨g, cp, e, h1, h2, h3⟩ := h
  exact ⟨g, cp, e, h1, Nat.lt_of_lt_of_le h2 hb.size, h3.below hb h2⟩
theorem PtRow.apart {B x y : Nat} {v v' : Value} {w : World} (h : PtRow B x y v w) (h' : w.heap.size ≤ blockOf v') : ¬ blockOf v = blockOf v' := by
  obtain ⟨g, cp, e, h1, h2, h3⟩ := h
  rw [e]
  intro hh
  have : blockOf (.agg #[.int .i64 1, .int .i64 0, .slice (some ⟨g, 0, none⟩) 2 cp, .slice none 0 0]) = g := rfl
  omega
theorem RowOf.store {w : World} {g : Nat} {xs : List Value} {p : Addr} {v : Value} (h : RowOf w g xs) (hne : ¬ p.block = g) : RowOf (w.setCell p v) g xs := fun j u hu =>
  (World.cell?_setCell_other w p _ v (fun e => hne (by rw [e]))).trans (h j u hu)
set_option maxHeartbeats 1000000 in
theorem RowOf.lat {w e : World} {g : Nat} {xs : List Value} (h : RowOf w g xs) : RowOf (Go.Proofs.Ytbcjlgkdmkehlaa.later w e) g xs := fun j u hu =>
  ((below_later w e).cell (p := ⟨g, j, none⟩) (World.block_lt_of_cell? w _ (h j u hu))).trans (h j u hu)
namespace fnEnvEnds
theorem fld68 (f : Bool) (a b c d : Nat) (w : World) : (Instr.field 68 (.agg #[.bool f, .float .f64 a, .float .f64 b, .float .f64 c, .float .f64 d]) 1).run Try.prog w = .ok (.agg #[.float .f64 a, .float .f64 b, .float .f64 c, .float .f64 d]) w := by kernel_rfl
set_option maxHeartbeats 8000000 in
theorem walkN (a b c d : Nat) (ha : a < 18446744073709551616) (hb : b < 18446744073709551616) (hc : c < 18446744073709551616) (hd : d < 18446744073709551616) (w : World) :
    Calls Try.prog 14 #[.agg #[.bool false, .float .f64 a, .float .f64 b, .float .f64 c, .float .f64 d]] w fun e w' => e = .returned (.bool true) ∧ Below w.heap.size w w' := by
  have EF := fun (p : Nat) (w : World) hr => eFits1 p 1 false a b c d ha hb hc hd w hr
  simp only [Bool.not_false, Bool.true_or] at EF
  have L := envMinN a b c d
  have H := envMaxN a b c d
  have M := eMadeF a b c d
  simp only [EV.p, EV.none] at M
  replace EF := hid EF
  replace L := hid L
  replace H := hid H
  replace M := hid M
  clear ha hb hc hd
  go_enter Try.func14, Try.ntmps14
  go_wp2_with fail
  refine lettered (R := fun wz => Calls _ _ _ wz _) (fun wz => wz.cell? ⟨w.heap.size, 0, none⟩ = some (.bool false) ∧ wz.cell? ⟨w.heap.size, 1, none⟩ = some (.float .f64 a) ∧ wz.cell? ⟨w.heap.size, 2, none⟩ = some (.float .f64 b) ∧ wz.cell? ⟨w.heap.size, 3, none⟩ = some (.float .f64 c) ∧ wz.cell? ⟨w.heap.size, 4, none⟩ = some (.float .f64 d) ∧ wz.cell? ⟨w.heap.size + 1, 0, none⟩ = some (.bool false) ∧ wz.cell? ⟨w.heap.size + 1, 1, none⟩ = some (.float .f64 a) ∧ wz.cell? ⟨w.heap.size + 1, 2, none⟩ = some (.float .f64 b) ∧ wz.cell? ⟨w.heap.size + 1, 3, none⟩ = some (.float .f64 c) ∧ wz.cell? ⟨w.heap.size + 1, 4, none⟩ = some (.float .f64 d) ∧ w.heap.size + 2 ≤ wz.heap.size ∧ Below w.heap.size w wz) ⟨by go_cell, by go_cell, by go_cell, by go_cell, by go_cell, by go_cell, by go_cell, by go_cell, by go_cell, by go_cell, by simp, by go_grown⟩ ?_
  rintro wz ⟨c00, c01, c02, c03, c04, c10, c11, c12, c13, c14, hsz, hb⟩
  have HB := hid hb
  clear hb
  go_wp2_with (first | (go_at_call 40; (with_reducible refine (EF.out _ _ (row5.2 ⟨by go_cell, by go_cell, by go_cell, by go_cell, by go_cell, trivial⟩)).mono ?_); rintro e w' ⟨rfl, hbl⟩; obtain ⟨nx, rfl⟩ := later1 (lat (wz := wz) (by repeat (first | (with_reducible exact below_later _ _) | (with_reducible exact Below.refl _ _) | (with_reducible assumption) | (with_reducible refine Below.drew ?_) | (with_reducible refine Below.alloc ?_ (by (first | (with_reducible exact Nat.le_refl _) | (with_reducible exact (below_later _ _).size) | omega | (simp; done) | (simp; omega))) _))) hbl); clear hbl))
  refine lettered (R := fun wz2 => Code.wp _ _ _ _ wz2) (fun wz2 => wz2.cell? ⟨w.heap.size, 0, none⟩ = some (.bool false) ∧ wz2.cell? ⟨w.heap.size, 1, none⟩ = some (.float .f64 a) ∧ wz2.cell? ⟨w.heap.size, 2, none⟩ = some (.float .f64 b) ∧ wz2.cell? ⟨w.heap.size, 3, none⟩ = some (.float .f64 c) ∧ wz2.cell? ⟨w.heap.size, 4, none⟩ = some (.float .f64 d) ∧ w.heap.size < wz2.heap.size ∧ Below w.heap.size w wz2) ⟨by go_cell, by go_cell, by go_cell, by go_cell, by go_cell, by have := (below_later wz nx).size; omega, HB.out.trans ((below_later _ _).mono HB.out.size)⟩ ?_
  rintro wz2 ⟨c2_0_0, c2_0_1, c2_0_2, c2_0_3, c2_0_4, hs2_0, hb⟩
  clear HB
  have HB := hid hb
  clear hb
  refine wp_region_tree (S := (fun w' => ∃ e, w' = laterB (wz2.heap.size) wz2 e)) (.lt 0 (.lt 2 (.lt 4 (.soft [(1, 1), (3, 3), (5, 5), (6, 6), (7, 7), (8, 8), (9, 9)] [6] (.hv 10 (.hv 11 (.hv 12 .nil))))))) (by kernel_rfl) (by kernel_rfl) (fun _ _ d _ _ h => by cases d <;> exact h) ⟨_, (laterB_of (by repeat (first | (with_reducible assumption) | (with_reducible exact (below_later _ _).mono (by omega)) | (with_reducible exact Below.refl _ _) | (with_reducible refine Below.drew ?_) | (with_reducible refine Below.setCell ?_ (by first | omega | (simp; done) | (simp; omega)) _) | (with_reducible refine Below.alloc ?_ (by first | omega | (simp; omega) | (have := (below_later wz2 nx).size; simp; omega)) _)))).symm⟩ ?_
  simp only [pickT, List.filterMap_cons, List.filterMap_nil, List.getElem?_cons_succ, List.getElem?_cons_zero, Option.map_some]
  repeat' (first
    | (with_reducible refine wpTr_hv2 ?_ ?_)
    | ((with_reducible refine wpTr_lt (fun K hK => ?_)); go_simp; (first | (with_reducible refine hK _ ?_) | (rw [if_neg (by intro h; cases h)]; with_reducible refine hK _ ?_)); clear hK K)
    | ((with_reducible refine wpTr_hv (fun K L hK hL => ?_)); go_simp; (first | (with_reducible refine hL _ ?_) | (rw [if_neg (by intro h; cases h)]; with_reducible refine hL _ ?_)); clear hK hL K L)
    | ((with_reducible refine wpTr_hv (fun K L hK hL => ?_)); go_simp; (with_reducible refine hK _ _ ?_ ?_); (focus (exact ⟨_, (laterB_of (by repeat (first | (with_reducible assumption) | (with_reducible exact (below_later _ _).mono (by omega)) | (with_reducible exact Below.refl _ _) | (with_reducible refine Below.drew ?_) | (with_reducible refine Below.setCell ?_ (by first | omega | (simp; done) | (simp; omega)) _) | (with_reducible refine Below.alloc ?_ (by first | omega | (simp; omega) | (have := (below_later wz2 nx).size; simp; omega)) _)))).symm⟩)); clear hK hL K L))
  refine wpTr_soft [1, 3, 5, 6, 7, 8, 9] (fun k v w' => if k = 1 then v = .agg #[.int .i64 1, .int .i64 0, .slice none 0 0, .slice none 0 0] else if k = 3 then v = .agg #[.int .i64 1, .int .i64 0, .slice none 0 0, .slice none 0 0] else if k = 5 then v = .agg #[.bool false, .float .f64 0, .float .f64 0, .float .f64 0, .float .f64 0] else if k = 6 then v = .agg #[.float .f64 0, .float .f64 0, .float .f64 0, .float .f64 0] else if k = 7 then NewAt wz2.heap.size (fun b => .pointer (some ⟨b, 0, none⟩)) [(.int .i64 0), (.int .i64 0), (.slice none 0 0), (.slice none 0 0)] v w' else if k = 8 then NewAt wz2.heap.size (fun b => .pointer (some ⟨b, 0, none⟩)) [(.int .i64 0), (.int .i64 0), (.slice none 0 0), (.slice none 0 0)] v w' else if k = 9 then NewAt wz2.heap.size (fun b => .pointer (some ⟨b, 0, none⟩)) [(.float .f64 0), (.float .f64 0), (.float .f64 0), (.float .f64 0)] v w' else True) [7, 8, 9] rfl ?_ ?_ ?_ ?_ ?_ ?_
  · rfl
  · intro p hp
    simp only [List.mem_cons, List.not_mem_nil, or_false] at hp
    rcases hp with rfl | rfl | rfl | rfl | rfl | rfl | rfl <;> rfl
  · intro k v a b hb h
    by_cases h1 : k = 1
    · rw [if_pos h1] at h ⊢; exact h
    rw [if_neg h1] at h ⊢
    by_cases h3 : k = 3
    · rw [if_pos h3] at h ⊢; exact h
    rw [if_neg h3] at h ⊢
    by_cases h5 : k = 5
    · rw [if_pos h5] at h ⊢; exact h
    rw [if_neg h5] at h ⊢
    by_cases h6 : k = 6
    · rw [if_pos h6] at h ⊢; exact h
    rw [if_neg h6] at h ⊢
    by_cases h7 : k = 7
    · rw [if_pos h7] at h ⊢; exact h.below hb
    rw [if_neg h7] at h ⊢
    by_cases h8 : k = 8
    · rw [if_pos h8] at h ⊢; exact h.below hb
    rw [if_neg h8] at h ⊢
    by_cases h9 : k = 9
    · rw [if_pos h9] at h ⊢; exact h.below hb
    rw [if_neg h9] at h ⊢
    trivial
  · intro p hp hnl u w' hbu hSu hd K hK
    have hb1 : Below wz2.heap.size wz2 w' := by first | exact (below_later _ _).drew.trans (hbu.mono (below_later _ _).size) | exact (Below.refl _ _).drew.trans hbu | exact (below_later _ _).trans (hbu.mono (below_later _ _).size)
    have hb0 : Below w.heap.size w w' := HB.out.trans (hb1.mono HB.out.size)
    have hsz3 : wz2.heap.size ≤ w'.heap.size := hb1.size
    have HS : ∀ w'', Below w'.heap.size w' w'' → ∃ e, w'' = laterB wz2.heap.size wz2 e := fun w'' h => ⟨w'', (laterB_of (hb1.trans (h.mono hsz3))).symm⟩
    clear hbu hSu
    simp only [List.mem_cons, List.not_mem_nil, or_false] at hp
    rcases hp with rfl | rfl | rfl | rfl | rfl | rfl | rfl
    · simp [tmOf, Act.put, upd]
      go_simp
      go_at_call 53
      refine (L.out w').mono ?_
      rintro e w'' ⟨rfl, hbl⟩
      have h := hK _ w'' rfl (fun h => absurd h (by decide)) hbl (HS _ hbl)
      simp [tmOf, Act.put, upd] at h
      exact h
    · simp [tmOf, Act.put, upd]
      go_simp
      go_at_call 54
      refine (H.out w').mono ?_
      rintro e w'' ⟨rfl, hbl⟩
      have h := hK _ w'' rfl (fun h => absurd h (by decide)) hbl (HS _ hbl)
      simp [tmOf, Act.put, upd] at h
      exact h
    · simp [tmOf, Act.put, upd]
      go_simp
      go_at_call 44
      refine (M.out w').mono ?_
      rintro e w'' ⟨rfl, hbl⟩
      have h := hK _ w'' rfl (fun h => absurd h (by decide)) hbl (HS _ hbl)
      simp [tmOf, Act.put, upd] at h
      exact h
    · simp at hnl
    · have hal := Below.alloc (Below.refl w'.heap.size w') (Nat.le_refl _) (.cells #[(.int .i64 0), (.int .i64 0), (.slice none 0 0), (.slice none 0 0)] 49)
      have h := hK _ _ (newAt_alloc (B := wz2.heap.size) (fun b => .pointer (some ⟨b, 0, none⟩)) [(.int .i64 0), (.int .i64 0), (.slice none 0 0), (.slice none 0 0)] 49 w' hsz3) (fun _ p' _ ha hF => by
          simp only [List.mem_cons, List.not_mem_nil, or_false] at ha
          rcases ha with e | e | e
          · rw [e] at hF ⊢; have hF' : NewAt wz2.heap.size (fun b => .pointer (some ⟨b, 0, none⟩)) [(.int .i64 0), (.int .i64 0), (.slice none 0 0), (.slice none 0 0)] (u 7) w' := hF; exact hF'.apart ptr_block (Nat.le_refl _)
          · rw [e] at hF ⊢; have hF' : NewAt wz2.heap.size (fun b => .pointer (some ⟨b, 0, none⟩)) [(.int .i64 0), (.int .i64 0), (.slice none 0 0), (.slice none 0 0)] (u 8) w' := hF; exact hF'.apart ptr_block (Nat.le_refl _)
          · rw [e] at hF ⊢; have hF' : NewAt wz2.heap.size (fun b => .pointer (some ⟨b, 0, none⟩)) [(.float .f64 0), (.float .f64 0), (.float .f64 0), (.float .f64 0)] (u 9) w' := hF; exact hF'.apart ptr_block (Nat.le_refl _)) hal (HS _ hal)
      simp [tmOf, Act.put, upd] at h ⊢
      go_simp
      exact h
    · have hal := Below.alloc (Below.refl w'.heap.size w') (Nat.le_refl _) (.cells #[(.int .i64 0), (.int .i64 0), (.slice none 0 0), (.slice none 0 0)] 49)
      have h := hK _ _ (newAt_alloc (B := wz2.heap.size) (fun b => .pointer (some ⟨b, 0, none⟩)) [(.int .i64 0), (.int .i64 0), (.slice none 0 0), (.slice none 0 0)] 49 w' hsz3) (fun _ p' _ ha hF => by
          simp only [List.mem_cons, List.not_mem_nil, or_false] at ha
          rcases ha with e | e | e
          · rw [e] at hF ⊢; have hF' : NewAt wz2.heap.size (fun b => .pointer (some ⟨b, 0, none⟩)) [(.int .i64 0), (.int .i64 0), (.slice none 0 0), (.slice none 0 0)] (u 7) w' := hF; exact hF'.apart ptr_block (Nat.le_refl _)
          · rw [e] at hF ⊢; have hF' : NewAt wz2.heap.size (fun b => .pointer (some ⟨b, 0, none⟩)) [(.int .i64 0), (.int .i64 0), (.slice none 0 0), (.slice none 0 0)] (u 8) w' := hF; exact hF'.apart ptr_block (Nat.le_refl _)
          · rw [e] at hF ⊢; have hF' : NewAt wz2.heap.size (fun b => .pointer (some ⟨b, 0, none⟩)) [(.float .f64 0), (.float .f64 0), (.float .f64 0), (.float .f64 0)] (u 9) w' := hF; exact hF'.apart ptr_block (Nat.le_refl _)) hal (HS _ hal)
      simp [tmOf, Act.put, upd] at h ⊢
      go_simp
      exact h
    · have hal := Below.alloc (Below.refl w'.heap.size w') (Nat.le_refl _) (.cells #[(.float .f64 0), (.float .f64 0), (.float .f64 0), (.float .f64 0)] 66)
      have h := hK _ _ (newAt_alloc (B := wz2.heap.size) (fun b => .pointer (some ⟨b, 0, none⟩)) [(.float .f64 0), (.float .f64 0), (.float .f64 0), (.float .f64 0)] 66 w' hsz3) (fun _ p' _ ha hF => by
          simp only [List.mem_cons, List.not_mem_nil, or_false] at ha
          rcases ha with e | e | e
          · rw [e] at hF ⊢; have hF' : NewAt wz2.heap.size (fun b => .pointer (some ⟨b, 0, none⟩)) [(.int .i64 0), (.int .i64 0), (.slice none 0 0), (.slice none 0 0)] (u 7) w' := hF; exact hF'.apart ptr_block (Nat.le_refl _)
          · rw [e] at hF ⊢; have hF' : NewAt wz2.heap.size (fun b => .pointer (some ⟨b, 0, none⟩)) [(.int .i64 0), (.int .i64 0), (.slice none 0 0), (.slice none 0 0)] (u 8) w' := hF; exact hF'.apart ptr_block (Nat.le_refl _)
          · rw [e] at hF ⊢; have hF' : NewAt wz2.heap.size (fun b => .pointer (some ⟨b, 0, none⟩)) [(.float .f64 0), (.float .f64 0), (.float .f64 0), (.float .f64 0)] (u 9) w' := hF; exact hF'.apart ptr_block (Nat.le_refl _)) hal (HS _ hal)
      simp [tmOf, Act.put, upd] at h ⊢
      go_simp
      exact h
  · intro p hp hli u w' hbu hSu hd
    simp only [List.mem_cons, List.not_mem_nil, or_false] at hp
    rcases hp with rfl | rfl | rfl | rfl | rfl | rfl | rfl
    · simp at hli
    · simp at hli
    · simp at hli
    · have f5 : u 5 = .agg #[.bool false, .float .f64 0, .float .f64 0, .float .f64 0, .float .f64 0] := hd 5 (by decide) (by simp [Region.binds]); exact ⟨.agg #[.float .f64 0, .float .f64 0, .float .f64 0, .float .f64 0], fun w'' _ => (by simp [tmOf, Act.put, upd, f5]; try go_simp; (try rw [fld68]); (try rfl)), (by simp [tmOf, Act.put, upd]), rfl, by decide⟩
    · simp at hli
    · simp at hli
    · simp at hli
  · intro u w' hbu hSu hF hD
    conv => arg 6; simp [tmOf, Act.put]
    have hb1 : Below wz2.heap.size wz2 w' := by first | exact (below_later _ _).drew.trans (hbu.mono (below_later _ _).size) | exact (Below.refl _ _).drew.trans hbu | exact (below_later _ _).trans (hbu.mono (below_later _ _).size)
    have hb0 : Below w.heap.size w w' := HB.out.trans (hb1.mono HB.out.size)
    have hsz3 : wz2.heap.size ≤ w'.heap.size := hb1.size
    have f1 : u 1 = .agg #[.int .i64 1, .int .i64 0, .slice none 0 0, .slice none 0 0] := hF 1 (by decide)
    have f3 : u 3 = .agg #[.int .i64 1, .int .i64 0, .slice none 0 0, .slice none 0 0] := hF 3 (by decide)
    have f5 : u 5 = .agg #[.bool false, .float .f64 0, .float .f64 0, .float .f64 0, .float .f64 0] := hF 5 (by decide)
    have f6 : u 6 = .agg #[.float .f64 0, .float .f64 0, .float .f64 0, .float .f64 0] := hF 6 (by decide)
    have f7 : NewAt wz2.heap.size (fun b => .pointer (some ⟨b, 0, none⟩)) [(.int .i64 0), (.int .i64 0), (.slice none 0 0), (.slice none 0 0)] (u 7) w' := hF 7 (by decide)
    have f8 : NewAt wz2.heap.size (fun b => .pointer (some ⟨b, 0, none⟩)) [(.int .i64 0), (.int .i64 0), (.slice none 0 0), (.slice none 0 0)] (u 8) w' := hF 8 (by decide)
    have f9 : NewAt wz2.heap.size (fun b => .pointer (some ⟨b, 0, none⟩)) [(.float .f64 0), (.float .f64 0), (.float .f64 0), (.float .f64 0)] (u 9) w' := hF 9 (by decide)
    obtain ⟨b7, e7, g7, l7, r7, z7⟩ := f7
    obtain ⟨p7_0, p7_1, p7_2, p7_3, -⟩ := row4.1 r7
    obtain ⟨q7_0, q7_1, q7_2, q7_3⟩ := free4 z7
    obtain ⟨b8, e8, g8, l8, r8, z8⟩ := f8
    obtain ⟨p8_0, p8_1, p8_2, p8_3, -⟩ := row4.1 r8
    obtain ⟨q8_0, q8_1, q8_2, q8_3⟩ := free4 z8
    obtain ⟨b9, e9, g9, l9, r9, z9⟩ := f9
    obtain ⟨p9_0, p9_1, p9_2, p9_3, -⟩ := row4.1 r9
    obtain ⟨q9_0, q9_1, q9_2, q9_3⟩ := free4 z9
    have n7_8 : ¬ b7 = b8 := fun h => hD 7 (by decide) 8 (by decide) (by decide) (by decide) (by decide) (by rw [e7, e8, h])
    have n8_7 : ¬ b8 = b7 := fun h => n7_8 h.symm
    have n7_9 : ¬ b7 = b9 := fun h => hD 7 (by decide) 9 (by decide) (by decide) (by decide) (by decide) (by rw [e7, e9, h])
    have n9_7 : ¬ b9 = b7 := fun h => n7_9 h.symm
    have n8_9 : ¬ b8 = b9 := fun h => hD 8 (by decide) 9 (by decide) (by decide) (by decide) (by decide) (by rw [e8, e9, h])
    have n9_8 : ¬ b9 = b8 := fun h => n8_9 h.symm
    have m7_0 : ¬ b7 = w.heap.size := by omega
    have m8_0 : ¬ b8 = w.heap.size := by omega
    have m9_0 : ¬ b9 = w.heap.size := by omega
    rw [f1, f3, f6, e7, e8, e9]
    have k0 := (hb1.cell (p := ⟨w.heap.size, 0, none⟩) hs2_0).trans c2_0_0
    clear f1 f3 f5 f6 e7 e8 e9 r7 r8 r9 z7 z8 z9 hF hD hbu hSu
    repeat' (first
      | (with_reducible refine wpTr_hv2 ?_ ?_)
      | ((with_reducible refine wpTr_lt (fun K hK => ?_)); go_simp; (first | (with_reducible refine hK _ ?_) | (rw [if_neg (by intro h; cases h)]; with_reducible refine hK _ ?_)); clear hK K)
      | ((with_reducible refine wpTr_hv (fun K L hK hL => ?_)); go_simp; (first | (with_reducible refine hL _ ?_) | (rw [if_neg (by intro h; cases h)]; with_reducible refine hL _ ?_)); clear hK hL K L)
      | ((with_reducible refine wpTr_hv (fun K L hK hL => ?_)); go_simp; (with_reducible refine hK _ _ ?_ ?_); (focus (exact ⟨_, (laterB_of (by repeat (first | (with_reducible assumption) | (with_reducible exact (below_later _ _).mono (by omega)) | (with_reducible exact Below.refl _ _) | (with_reducible refine Below.drew ?_) | (with_reducible refine Below.setCell ?_ (by first | omega | (simp; done) | (simp; omega)) _) | (with_reducible refine Below.alloc ?_ (by first | omega | (simp; omega) | (have := (below_later wz2 nx).size; simp; omega)) _)))).symm⟩)); clear hK hL K L))
    refine wpTr_nil ?_
    go_wp2_with fail
    go_ret
    exact ⟨rfl, by
      have hB := hb0
      repeat' (first | (with_reducible exact hB) | (with_reducible refine Below.setCell ?_ ?_ _) | (with_reducible refine Below.alloc ?_ ?_ _) | (with_reducible refine Below.drew ?_) | (with_reducible exact hB.size) | omega | (simp; done) | (simp; omega))⟩
set_option maxHeartbeats 8000000 in
theorem coreT (a b c d lx ly hx hy m1 m2 m3 m4 : Nat) (ha : a < 18446744073709551616) (hb : b < 18446744073709551616) (hc : c < 18446744073709551616) (hd : d < 18446744073709551616) (hF : fin4 a b c d = true)
    (hE : ∀ w, Calls Try.prog 80 #[.agg #[.bool true, .float .f64 a, .float .f64 b, .float .f64 c, .float .f64 d]] w fun e w' => e = .returned (.agg #[.float .f64 lx, .float .f64 ly, .float .f64 hx, .float .f64 hy, .bool true]) ∧ Below w.heap.size w w')
    (hM : ∀ w, Calls Try.prog 44 #[.agg #[.bool true, .float .f64 a, .float .f64 b, .float .f64 c, .float .f64 d]] w fun e w' => e = .returned (.agg #[.bool true, .float .f64 m1, .float .f64 m2, .float .f64 m3, .float .f64 m4]) ∧ Below w.heap.size w w')
    (h1 : feqV lx m1 = true) (h2 : feqV ly m2 = true) (h3 : feqV hx m3 = true) (h4 : feqV hy m4 = true) (w : World) :
    Calls Try.prog 14 #[.agg #[.bool true, .float .f64 a, .float .f64 b, .float .f64 c, .float .f64 d]] w fun e w' => e = .returned (.bool true) ∧ Below w.heap.size w w' := by
  have EF := fun (p : Nat) (w : World) hr => eFits1 p 1 true a b c d ha hb hc hd w hr
  rw [hF] at EF
  simp only [Bool.not_true, Bool.false_or] at EF
  have L := envMin a b c d lx ly hx hy hE
  have H := envMax a b c d lx ly hx hy hE
  have P1 := fun g cp w h => gPoint g cp lx ly m1 m2 w h
  have P2 := fun g cp w h => gPoint g cp hx hy m3 m4 w h
  rw [h1, h2, Bool.true_and] at P1
  rw [h3, h4, Bool.true_and] at P2
  replace EF := hid EF
  replace L := hid L
  replace H := hid H
  replace hM := hid hM
  replace P1 := hid P1
  replace P2 := hid P2
  clear ha hb hc hd hF hE h1 h2 h3 h4
  go_enter Try.func14, Try.ntmps14
  go_wp2_with fail
  refine lettered (R := fun wz => Calls _ _ _ wz _) (fun wz => wz.cell? ⟨w.heap.size, 0, none⟩ = some (.bool true) ∧ wz.cell? ⟨w.heap.size, 1, none⟩ = some (.float .f64 a) ∧ wz.cell? ⟨w.heap.size, 2, none⟩ = some (.float .f64 b) ∧ wz.cell? ⟨w.heap.size, 3, none⟩ = some (.float .f64 c) ∧ wz.cell? ⟨w.heap.size, 4, none⟩ = some (.float .f64 d) ∧ wz.cell? ⟨w.heap.size + 1, 0, none⟩ = some (.bool true) ∧ wz.cell? ⟨w.heap.size + 1, 1, none⟩ = some (.float .f64 a) ∧ wz.cell? ⟨w.heap.size + 1, 2, none⟩ = some (.float .f64 b) ∧ wz.cell? ⟨w.heap.size + 1, 3, none⟩ = some (.float .f64 c) ∧ wz.cell? ⟨w.heap.size + 1, 4, none⟩ = some (.float .f64 d) ∧ w.heap.size + 2 ≤ wz.heap.size ∧ Below w.heap.size w wz) ⟨by go_cell, by go_cell, by go_cell, by go_cell, by go_cell, by go_cell, by go_cell, by go_cell, by go_cell, by go_cell, by simp, by go_grown⟩ ?_
  rintro wz ⟨c00, c01, c02, c03, c04, c10, c11, c12, c13, c14, hsz, hb⟩
  have HB := hid hb
  clear hb
  go_wp2_with (first | (go_at_call 40; (with_reducible refine (EF.out _ _ (row5.2 ⟨by go_cell, by go_cell, by go_cell, by go_cell, by go_cell, trivial⟩)).mono ?_); rintro e w' ⟨rfl, hbl⟩; obtain ⟨nx, rfl⟩ := later1 (lat (wz := wz) (by repeat (first | (with_reducible exact below_later _ _) | (with_reducible exact Below.refl _ _) | (with_reducible assumption) | (with_reducible refine Below.drew ?_) | (with_reducible refine Below.alloc ?_ (by (first | (with_reducible exact Nat.le_refl _) | (with_reducible exact (below_later _ _).size) | omega | (simp; done) | (simp; omega))) _))) hbl); clear hbl))
  refine lettered (R := fun wz2 => Code.wp _ _ _ _ wz2) (fun wz2 => wz2.cell? ⟨w.heap.size, 0, none⟩ = some (.bool true) ∧ wz2.cell? ⟨w.heap.size, 1, none⟩ = some (.float .f64 a) ∧ wz2.cell? ⟨w.heap.size, 2, none⟩ = some (.float .f64 b) ∧ wz2.cell? ⟨w.heap.size, 3, none⟩ = some (.float .f64 c) ∧ wz2.cell? ⟨w.heap.size, 4, none⟩ = some (.float .f64 d) ∧ w.heap.size < wz2.heap.size ∧ Below w.heap.size w wz2) ⟨by go_cell, by go_cell, by go_cell, by go_cell, by go_cell, by have := (below_later wz nx).size; omega, HB.out.trans ((below_later _ _).mono HB.out.size)⟩ ?_
  rintro wz2 ⟨c2_0_0, c2_0_1, c2_0_2, c2_0_3, c2_0_4, hs2_0, hb⟩
  clear HB
  have HB := hid hb
  clear hb
  refine wp_region_tree (S := (fun w' => ∃ e, w' = laterB (wz2.heap.size) wz2 e)) (.lt 0 (.lt 2 (.lt 4 (.soft [(1, 1), (3, 3), (5, 5), (6, 6), (7, 7), (8, 8), (9, 9)] [6] (.hv 10 (.hv 11 (.hv 12 .nil))))))) (by kernel_rfl) (by kernel_rfl) (fun _ _ d _ _ h => by cases d <;> exact h) ⟨_, (laterB_of (by repeat (first | (with_reducible assumption) | (with_reducible exact (below_later _ _).mono (by omega)) | (with_reducible exact Below.refl _ _) | (with_reducible refine Below.drew ?_) | (with_reducible refine Below.setCell ?_ (by first | omega | (simp; done) | (simp; omega)) _) | (with_reducible refine Below.alloc ?_ (by first | omega | (simp; omega) | (have := (below_later wz2 nx).size; simp; omega)) _)))).symm⟩ ?_
  simp only [pickT, List.filterMap_cons, List.filterMap_nil, List.getElem?_cons_succ, List.getElem?_cons_zero, Option.map_some]
  repeat' (first
    | (with_reducible refine wpTr_hv2 ?_ ?_)
    | ((with_reducible refine wpTr_lt (fun K hK => ?_)); go_simp; (first | (with_reducible refine hK _ ?_) | (rw [if_neg (by intro h; cases h)]; with_reducible refine hK _ ?_)); clear hK K)
    | ((with_reducible refine wpTr_hv (fun K L hK hL => ?_)); go_simp; (first | (with_reducible refine hL _ ?_) | (rw [if_neg (by intro h; cases h)]; with_reducible refine hL _ ?_)); clear hK hL K L)
    | ((with_reducible refine wpTr_hv (fun K L hK hL => ?_)); go_simp; (with_reducible refine hK _ _ ?_ ?_); (focus (exact ⟨_, (laterB_of (by repeat (first | (with_reducible assumption) | (with_reducible exact (below_later _ _).mono (by omega)) | (with_reducible exact Below.refl _ _) | (with_reducible refine Below.drew ?_) | (with_reducible refine Below.setCell ?_ (by first | omega | (simp; done) | (simp; omega)) _) | (with_reducible refine Below.alloc ?_ (by first | omega | (simp; omega) | (have := (below_later wz2 nx).size; simp; omega)) _)))).symm⟩)); clear hK hL K L))
  refine wpTr_soft [1, 3, 5, 6, 7, 8, 9] (fun k v w' => if k = 1 then PtRow wz2.heap.size lx ly v w' else if k = 3 then PtRow wz2.heap.size hx hy v w' else if k = 5 then v = .agg #[.bool true, .float .f64 m1, .float .f64 m2, .float .f64 m3, .float .f64 m4] else if k = 6 then v = .agg #[.float .f64 m1, .float .f64 m2, .float .f64 m3, .float .f64 m4] else if k = 7 then NewAt wz2.heap.size (fun b => .pointer (some ⟨b, 0, none⟩)) [(.int .i64 0), (.int .i64 0), (.slice none 0 0), (.slice none 0 0)] v w' else if k = 8 then NewAt wz2.heap.size (fun b => .pointer (some ⟨b, 0, none⟩)) [(.int .i64 0), (.int .i64 0), (.slice none 0 0), (.slice none 0 0)] v w' else if k = 9 then NewAt wz2.heap.size (fun b => .pointer (some ⟨b, 0, none⟩)) [(.float .f64 0), (.float .f64 0), (.float .f64 0), (.float .f64 0)] v w' else True) [1, 3, 7, 8, 9] rfl ?_ ?_ ?_ ?_ ?_ ?_
  · rfl
  · intro p hp
    simp only [List.mem_cons, List.not_mem_nil, or_false] at hp
    rcases hp with rfl | rfl | rfl | rfl | rfl | rfl | rfl <;> rfl
  · intro k v a b hb h
    by_cases h1 : k = 1
    · rw [if_pos h1] at h ⊢; exact h.below hb
    rw [if_neg h1] at h ⊢
    by_cases h3 : k = 3
    · rw [if_pos h3] at h ⊢; exact h.below hb
    rw [if_neg h3] at h ⊢
    by_cases h5 : k = 5
    · rw [if_pos h5] at h ⊢; exact h
    rw [if_neg h5] at h ⊢
    by_cases h6 : k = 6
    · rw [if_pos h6] at h ⊢; exact h
    rw [if_neg h6] at h ⊢
    by_cases h7 : k = 7
    · rw [if_pos h7] at h ⊢; exact h.below hb
    rw [if_neg h7] at h ⊢
    by_cases h8 : k = 8
    · rw [if_pos h8] at h ⊢; exact h.below hb
    rw [if_neg h8] at h ⊢
    by_cases h9 : k = 9
    · rw [if_pos h9] at h ⊢; exact h.below hb
    rw [if_neg h9] at h ⊢
    trivial
  · intro p hp hnl u w' hbu hSu hd K hK
    have hb1 : Below wz2.heap.size wz2 w' := by first | exact (below_later _ _).drew.trans (hbu.mono (below_later _ _).size) | exact (Below.refl _ _).drew.trans hbu | exact (below_later _ _).trans (hbu.mono (below_later _ _).size)
    have hb0 : Below w.heap.size w w' := HB.out.trans (hb1.mono HB.out.size)
    have hsz3 : wz2.heap.size ≤ w'.heap.size := hb1.size
    have HS : ∀ w'', Below w'.heap.size w' w'' → ∃ e, w'' = laterB wz2.heap.size wz2 e := fun w'' h => ⟨w'', (laterB_of (hb1.trans (h.mono hsz3))).symm⟩
    clear hbu hSu
    simp only [List.mem_cons, List.not_mem_nil, or_false] at hp
    rcases hp with rfl | rfl | rfl | rfl | rfl | rfl | rfl
    · simp [tmOf, Act.put, upd]
      go_simp
      go_at_call 53
      refine (L.out w').mono ?_
      rintro e w'' ⟨g, cp, rfl, c1, c2, -, c3, hbl⟩
      have h := hK _ w'' (show PtRow wz2.heap.size lx ly _ w'' from ⟨g, cp, rfl, Nat.le_trans hsz3 c1, c2, c3⟩) (fun _ p' _ ha hF => by
          simp only [List.mem_cons, List.not_mem_nil, or_false] at ha
          rcases ha with e | e | e | e | e
          · rw [e] at hF ⊢; have hF' : PtRow wz2.heap.size lx ly (u 1) w' := hF; exact hF'.apart c1
          · rw [e] at hF ⊢; have hF' : PtRow wz2.heap.size hx hy (u 3) w' := hF; exact hF'.apart c1
          · rw [e] at hF ⊢; have hF' : NewAt wz2.heap.size (fun b => .pointer (some ⟨b, 0, none⟩)) [(.int .i64 0), (.int .i64 0), (.slice none 0 0), (.slice none 0 0)] (u 7) w' := hF; exact hF'.apart ptr_block c1
          · rw [e] at hF ⊢; have hF' : NewAt wz2.heap.size (fun b => .pointer (some ⟨b, 0, none⟩)) [(.int .i64 0), (.int .i64 0), (.slice none 0 0), (.slice none 0 0)] (u 8) w' := hF; exact hF'.apart ptr_block c1
          · rw [e] at hF ⊢; have hF' : NewAt wz2.heap.size (fun b => .pointer (some ⟨b, 0, none⟩)) [(.float .f64 0), (.float .f64 0), (.float .f64 0), (.float .f64 0)] (u 9) w' := hF; exact hF'.apart ptr_block c1) hbl (HS _ hbl)
      simp [tmOf, Act.put, upd] at h
      exact h
    · simp [tmOf, Act.put, upd]
      go_simp
      go_at_call 54
      refine (H.out w').mono ?_
      rintro e w'' ⟨g, cp, rfl, c1, c2, -, c3, hbl⟩
      have h := hK _ w'' (show PtRow wz2.heap.size hx hy _ w'' from ⟨g, cp, rfl, Nat.le_trans hsz3 c1, c2, c3⟩) (fun _ p' _ ha hF => by
          simp only [List.mem_cons, List.not_mem_nil, or_false] at ha
          rcases ha with e | e | e | e | e
          · rw [e] at hF ⊢; have hF' : PtRow wz2.heap.size lx ly (u 1) w' := hF; exact hF'.apart c1
          · rw [e] at hF ⊢; have hF' : PtRow wz2.heap.size hx hy (u 3) w' := hF; exact hF'.apart c1
          · rw [e] at hF ⊢; have hF' : NewAt wz2.heap.size (fun b => .pointer (some ⟨b, 0, none⟩)) [(.int .i64 0), (.int .i64 0), (.slice none 0 0), (.slice none 0 0)] (u 7) w' := hF; exact hF'.apart ptr_block c1
          · rw [e] at hF ⊢; have hF' : NewAt wz2.heap.size (fun b => .pointer (some ⟨b, 0, none⟩)) [(.int .i64 0), (.int .i64 0), (.slice none 0 0), (.slice none 0 0)] (u 8) w' := hF; exact hF'.apart ptr_block c1
          · rw [e] at hF ⊢; have hF' : NewAt wz2.heap.size (fun b => .pointer (some ⟨b, 0, none⟩)) [(.float .f64 0), (.float .f64 0), (.float .f64 0), (.float .f64 0)] (u 9) w' := hF; exact hF'.apart ptr_block c1) hbl (HS _ hbl)
      simp [tmOf, Act.put, upd] at h
      exact h
    · simp [tmOf, Act.put, upd]
      go_simp
      go_at_call 44
      refine (hM.out w').mono ?_
      rintro e w'' ⟨rfl, hbl⟩
      have h := hK _ w'' rfl (fun h => absurd h (by decide)) hbl (HS _ hbl)
      simp [tmOf, Act.put, upd] at h
      exact h
    · simp at hnl
    · have hal := Below.alloc (Below.refl w'.heap.size w') (Nat.le_refl _) (.cells #[(.int .i64 0), (.int .i64 0), (.slice none 0 0), (.slice none 0 0)] 49)
      have h := hK _ _ (newAt_alloc (B := wz2.heap.size) (fun b => .pointer (some ⟨b, 0, none⟩)) [(.int .i64 0), (.int .i64 0), (.slice none 0 0), (.slice none 0 0)] 49 w' hsz3) (fun _ p' _ ha hF => by
          simp only [List.mem_cons, List.not_mem_nil, or_false] at ha
          rcases ha with e | e | e | e | e
          · rw [e] at hF ⊢; have hF' : PtRow wz2.heap.size lx ly (u 1) w' := hF; exact hF'.apart (Nat.le_refl _)
          · rw [e] at hF ⊢; have hF' : PtRow wz2.heap.size hx hy (u 3) w' := hF; exact hF'.apart (Nat.le_refl _)
          · rw [e] at hF ⊢; have hF' : NewAt wz2.heap.size (fun b => .pointer (some ⟨b, 0, none⟩)) [(.int .i64 0), (.int .i64 0), (.slice none 0 0), (.slice none 0 0)] (u 7) w' := hF; exact hF'.apart ptr_block (Nat.le_refl _)
          · rw [e] at hF ⊢; have hF' : NewAt wz2.heap.size (fun b => .pointer (some ⟨b, 0, none⟩)) [(.int .i64 0), (.int .i64 0), (.slice none 0 0), (.slice none 0 0)] (u 8) w' := hF; exact hF'.apart ptr_block (Nat.le_refl _)
          · rw [e] at hF ⊢; have hF' : NewAt wz2.heap.size (fun b => .pointer (some ⟨b, 0, none⟩)) [(.float .f64 0), (.float .f64 0), (.float .f64 0), (.float .f64 0)] (u 9) w' := hF; exact hF'.apart ptr_block (Nat.le_refl _)) hal (HS _ hal)
      simp [tmOf, Act.put, upd] at h ⊢
      go_simp
      exact h
    · have hal := Below.alloc (Below.refl w'.heap.size w') (Nat.le_refl _) (.cells #[(.int .i64 0), (.int .i64 0), (.slice none 0 0), (.slice none 0 0)] 49)
      have h := hK _ _ (newAt_alloc (B := wz2.heap.size) (fun b => .pointer (some ⟨b, 0, none⟩)) [(.int .i64 0), (.int .i64 0), (.slice none 0 0), (.slice none 0 0)] 49 w' hsz3) (fun _ p' _ ha hF => by
          simp only [List.mem_cons, List.not_mem_nil, or_false] at ha
          rcases ha with e | e | e | e | e
          · rw [e] at hF ⊢; have hF' : PtRow wz2.heap.size lx ly (u 1) w' := hF; exact hF'.apart (Nat.le_refl _)
          · rw [e] at hF ⊢; have hF' : PtRow wz2.heap.size hx hy (u 3) w' := hF; exact hF'.apart (Nat.le_refl _)
          · rw [e] at hF ⊢; have hF' : NewAt wz2.heap.size (fun b => .pointer (some ⟨b, 0, none⟩)) [(.int .i64 0), (.int .i64 0), (.slice none 0 0), (.slice none 0 0)] (u 7) w' := hF; exact hF'.apart ptr_block (Nat.le_refl _)
          · rw [e] at hF ⊢; have hF' : NewAt wz2.heap.size (fun b => .pointer (some ⟨b, 0, none⟩)) [(.int .i64 0), (.int .i64 0), (.slice none 0 0), (.slice none 0 0)] (u 8) w' := hF; exact hF'.apart ptr_block (Nat.le_refl _)
          · rw [e] at hF ⊢; have hF' : NewAt wz2.heap.size (fun b => .pointer (some ⟨b, 0, none⟩)) [(.float .f64 0), (.float .f64 0), (.float .f64 0), (.float .f64 0)] (u 9) w' := hF; exact hF'.apart ptr_block (Nat.le_refl _)) hal (HS _ hal)
      simp [tmOf, Act.put, upd] at h ⊢
      go_simp
      exact h
    · have hal := Below.alloc (Below.refl w'.heap.size w') (Nat.le_refl _) (.cells #[(.float .f64 0), (.float .f64 0), (.float .f64 0), (.float .f64 0)] 66)
      have h := hK _ _ (newAt_alloc (B := wz2.heap.size) (fun b => .pointer (some ⟨b, 0, none⟩)) [(.float .f64 0), (.float .f64 0), (.float .f64 0), (.float .f64 0)] 66 w' hsz3) (fun _ p' _ ha hF => by
          simp only [List.mem_cons, List.not_mem_nil, or_false] at ha
          rcases ha with e | e | e | e | e
          · rw [e] at hF ⊢; have hF' : PtRow wz2.heap.size lx ly (u 1) w' := hF; exact hF'.apart (Nat.le_refl _)
          · rw [e] at hF ⊢; have hF' : PtRow wz2.heap.size hx hy (u 3) w' := hF; exact hF'.apart (Nat.le_refl _)
          · rw [e] at hF ⊢; have hF' : NewAt wz2.heap.size (fun b => .pointer (some ⟨b, 0, none⟩)) [(.int .i64 0), (.int .i64 0), (.slice none 0 0), (.slice none 0 0)] (u 7) w' := hF; exact hF'.apart ptr_block (Nat.le_refl _)
          · rw [e] at hF ⊢; have hF' : NewAt wz2.heap.size (fun b => .pointer (some ⟨b, 0, none⟩)) [(.int .i64 0), (.int .i64 0), (.slice none 0 0), (.slice none 0 0)] (u 8) w' := hF; exact hF'.apart ptr_block (Nat.le_refl _)
          · rw [e] at hF ⊢; have hF' : NewAt wz2.heap.size (fun b => .pointer (some ⟨b, 0, none⟩)) [(.float .f64 0), (.float .f64 0), (.float .f64 0), (.float .f64 0)] (u 9) w' := hF; exact hF'.apart ptr_block (Nat.le_refl _)) hal (HS _ hal)
      simp [tmOf, Act.put, upd] at h ⊢
      go_simp
      exact h
  · intro p hp hli u w' hbu hSu hd
    simp only [List.mem_cons, List.not_mem_nil, or_false] at hp
    rcases hp with rfl | rfl | rfl | rfl | rfl | rfl | rfl
    · simp at hli
    · simp at hli
    · simp at hli
    · have f5 : u 5 = .agg #[.bool true, .float .f64 m1, .float .f64 m2, .float .f64 m3, .float .f64 m4] := hd 5 (by decide) (by simp [Region.binds]); exact ⟨.agg #[.float .f64 m1, .float .f64 m2, .float .f64 m3, .float .f64 m4], fun w'' _ => (by simp [tmOf, Act.put, upd, f5]; try go_simp; (try rw [fld68]); (try rfl)), (by simp [tmOf, Act.put, upd]), rfl, by decide⟩
    · simp at hli
    · simp at hli
    · simp at hli
  · intro u w' hbu hSu hF hD
    conv => arg 6; simp [tmOf, Act.put]
    have hb1 : Below wz2.heap.size wz2 w' := by first | exact (below_later _ _).drew.trans (hbu.mono (below_later _ _).size) | exact (Below.refl _ _).drew.trans hbu | exact (below_later _ _).trans (hbu.mono (below_later _ _).size)
    have hb0 : Below w.heap.size w w' := HB.out.trans (hb1.mono HB.out.size)
    have hsz3 : wz2.heap.size ≤ w'.heap.size := hb1.size
    have f1 : PtRow wz2.heap.size lx ly (u 1) w' := hF 1 (by decide)
    have f3 : PtRow wz2.heap.size hx hy (u 3) w' := hF 3 (by decide)
    have f5 : u 5 = .agg #[.bool true, .float .f64 m1, .float .f64 m2, .float .f64 m3, .float .f64 m4] := hF 5 (by decide)
    have f6 : u 6 = .agg #[.float .f64 m1, .float .f64 m2, .float .f64 m3, .float .f64 m4] := hF 6 (by decide)
    have f7 : NewAt wz2.heap.size (fun b => .pointer (some ⟨b, 0, none⟩)) [(.int .i64 0), (.int .i64 0), (.slice none 0 0), (.slice none 0 0)] (u 7) w' := hF 7 (by decide)
    have f8 : NewAt wz2.heap.size (fun b => .pointer (some ⟨b, 0, none⟩)) [(.int .i64 0), (.int .i64 0), (.slice none 0 0), (.slice none 0 0)] (u 8) w' := hF 8 (by decide)
    have f9 : NewAt wz2.heap.size (fun b => .pointer (some ⟨b, 0, none⟩)) [(.float .f64 0), (.float .f64 0), (.float .f64 0), (.float .f64 0)] (u 9) w' := hF 9 (by decide)
    obtain ⟨b7, e7, g7, l7, r7, z7⟩ := f7
    obtain ⟨p7_0, p7_1, p7_2, p7_3, -⟩ := row4.1 r7
    obtain ⟨q7_0, q7_1, q7_2, q7_3⟩ := free4 z7
    obtain ⟨b8, e8, g8, l8, r8, z8⟩ := f8
    obtain ⟨p8_0, p8_1, p8_2, p8_3, -⟩ := row4.1 r8
    obtain ⟨q8_0, q8_1, q8_2, q8_3⟩ := free4 z8
    obtain ⟨b9, e9, g9, l9, r9, z9⟩ := f9
    obtain ⟨p9_0, p9_1, p9_2, p9_3, -⟩ := row4.1 r9
    obtain ⟨q9_0, q9_1, q9_2, q9_3⟩ := free4 z9
    have n7_8 : ¬ b7 = b8 := fun h => hD 7 (by decide) 8 (by decide) (by decide) (by decide) (by decide) (by rw [e7, e8, h])
    have n8_7 : ¬ b8 = b7 := fun h => n7_8 h.symm
    have n7_9 : ¬ b7 = b9 := fun h => hD 7 (by decide) 9 (by decide) (by decide) (by decide) (by decide) (by rw [e7, e9, h])
    have n9_7 : ¬ b9 = b7 := fun h => n7_9 h.symm
    have n8_9 : ¬ b8 = b9 := fun h => hD 8 (by decide) 9 (by decide) (by decide) (by decide) (by decide) (by rw [e8, e9, h])
    have n9_8 : ¬ b9 = b8 := fun h => n8_9 h.symm
    have m7_0 : ¬ b7 = w.heap.size := by omega
    have m8_0 : ¬ b8 = w.heap.size := by omega
    have m9_0 : ¬ b9 = w.heap.size := by omega
    obtain ⟨i1, cp1, e1, g1, l1, r1⟩ := f1
    obtain ⟨i3, cp3, e3, g3, l3, r3⟩ := f3
    have x17 : ¬ b7 = i1 := fun h => hD 7 (by decide) 1 (by decide) (by decide) (by decide) (by decide) (by rw [e7, e1, h]; rfl)
    have x18 : ¬ b8 = i1 := fun h => hD 8 (by decide) 1 (by decide) (by decide) (by decide) (by decide) (by rw [e8, e1, h]; rfl)
    have x19 : ¬ b9 = i1 := fun h => hD 9 (by decide) 1 (by decide) (by decide) (by decide) (by decide) (by rw [e9, e1, h]; rfl)
    have x37 : ¬ b7 = i3 := fun h => hD 7 (by decide) 3 (by decide) (by decide) (by decide) (by decide) (by rw [e7, e3, h]; rfl)
    have x38 : ¬ b8 = i3 := fun h => hD 8 (by decide) 3 (by decide) (by decide) (by decide) (by decide) (by rw [e8, e3, h]; rfl)
    have x39 : ¬ b9 = i3 := fun h => hD 9 (by decide) 3 (by decide) (by decide) (by decide) (by decide) (by rw [e9, e3, h]; rfl)
    rw [e1, e3, f6, e7, e8, e9]
    have k0 := (hb1.cell (p := ⟨w.heap.size, 0, none⟩) hs2_0).trans c2_0_0
    have R1 := hid r1
    have R3 := hid r3
    clear e1 e3 f5 f6 e7 e8 e9 r1 r3 r7 r8 r9 z7 z8 z9 hF hD hbu hSu
    repeat' (first
      | (with_reducible refine wpTr_hv2 ?_ ?_)
      | ((with_reducible refine wpTr_lt (fun K hK => ?_)); go_simp; (first | (with_reducible refine hK _ ?_) | (rw [if_neg (by intro h; cases h)]; with_reducible refine hK _ ?_)); clear hK K)
      | ((with_reducible refine wpTr_hv (fun K L hK hL => ?_)); go_simp; (first | (with_reducible refine hL _ ?_) | (rw [if_neg (by intro h; cases h)]; with_reducible refine hL _ ?_)); clear hK hL K L)
      | ((with_reducible refine wpTr_hv (fun K L hK hL => ?_)); go_simp; (with_reducible refine hK _ _ ?_ ?_); (focus (exact ⟨_, (laterB_of (by repeat (first | (with_reducible assumption) | (with_reducible exact (below_later _ _).mono (by omega)) | (with_reducible exact Below.refl _ _) | (with_reducible refine Below.drew ?_) | (with_reducible refine Below.setCell ?_ (by first | omega | (simp; done) | (simp; omega)) _) | (with_reducible refine Below.alloc ?_ (by first | omega | (simp; omega) | (have := (below_later wz2 nx).size; simp; omega)) _)))).symm⟩)); clear hK hL K L))
    refine wpTr_nil ?_
    have hB := hb0
    refine lettered (R := fun wz3 => Exit.then _ _ _ _ wz3) (fun wz3 => wz3.cell? ⟨b7, 0, none⟩ = some (.int .i64 1) ∧ wz3.cell? ⟨b7, 1, none⟩ = some (.int .i64 0) ∧ wz3.cell? ⟨b7, 2, none⟩ = some (.slice (some ⟨i1, 0, none⟩) 2 cp1) ∧ wz3.cell? ⟨b7, 3, none⟩ = some (.slice none 0 0) ∧ wz3.cell? ⟨b8, 0, none⟩ = some (.int .i64 1) ∧ wz3.cell? ⟨b8, 1, none⟩ = some (.int .i64 0) ∧ wz3.cell? ⟨b8, 2, none⟩ = some (.slice (some ⟨i3, 0, none⟩) 2 cp3) ∧ wz3.cell? ⟨b8, 3, none⟩ = some (.slice none 0 0) ∧ wz3.cell? ⟨b9, 0, none⟩ = some (.float .f64 m1) ∧ wz3.cell? ⟨b9, 1, none⟩ = some (.float .f64 m2) ∧ wz3.cell? ⟨b9, 2, none⟩ = some (.float .f64 m3) ∧ wz3.cell? ⟨b9, 3, none⟩ = some (.float .f64 m4) ∧ wz3.cell? ⟨w.heap.size, 0, none⟩ = some (.bool true) ∧ RowOf wz3 i1 [.float .f64 lx, .float .f64 ly] ∧ RowOf wz3 i3 [.float .f64 hx, .float .f64 hy] ∧ Below w.heap.size w wz3) ⟨by go_cell, by go_cell, by go_cell, by go_cell, by go_cell, by go_cell, by go_cell, by go_cell, by go_cell, by go_cell, by go_cell, by go_cell, by go_cell, by repeat' (first | (with_reducible exact R1.out) | (with_reducible exact R3.out) | (with_reducible refine RowOf.store ?_ ?_) | assumption), by repeat' (first | (with_reducible exact R1.out) | (with_reducible exact R3.out) | (with_reducible refine RowOf.store ?_ ?_) | assumption), by repeat' (first | (with_reducible exact hB) | (with_reducible refine Below.setCell ?_ ?_ _) | (with_reducible refine Below.alloc ?_ ?_ _) | (with_reducible refine Below.drew ?_) | (with_reducible exact hB.size) | omega | (simp; done) | (simp; omega))⟩ ?_
    rintro wz3 ⟨c3_0_0, c3_0_1, c3_0_2, c3_0_3, c3_1_0, c3_1_1, c3_1_2, c3_1_3, c3_2_0, c3_2_1, c3_2_2, c3_2_3, k3, r1, r3, hb⟩
    clear HB
    have HB := hid hb
    clear hb
    replace R1 := hid r1
    replace R3 := hid r3
    clear r1 r3 hB
    go_wp2_with (first | (go_at_call 55; (with_reducible refine (P1.out _ _ _ R1.out).mono ?_); rintro e w' ⟨rfl, hbl⟩; obtain ⟨nx, rfl⟩ := later1 (lat (wz := wz3) (by repeat (first | (with_reducible exact below_later _ _) | (with_reducible exact Below.refl _ _) | (with_reducible assumption) | (with_reducible refine Below.drew ?_) | (with_reducible refine Below.alloc ?_ (by (first | (with_reducible exact Nat.le_refl _) | (with_reducible exact (below_later _ _).size) | omega | (simp; done) | (simp; omega))) _))) hbl); clear hbl) | (go_at_call 55; (with_reducible refine (P2.out _ _ _ (by first | exact R3.out.lat | exact R3.out)).mono ?_); rintro e w' ⟨rfl, hbl⟩; obtain ⟨nx, rfl⟩ := later1 (lat (wz := wz3) (by repeat (first | (with_reducible exact below_later _ _) | (with_reducible exact Below.refl _ _) | (with_reducible assumption) | (with_reducible refine Below.drew ?_) | (with_reducible refine Below.alloc ?_ (by (first | (with_reducible exact Nat.le_refl _) | (with_reducible exact (below_later _ _).size) | omega | (simp; done) | (simp; omega))) _))) hbl); clear hbl))
    go_ret
    exact ⟨rfl, HB.out.trans ((below_later _ _).mono HB.out.size)⟩
theorem min_same {a c : Nat} (ha : finB a = true) (hc : finB c = true) : feqV (fmin a c) (if ltV c a then c else a) = true := by
  obtain ⟨A, ia⟩ := (finB_iff _).1 ha
  obtain ⟨C, ic⟩ := (finB_iff _).1 hc
  have h := ite_is (ltV c a) ic ia
  rw [ltV_is ic ia] at h
  show (Ieee.double.order (fmin a c) (if ltV c a then c else a) == some .eq) = true
  rw [ltV_is ic ia, eq_is (fmin_is ia ic) h]
  simp only [decide_eq_true_eq]
  grind
theorem max_same {a c : Nat} (ha : finB a = true) (hc : finB c = true) : feqV (fmax a c) (if gtV c a then c else a) = true := by
  obtain ⟨A, ia⟩ := (finB_iff _).1 ha
  obtain ⟨C, ic⟩ := (finB_iff _).1 hc
  have h := ite_is (gtV c a) ic ia
  rw [gtV_is ic ia] at h
  show (Ieee.double.order (fmax a c) (if gtV c a then c else a) == some .eq) = true
  rw [gtV_is ic ia, eq_is (fmax_is ia ic) h]
  simp only [decide_eq_true_eq]
  grind
theorem unfit (a b c d : Nat) (ha : a < 18446744073709551616) (hb : b < 18446744073709551616) (hc : c < 18446744073709551616) (hd : d < 18446744073709551616) (hF : fin4 a b c d = false) (w : World) :
    Calls Try.prog 14 #[.agg #[.bool true, .float .f64 a, .float .f64 b, .float .f64 c, .float .f64 d]] w fun e w' => e = .returned (.bool true) ∧ Below w.heap.size w w' := by
  have EF := fun (p : Nat) (w : World) hr => eFits1 p 1 true a b c d ha hb hc hd w hr
  rw [hF] at EF
  simp only [Bool.not_true, Bool.or_self] at EF
  replace EF := hid EF
  clear ha hb hc hd hF
  go_enter Try.func14, Try.ntmps14
  go_wp2_with fail
  refine lettered (R := fun wz => Calls _ _ _ wz _) (fun wz => wz.cell? ⟨w.heap.size, 0, none⟩ = some (.bool true) ∧ wz.cell? ⟨w.heap.size, 1, none⟩ = some (.float .f64 a) ∧ wz.cell? ⟨w.heap.size, 2, none⟩ = some (.float .f64 b) ∧ wz.cell? ⟨w.heap.size, 3, none⟩ = some (.float .f64 c) ∧ wz.cell? ⟨w.heap.size, 4, none⟩ = some (.float .f64 d) ∧ wz.cell? ⟨w.heap.size + 1, 0, none⟩ = some (.bool true) ∧ wz.cell? ⟨w.heap.size + 1, 1, none⟩ = some (.float .f64 a) ∧ wz.cell? ⟨w.heap.size + 1, 2, none⟩ = some (.float .f64 b) ∧ wz.cell? ⟨w.heap.size + 1, 3, none⟩ = some (.float .f64 c) ∧ wz.cell? ⟨w.heap.size + 1, 4, none⟩ = some (.float .f64 d) ∧ w.heap.size + 2 ≤ wz.heap.size ∧ Below w.heap.size w wz) ⟨by go_cell, by go_cell, by go_cell, by go_cell, by go_cell, by go_cell, by go_cell, by go_cell, by go_cell, by go_cell, by simp, by go_grown⟩ ?_
  rintro wz ⟨c00, c01, c02, c03, c04, c10, c11, c12, c13, c14, hsz, hb⟩
  have HB := hid hb
  clear hb
  go_wp2_with (first | (go_at_call 40; (with_reducible refine (EF.out _ _ (row5.2 ⟨by go_cell, by go_cell, by go_cell, by go_cell, by go_cell, trivial⟩)).mono ?_); rintro e w' ⟨rfl, hbl⟩; obtain ⟨nx, rfl⟩ := later1 (lat (wz := wz) (by repeat (first | (with_reducible exact below_later _ _) | (with_reducible exact Below.refl _ _) | (with_reducible assumption) | (with_reducible refine Below.drew ?_) | (with_reducible refine Below.alloc ?_ (by (first | (with_reducible exact Nat.le_refl _) | (with_reducible exact (below_later _ _).size) | omega | (simp; done) | (simp; omega))) _))) hbl); clear hbl))
  go_ret
  exact ⟨rfl, HB.out.trans ((below_later _ _).mono HB.out.size)⟩
theorem walk (full : Bool) (a b c d : Nat) (ha : a < 18446744073709551616) (hb : b < 18446744073709551616) (hc : c < 18446744073709551616) (hd : d < 18446744073709551616) (w : World) :
    Calls Try.prog 14 #[.agg #[.bool full, .float .f64 a, .float .f64 b, .float .f64 c, .float .f64 d]] w fun e w' => e = .returned (.bool true) ∧ Below w.heap.size w w' := by
  cases full with
  | false => exact walkN a b c d ha hb hc hd w
  | true =>
    cases hF : fin4 a b c d with
    | false => exact unfit a b c d ha hb hc hd hF w
    | true =>
      have h := hF
      unfold fin4 at h
      simp only [Bool.and_eq_true] at h
      obtain ⟨⟨⟨fa, fb⟩, fc⟩, fd⟩ := h
      exact coreT a b c d (fmin a c) (fmin b d) (fmax a c) (fmax b d) _ _ _ _ ha hb hc hd hF (fun w => envelopeT a b c d w) (fun w => eMadeT a b c d w) (min_same fa fc) (min_same fb fd) (max_same fa fc) (max_same fb fd) w
set_option maxRecDepth 100000 in
theorem lifted (os : Os) (started : os.Started) (H : Type) (enc : TypeId × Value → H) :
    ReturnsInHanded {} Try.checked os 14 .any (Rows.fnEnvEndsSpec.pre6 enc Try.prog Try.f14 Rows.fnEnvEndsRow.domain false) (Rows.fnEnvEndsSpec.post enc Try.prog Try.f14 false true false false) := by
  refine returnsInHanded_of_change (C := Try.checked) own started (by kernel_rfl) Try.func14
    (ChangeSpec.witness6 (enc := enc) (C := Try.checked) false ⟨#[], #[.agg #[.bool false, .float .f64 0, .float .f64 0, .float .f64 0, .float .f64 0]], []⟩ 16 (by kernel_rfl) (by kernel_rfl) (by kernel_rfl) (by kernel_rfl)) ?_
  intro W base args ds gs before hval0 hW hcnd _
  have hval : ∀ (j : Nat) t v, Try.f14.params[j]? = some t → args[j]? = some v → Value.okWide Try.prog W .any base t v := hval0
  have hW' := hW
  obtain ⟨p, q, hA0, hV, rfl, hfz, hnd⟩ := hW
  have hA : DataW.TrodAll enc Try.prog W 0 (fun _ => true) true Try.f14.params.toList args.toList ds p := hA0
  rw [Try.params14] at hA hval
  obtain ⟨v0, vs0, d0, ds0, p0, q0, hargs, rfl, rfl, h0, r0⟩ := trodAll_cons hA
  obtain ⟨rfl, rfl, rfl⟩ := trodAll_nil r0
  obtain rfl : args = #[v0] := by cases args; simp_all
  obtain ⟨rfl, rfl⟩ := trodVars_none hV
  have lt0 : ∀ x ∈ p0, x.block < W.heap.size := by obtain ⟨m, hm⟩ := h0; exact DataW.trod_lt m _ _ _ hm
  obtain ⟨full, ea, eb, ec, ed, rfl, ha, hb, hc, hd⟩ := readEnv (hval 0 _ _ rfl rfl)
  clear hA0 hval0
  refine (walk full ea eb ec ed ha hb hc hd W).mono fun e W' ⟨he, bel⟩ => ?_
  subst he
  exact ⟨_, rfl, _, _, _, [], _, [], hW', trodAll_mk1 (shut_bool Try.underlying4 _), (trodAll_cons_mk (Below.trod laidOut (by kernel_rfl) (of_decide_eq_true (by kernel_rfl)) h0 bel lt0) trodAll_mk0), rfl, bel.frame _, fun h => by cases h⟩

theorem over : Rows.fnEnvEndsRow.holds Try.pinned (OpenSpec.ofChange Rows.fnEnvEndsSpec) :=
  OpenClaim.holds_of_wide 14 Try.f14 rfl rfl rfl rfl rfl rfl rfl ⟨rfl, rfl, rfl, rfl, rfl⟩ rfl rfl rfl rfl rfl (by kernel_rfl) Try.func14 (by kernel_rfl)
    (of_decide_eq_true (by kernel_rfl)) (by unfold Func.isWrapper; first | (rw [if_pos (by decide +kernel)]; kernel_rfl) | (rw [if_neg (by decide +kernel)]; exact ⟨rfl, rfl⟩))
    (fun os started H enc _ => lifted os started H enc)

theorem proved : Rows.FnEnvEndsSaid := over
end fnEnvEnds
end Go.Proofs.Ytbcjlgkdmkehlaa
