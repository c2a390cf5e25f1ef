/- Envelopes of the package: a new one, one expanded by a place, whether one is empty. -/
import Derived.Test.YtbcjlgkdmkehlaaRows
import Derived.Test.YtbcjlgkdmkehlaaFin
namespace Go.Proofs.Ytbcjlgkdmkehlaa
open Go.ChangeShapes Go.WideShapes Go.ChangeAt Go.RowKit Fl
set_option maxRecDepth 100000

/-- an envelope as the package has it -/
structure EV where
  (lx ly hx hy : Nat)
  full : Bool
def EV.v (e : EV) : Value := .agg #[.float .f64 e.lx, .float .f64 e.ly, .float .f64 e.hx, .float .f64 e.hy, .bool e.full]
def EV.none : EV := ⟨0, 0, 0, 0, false⟩
def EV.step (e : EV) (x y : Nat) : EV := if e.full then ⟨fmin e.lx x, fmin e.ly y, fmax e.hx x, fmax e.hy y, true⟩ else ⟨x, y, x, y, true⟩
theorem newUnchecked (a b c d : Nat) (w : World) : Calls Try.prog 117 #[.agg #[.float .f64 a, .float .f64 b], .agg #[.float .f64 c, .float .f64 d]] w fun e w' => e = .returned (.agg #[.float .f64 a, .float .f64 b, .float .f64 c, .float .f64 d, .bool true]) ∧ Below w.heap.size w w' := by
  go_enter Try.func117, Try.ntmps117
  go_wp2
  go_returns
  exact ⟨rfl, by go_grown⟩
theorem envIsEmpty (lx ly hx hy : Nat) (b : Bool) (w : World) : Calls Try.prog 109 #[.agg #[.float .f64 lx, .float .f64 ly, .float .f64 hx, .float .f64 hy, .bool b]] w fun e w' => e = .returned (.bool (!b)) ∧ Below w.heap.size w w' := by
  go_enter Try.func109, Try.ntmps109
  go_wp2
  go_ret
  exact ⟨rfl, by go_grown⟩
theorem expandF (lx ly hx hy x y : Nat) (w : World) : Calls Try.prog 131 #[.agg #[.float .f64 lx, .float .f64 ly, .float .f64 hx, .float .f64 hy, .bool false], .agg #[.float .f64 x, .float .f64 y]] w fun e w' => e = .returned (.agg #[.float .f64 x, .float .f64 y, .float .f64 x, .float .f64 y, .bool true]) ∧ Below w.heap.size w w' := by
  go_enter Try.func131, Try.ntmps131
  go_wp2_with fail
  refine lettered (R := fun wz => Calls _ _ _ wz _) (fun wz => wz.cell? ⟨w.heap.size, 0, none⟩ = some (.float .f64 lx) ∧ wz.cell? ⟨w.heap.size, 1, none⟩ = some (.float .f64 ly) ∧ wz.cell? ⟨w.heap.size, 2, none⟩ = some (.float .f64 hx) ∧ wz.cell? ⟨w.heap.size, 3, none⟩ = some (.float .f64 hy) ∧ wz.cell? ⟨w.heap.size, 4, none⟩ = some (.bool false) ∧ wz.cell? ⟨w.heap.size + 1, 0, none⟩ = some (.float .f64 x) ∧ wz.cell? ⟨w.heap.size + 1, 1, none⟩ = some (.float .f64 y) ∧ wz.cell? ⟨w.heap.size + 1 + 1, 0, none⟩ = some (.float .f64 0) ∧ wz.cell? ⟨w.heap.size + 1 + 1, 1, none⟩ = some (.float .f64 0) ∧ wz.cell? ⟨w.heap.size + 1 + 1, 2, none⟩ = some (.float .f64 0) ∧ wz.cell? ⟨w.heap.size + 1 + 1, 3, none⟩ = some (.float .f64 0) ∧ wz.cell? ⟨w.heap.size + 1 + 1, 4, none⟩ = some (.bool false) ∧ wz.frozen? ⟨w.heap.size + 1 + 1, 0, none⟩ = false ∧ wz.frozen? ⟨w.heap.size + 1 + 1, 1, none⟩ = false ∧ wz.frozen? ⟨w.heap.size + 1 + 1, 2, none⟩ = false ∧ wz.frozen? ⟨w.heap.size + 1 + 1, 3, none⟩ = false ∧ wz.frozen? ⟨w.heap.size + 1 + 1, 4, none⟩ = false ∧ w.heap.size + 3 ≤ wz.heap.size ∧ Below w.heap.size w wz) ⟨by go_cell, by go_cell, by go_cell, by go_cell, by go_cell, by go_cell, by go_cell, by go_cell, by go_cell, by go_cell, by go_cell, by go_cell, by go_cell, by go_cell, by go_cell, by go_cell, by go_cell, by simp, by go_grown⟩ ?_
  rintro wz ⟨c00, c01, c02, c03, c04, c10, c11, c20, c21, c22, c23, c24, z20, z21, z22, z23, z24, hsz, hb⟩
  have HB := hid hb
  clear hb
  go_wp2_with (first | (go_at_call 109; (with_reducible refine (envIsEmpty _ _ _ _ _ _).mono ?_); rintro e w' ⟨rfl, hbl⟩; obtain ⟨nx, rfl⟩ := later1 (lat (wz := wz) (by repeat (first | (with_reducible exact below_later _ _) | (with_reducible exact Below.refl _ _) | (with_reducible assumption) | (with_reducible refine Below.drew ?_) | (with_reducible refine Below.alloc ?_ (by (first | (with_reducible exact Nat.le_refl _) | (with_reducible exact (below_later _ _).size) | omega | (simp; done) | (simp; omega))) _))) hbl); clear hbl) | (go_at_call 117; (with_reducible refine (newUnchecked _ _ _ _ _).mono ?_); rintro e w' ⟨rfl, hbl⟩; obtain ⟨nx, rfl⟩ := later1 (lat (wz := wz) (by repeat (first | (with_reducible exact below_later _ _) | (with_reducible exact Below.refl _ _) | (with_reducible assumption) | (with_reducible refine Below.drew ?_) | (with_reducible refine Below.alloc ?_ (by (first | (with_reducible exact Nat.le_refl _) | (with_reducible exact (below_later _ _).size) | omega | (simp; done) | (simp; omega))) _))) hbl); clear hbl))
  refine bodyPost_ret (ret1 (b := w.heap.size + 1 + 1) (cs := [.float .f64 x, .float .f64 y, .float .f64 x, .float .f64 y, .bool true]) Try.results131 rfl Try.underlying110 rfl (by kernel_rfl) ⟨by go_cell, by go_cell, by go_cell, by go_cell, by go_cell, trivial⟩) rfl ?_
  exact ⟨rfl, by
    have hB := HB.out.trans ((below_later wz nx).mono HB.out.size)
    repeat' (first | (with_reducible exact hB) | (with_reducible refine Below.setCell ?_ ?_ _) | (with_reducible refine Below.alloc ?_ ?_ _) | (with_reducible refine Below.drew ?_) | omega | (simp; done) | (simp; omega))⟩
theorem quiet_below {P : Program} {f : FuncId} {args : Array Value} {w : World} {v : Value} (h : Calls P f args w fun e w' => e = .returned v ∧ w = w') : Calls P f args w fun e w' => e = .returned v ∧ Below w.heap.size w w' := h.mono fun _ _ h => ⟨h.1, h.2 ▸ Below.refl _ _⟩
set_option maxHeartbeats 1000000 in
theorem expandT (lx ly hx hy x y : Nat) (w : World) : Calls Try.prog 131 #[.agg #[.float .f64 lx, .float .f64 ly, .float .f64 hx, .float .f64 hy, .bool true], .agg #[.float .f64 x, .float .f64 y]] w fun e w' => e = .returned (.agg #[.float .f64 (fmin lx x), .float .f64 (fmin ly y), .float .f64 (fmax hx x), .float .f64 (fmax hy y), .bool true]) ∧ Below w.heap.size w w' := by
  have N1 := hid (fun w => quiet_below (fastMin lx x w))
  have N2 := hid (fun w => quiet_below (fastMin ly y w))
  have N3 := hid (fun w => quiet_below (fastMax hx x w))
  have N4 := hid (fun w => quiet_below (fastMax hy y w))
  generalize fmin lx x = r1 at *
  generalize fmin ly y = r2 at *
  generalize fmax hx x = r3 at *
  generalize fmax hy y = r4 at *
  go_enter Try.func131, Try.ntmps131
  go_wp2_with fail
  refine lettered (R := fun wz => Calls _ _ _ wz _) (fun wz => wz.cell? ⟨w.heap.size, 0, none⟩ = some (.float .f64 lx) ∧ wz.cell? ⟨w.heap.size, 1, none⟩ = some (.float .f64 ly) ∧ wz.cell? ⟨w.heap.size, 2, none⟩ = some (.float .f64 hx) ∧ wz.cell? ⟨w.heap.size, 3, none⟩ = some (.float .f64 hy) ∧ wz.cell? ⟨w.heap.size, 4, none⟩ = some (.bool true) ∧ wz.cell? ⟨w.heap.size + 1, 0, none⟩ = some (.float .f64 x) ∧ wz.cell? ⟨w.heap.size + 1, 1, none⟩ = some (.float .f64 y) ∧ wz.cell? ⟨w.heap.size + 1 + 1, 0, none⟩ = some (.float .f64 0) ∧ wz.cell? ⟨w.heap.size + 1 + 1, 1, none⟩ = some (.float .f64 0) ∧ wz.cell? ⟨w.heap.size + 1 + 1, 2, none⟩ = some (.float .f64 0) ∧ wz.cell? ⟨w.heap.size + 1 + 1, 3, none⟩ = some (.float .f64 0) ∧ wz.cell? ⟨w.heap.size + 1 + 1, 4, none⟩ = some (.bool false) ∧ wz.frozen? ⟨w.heap.size + 1 + 1, 0, none⟩ = false ∧ wz.frozen? ⟨w.heap.size + 1 + 1, 1, none⟩ = false ∧ wz.frozen? ⟨w.heap.size + 1 + 1, 2, none⟩ = false ∧ wz.frozen? ⟨w.heap.size + 1 + 1, 3, none⟩ = false ∧ wz.frozen? ⟨w.heap.size + 1 + 1, 4, none⟩ = false ∧ w.heap.size + 3 ≤ wz.heap.size ∧ Below w.heap.size w wz) ⟨by go_cell, by go_cell, by go_cell, by go_cell, by go_cell, by go_cell, by go_cell, by go_cell, by go_cell, by go_cell, by go_cell, by go_cell, by go_cell, by go_cell, by go_cell, by go_cell, by go_cell, by simp, by go_grown⟩ ?_
  rintro wz ⟨c00, c01, c02, c03, c04, c10, c11, c20, c21, c22, c23, c24, z20, z21, z22, z23, z24, hsz, hb⟩
  have HB := hid hb
  clear hb
  go_wp2_with (first | (go_at_call 109; (with_reducible refine (envIsEmpty _ _ _ _ _ _).mono ?_); rintro e w' ⟨rfl, hbl⟩; obtain ⟨nx, rfl⟩ := later1 (lat (wz := wz) (by repeat (first | (with_reducible exact below_later _ _) | (with_reducible exact Below.refl _ _) | (with_reducible assumption) | (with_reducible refine Below.drew ?_) | (with_reducible refine Below.alloc ?_ (by (first | (with_reducible exact Nat.le_refl _) | (with_reducible exact (below_later _ _).size) | omega | (simp; done) | (simp; omega))) _))) hbl); clear hbl))
  refine lettered (R := fun wy => Code.wp _ _ _ _ wy) (fun wy => wy.cell? ⟨w.heap.size, 0, none⟩ = some (.float .f64 lx) ∧ wy.cell? ⟨w.heap.size, 1, none⟩ = some (.float .f64 ly) ∧ wy.cell? ⟨w.heap.size, 2, none⟩ = some (.float .f64 hx) ∧ wy.cell? ⟨w.heap.size, 3, none⟩ = some (.float .f64 hy) ∧ wy.cell? ⟨w.heap.size, 4, none⟩ = some (.bool true) ∧ wy.cell? ⟨w.heap.size + 1, 0, none⟩ = some (.float .f64 x) ∧ wy.cell? ⟨w.heap.size + 1, 1, none⟩ = some (.float .f64 y) ∧ wy.cell? ⟨w.heap.size + 1 + 1, 0, none⟩ = some (.float .f64 0) ∧ wy.cell? ⟨w.heap.size + 1 + 1, 1, none⟩ = some (.float .f64 0) ∧ wy.cell? ⟨w.heap.size + 1 + 1, 2, none⟩ = some (.float .f64 0) ∧ wy.cell? ⟨w.heap.size + 1 + 1, 3, none⟩ = some (.float .f64 0) ∧ wy.cell? ⟨w.heap.size + 1 + 1, 4, none⟩ = some (.bool false) ∧ wy.frozen? ⟨w.heap.size + 1 + 1, 0, none⟩ = false ∧ wy.frozen? ⟨w.heap.size + 1 + 1, 1, none⟩ = false ∧ wy.frozen? ⟨w.heap.size + 1 + 1, 2, none⟩ = false ∧ wy.frozen? ⟨w.heap.size + 1 + 1, 3, none⟩ = false ∧ wy.frozen? ⟨w.heap.size + 1 + 1, 4, none⟩ = false ∧ Below wz.heap.size wz wy) ⟨by go_cell, by go_cell, by go_cell, by go_cell, by go_cell, by go_cell, by go_cell, by go_cell, by go_cell, by go_cell, by go_cell, by go_cell, by simp [*], by simp [*], by simp [*], by simp [*], by simp [*], below_later _ _⟩ ?_
  rintro wy ⟨d00, d01, d02, d03, d04, d10, d11, d20, d21, d22, d23, d24, y20, y21, y22, y23, y24, hby⟩
  clear c00 c01 c02 c03 c04 c10 c11 c20 c21 c22 c23 c24 z20 z21 z22 z23 z24
  have HZ := hid (HB.out.trans (hby.mono HB.out.size))
  have hsz2 := hby.size
  clear hby HB
  replace hsz : w.heap.size + 3 ≤ wy.heap.size := by omega
  clear hsz2
  refine wp_region_ord (S := (fun w' => ∃ e, w' = laterB (w.heap.size + 2) wy e)) [(0, false), (1, false), (2, false), (3, false), (4, false), (6, false), (7, false), (8, false), (9, false), (10, false), (13, false), (14, false), (15, false), (16, false), (17, false), (19, false), (20, false), (21, false), (22, false), (23, false), (5, true), (11, true), (12, false), (18, true), (24, true), (25, false), (26, true), (27, true)] (by kernel_rfl) (by kernel_rfl) (fun _ _ d _ _ h => by cases d <;> exact h) ⟨_, (laterB_of (by repeat (first | (with_reducible exact (below_later _ _).mono (by omega)) | (with_reducible exact Below.refl _ _) | (with_reducible refine Below.drew ?_) | (with_reducible refine Below.setCell ?_ (by first | omega | (simp; done) | (simp; omega)) _) | (with_reducible refine Below.alloc ?_ (by first | omega | (simp; omega) | (have := (below_later wy nx).size; simp; omega)) _)))).symm⟩ ?_
  simp only [pickO, List.filterMap_cons, List.filterMap_nil, List.getElem?_cons_succ, List.getElem?_cons_zero, Option.map_some]
  repeat (first
    | ((with_reducible refine wpOrd_light (fun K hK => ?_)); go_simp; (with_reducible refine hK _ ?_); clear hK K)
    | ((with_reducible refine wpOrd_heavy (fun K L hK hL => ?_)); go_simp; (with_reducible refine hL _ ?_); clear hK hL K L)
    | ((with_reducible refine wpOrd_heavy (fun K L hK hL => ?_)); go_simp; (with_reducible refine hK _ _ ?_ ?_); (focus (exact ⟨_, (laterB_of (by repeat (first | (with_reducible exact (below_later _ _).mono (by omega)) | (with_reducible exact Below.refl _ _) | (with_reducible refine Below.drew ?_) | (with_reducible refine Below.setCell ?_ (by first | omega | (simp; done) | (simp; omega)) _) | (with_reducible refine Below.alloc ?_ (by first | omega | (simp; omega) | (have := (below_later wy nx).size; simp; omega)) _)))).symm⟩)); clear hK hL K L)
    | ((with_reducible refine wpOrd_heavy (fun K L hK hL => ?_)); go_simp; go_at_call 115; (with_reducible refine (N1.out _).mono ?_); rintro e w' ⟨rfl, hbl⟩; obtain ⟨nx, rfl⟩ := later1 (lat (wz := wy) (by repeat (first | (with_reducible exact below_later _ _) | (with_reducible exact Below.refl _ _) | (with_reducible assumption) | (with_reducible refine Below.drew ?_) | (with_reducible refine Below.alloc ?_ (by (first | (with_reducible exact Nat.le_refl _) | (with_reducible exact (below_later _ _).size) | omega | (simp; done) | (simp; omega))) _))) hbl); clear hbl; go_simp; (with_reducible refine hK _ _ ?_ ?_); (focus (exact ⟨_, (laterB_of (by repeat (first | (with_reducible exact (below_later _ _).mono (by omega)) | (with_reducible exact Below.refl _ _) | (with_reducible refine Below.drew ?_) | (with_reducible refine Below.setCell ?_ (by first | omega | (simp; done) | (simp; omega)) _) | (with_reducible refine Below.alloc ?_ (by first | omega | (simp; omega) | (have := (below_later wy nx).size; simp; omega)) _)))).symm⟩)); clear hK hL K L)
    | ((with_reducible refine wpOrd_heavy (fun K L hK hL => ?_)); go_simp; go_at_call 115; (with_reducible refine (N2.out _).mono ?_); rintro e w' ⟨rfl, hbl⟩; obtain ⟨nx, rfl⟩ := later1 (lat (wz := wy) (by repeat (first | (with_reducible exact below_later _ _) | (with_reducible exact Below.refl _ _) | (with_reducible assumption) | (with_reducible refine Below.drew ?_) | (with_reducible refine Below.alloc ?_ (by (first | (with_reducible exact Nat.le_refl _) | (with_reducible exact (below_later _ _).size) | omega | (simp; done) | (simp; omega))) _))) hbl); clear hbl; go_simp; (with_reducible refine hK _ _ ?_ ?_); (focus (exact ⟨_, (laterB_of (by repeat (first | (with_reducible exact (below_later _ _).mono (by omega)) | (with_reducible exact Below.refl _ _) | (with_reducible refine Below.drew ?_) | (with_reducible refine Below.setCell ?_ (by first | omega | (simp; done) | (simp; omega)) _) | (with_reducible refine Below.alloc ?_ (by first | omega | (simp; omega) | (have := (below_later wy nx).size; simp; omega)) _)))).symm⟩)); clear hK hL K L)
    | ((with_reducible refine wpOrd_heavy (fun K L hK hL => ?_)); go_simp; go_at_call 116; (with_reducible refine (N3.out _).mono ?_); rintro e w' ⟨rfl, hbl⟩; obtain ⟨nx, rfl⟩ := later1 (lat (wz := wy) (by repeat (first | (with_reducible exact below_later _ _) | (with_reducible exact Below.refl _ _) | (with_reducible assumption) | (with_reducible refine Below.drew ?_) | (with_reducible refine Below.alloc ?_ (by (first | (with_reducible exact Nat.le_refl _) | (with_reducible exact (below_later _ _).size) | omega | (simp; done) | (simp; omega))) _))) hbl); clear hbl; go_simp; (with_reducible refine hK _ _ ?_ ?_); (focus (exact ⟨_, (laterB_of (by repeat (first | (with_reducible exact (below_later _ _).mono (by omega)) | (with_reducible exact Below.refl _ _) | (with_reducible refine Below.drew ?_) | (with_reducible refine Below.setCell ?_ (by first | omega | (simp; done) | (simp; omega)) _) | (with_reducible refine Below.alloc ?_ (by first | omega | (simp; omega) | (have := (below_later wy nx).size; simp; omega)) _)))).symm⟩)); clear hK hL K L)
    | ((with_reducible refine wpOrd_heavy (fun K L hK hL => ?_)); go_simp; go_at_call 116; (with_reducible refine (N4.out _).mono ?_); rintro e w' ⟨rfl, hbl⟩; obtain ⟨nx, rfl⟩ := later1 (lat (wz := wy) (by repeat (first | (with_reducible exact below_later _ _) | (with_reducible exact Below.refl _ _) | (with_reducible assumption) | (with_reducible refine Below.drew ?_) | (with_reducible refine Below.alloc ?_ (by (first | (with_reducible exact Nat.le_refl _) | (with_reducible exact (below_later _ _).size) | omega | (simp; done) | (simp; omega))) _))) hbl); clear hbl; go_simp; (with_reducible refine hK _ _ ?_ ?_); (focus (exact ⟨_, (laterB_of (by repeat (first | (with_reducible exact (below_later _ _).mono (by omega)) | (with_reducible exact Below.refl _ _) | (with_reducible refine Below.drew ?_) | (with_reducible refine Below.setCell ?_ (by first | omega | (simp; done) | (simp; omega)) _) | (with_reducible refine Below.alloc ?_ (by first | omega | (simp; omega) | (have := (below_later wy nx).size; simp; omega)) _)))).symm⟩)); clear hK hL K L)
    | ((with_reducible refine wpOrd_heavy (fun K L hK hL => ?_)); go_simp; go_at_call 117; (with_reducible refine (newUnchecked _ _ _ _ _).mono ?_); rintro e w' ⟨rfl, hbl⟩; obtain ⟨nx, rfl⟩ := later1 (lat (wz := wy) (by repeat (first | (with_reducible exact below_later _ _) | (with_reducible exact Below.refl _ _) | (with_reducible assumption) | (with_reducible refine Below.drew ?_) | (with_reducible refine Below.alloc ?_ (by (first | (with_reducible exact Nat.le_refl _) | (with_reducible exact (below_later _ _).size) | omega | (simp; done) | (simp; omega))) _))) hbl); clear hbl; go_simp; (with_reducible refine hK _ _ ?_ ?_); (focus (exact ⟨_, (laterB_of (by repeat (first | (with_reducible exact (below_later _ _).mono (by omega)) | (with_reducible exact Below.refl _ _) | (with_reducible refine Below.drew ?_) | (with_reducible refine Below.setCell ?_ (by first | omega | (simp; done) | (simp; omega)) _) | (with_reducible refine Below.alloc ?_ (by first | omega | (simp; omega) | (have := (below_later wy nx).size; simp; omega)) _)))).symm⟩)); clear hK hL K L))
  refine wpOrd_nil ?_
  go_wp2_with fail
  refine bodyPost_ret (ret1 (b := w.heap.size + 1 + 1) (cs := [.float .f64 r1, .float .f64 r2, .float .f64 r3, .float .f64 r4, .bool true]) Try.results131 rfl Try.underlying110 rfl (by kernel_rfl) ⟨by go_cell, by go_cell, by go_cell, by go_cell, by go_cell, trivial⟩) rfl ?_
  exact ⟨rfl, by
    have hB := HZ.out.trans ((below_later wy nx).mono HZ.out.size)
    repeat' (first | (with_reducible exact hB) | (with_reducible refine Below.setCell ?_ ?_ _) | (with_reducible refine Below.alloc ?_ ?_ _) | (with_reducible refine Below.drew ?_) | omega | (simp; done) | (simp; omega))⟩
theorem expand (e : EV) (x y : Nat) (w : World) : Calls Try.prog 131 #[e.v, .agg #[.float .f64 x, .float .f64 y]] w fun e' w' => e' = .returned (e.step x y).v ∧ Below w.heap.size w w' := by
  obtain ⟨lx, ly, hx, hy, b⟩ := e
  cases b
  · exact expandF lx ly hx hy x y w
  · exact expandT lx ly hx hy x y w

/-- places of two words lie behind an address -/
def XYsAt (w : World) (b off n : Nat) (px py : Nat → Nat) : Prop :=
  ∀ i, i < n → w.cell? ⟨b, off + i * 2, none⟩ = some (.float .f64 (px i)) ∧ w.cell? ⟨b, off + i * 2 + 1, none⟩ = some (.float .f64 (py i))
def EV.fold (px py : Nat → Nat) : Nat → EV
  | 0 => EV.none
  | k + 1 => (EV.fold px py k).step (px k) (py k)
def EVcells (e : EV) : List Value := [.float .f64 e.lx, .float .f64 e.ly, .float .f64 e.hx, .float .f64 e.hy, .bool e.full]
def EnvRel (w : World) (e : EV) (wr : World) : Prop :=
  w.heap.size + 2 ≤ wr.heap.size ∧ Below w.heap.size w wr ∧ RowAt wr (w.heap.size + 1) 0 (EVcells e) ∧ FreeAt wr (w.heap.size + 1) 5 ∧ RowAt wr w.heap.size 0 (EVcells EV.none) ∧ FreeAt wr w.heap.size 5
theorem expandV (e : EV) (x y : Nat) : ∃ a b c d, (e.step x y) = ⟨a, b, c, d, true⟩ := by
  unfold EV.step; split <;> exact ⟨_, _, _, _, rfl⟩
set_option maxHeartbeats 1000000 in
theorem newEnvelope (b off n c : Nat) (px py : Nat → Nat) (hn : n ≤ 9223372036854775807) (w : World) (hp : XYsAt w b off n px py) (hb : b < w.heap.size) :
    Calls Try.prog 108 #[.slice (some ⟨b, off, none⟩) n c] w fun e w' => e = .returned (EV.fold px py n).v ∧ Below w.heap.size w w' := by
  have HP := hid hp
  clear hp
  go_enter Try.func108, Try.ntmps108
  go_wp2_with fail
  go_loopw [8] (fun i wr => ∃ k : Nat, k ≤ n ∧ i = .int .i64 k ∧ EnvRel w (EV.fold px py k) wr) (fun i _ => n - (intOf i).toNat)
  case atStart =>
    refine ⟨0, Nat.zero_le _, rfl, by simp, by go_grown, show RowAt _ _ 0 [.float .f64 0, .float .f64 0, .float .f64 0, .float .f64 0, .bool false] from row5.2 ⟨by go_cell, by go_cell, by go_cell, by go_cell, by go_cell, trivial⟩, ?_, show RowAt _ _ 0 [.float .f64 0, .float .f64 0, .float .f64 0, .float .f64 0, .bool false] from row5.2 ⟨by go_cell, by go_cell, by go_cell, by go_cell, by go_cell, trivial⟩, ?_⟩
    · intro i hi; simp [go_sem]
    · intro i hi; simp [go_sem]
  case round =>
    obtain ⟨k, hk, rfl, hsz, hbl, r1, f1, r0, f0⟩ := hrel
    obtain ⟨c10, c11, c12, c13, c14, -⟩ := row5.1 r1
    obtain ⟨c00, c01, c02, c03, c04, -⟩ := row5.1 r0
    obtain ⟨z10, z11, z12, z13, z14⟩ := free5 f1
    obtain ⟨z00, z01, z02, z03, z04⟩ := free5 f0
    clear r0 r1
    have F0 := hid f0
    have F1 := hid f1
    clear f0 f1
    have hB := hid hbl
    by_cases hlt : k < n
    · have hx : wr.cell? ⟨b, off + k * 2, none⟩ = some (.float .f64 (px k)) := by
        rw [hbl.cell (p := ⟨b, off + k * 2, none⟩) hb]; exact (HP.out k hlt).1
      have hy : wr.cell? ⟨b, off + k * 2 + 1, none⟩ = some (.float .f64 (py k)) := by
        rw [hbl.cell (p := ⟨b, off + k * 2 + 1, none⟩) hb]; exact (HP.out k hlt).2
      clear hbl
      obtain ⟨a1, a2, a3, a4, hE⟩ := expandV (EV.fold px py k) (px k) (py k)
      have X := expand (EV.fold px py k) (px k) (py k)
      have S : EV.fold px py (k + 1) = ⟨a1, a2, a3, a4, true⟩ := hE
      rw [hE] at X
      generalize hf : EV.fold px py k = e at *
      obtain ⟨lx, ly, hx', hy', fb⟩ := e
      simp only [EV.v] at X
      replace X := hid X
      replace S := hid S
      have q0 : w.heap.size < wr.heap.size := by omega
      have q1 : w.heap.size + 1 < wr.heap.size := by omega
      clear hE hf
      generalize px k = x at *
      generalize py k = y at *
      simp only [EV.none] at *
      go_wp2_with (first | (go_at_call 131; (with_reducible refine (X.out _).mono ?_); rintro e w' ⟨rfl, hbl⟩; obtain ⟨nx, rfl⟩ := later1 (lat (wz := wr) (by repeat (first | (with_reducible exact below_later _ _) | (with_reducible exact Below.refl _ _) | (with_reducible assumption) | (with_reducible refine Below.drew ?_) | (with_reducible refine Below.alloc ?_ (by (first | (with_reducible exact Nat.le_refl _) | (with_reducible exact (below_later _ _).size) | omega | (simp; done) | (simp; omega))) _))) hbl); clear hbl))
      go_roundw
      case rel =>
        refine ⟨k + 1, by omega, by go_num, ?_⟩
        rw [S.out]
        have hB2 := hB.out.trans ((below_later wr nx).mono hB.out.size)
        have hs2 := (below_later wr nx).size
        refine ⟨by simp; omega, by repeat' (first | (with_reducible exact hB2) | (with_reducible refine Below.setCell ?_ ?_ _) | (with_reducible refine Below.alloc ?_ ?_ _) | (with_reducible refine Below.drew ?_) | omega | (simp; done) | (simp; omega)), show RowAt _ _ 0 [.float .f64 a1, .float .f64 a2, .float .f64 a3, .float .f64 a4, .bool true] from row5.2 ⟨by go_cell, by go_cell, by go_cell, by go_cell, by go_cell, trivial⟩, ?_, show RowAt _ _ 0 [.float .f64 0, .float .f64 0, .float .f64 0, .float .f64 0, .bool false] from row5.2 ⟨by go_cell, by go_cell, by go_cell, by go_cell, by go_cell, trivial⟩, ?_⟩
        · intro i hi
          simp only [World.frozen?_setCell]
          exact ((below_later wr nx).frozen (by simpa using q1)).trans (F1.out i hi)
        · intro i hi
          simp only [World.frozen?_setCell]
          exact ((below_later wr nx).frozen (by simpa using q0)).trans (F0.out i hi)
      case measure => simp [intOf]; omega
    · have e : k = n := by omega
      subst e
      simp only [EV.none] at *
      have q0 : w.heap.size < wr.heap.size := by omega
      have q1 : w.heap.size + 1 < wr.heap.size := by omega
      clear hbl
      go_wp2_with fail
      refine bodyPost_ret (ret1 (b := w.heap.size) (cs := [.float .f64 (EV.fold px py k).lx, .float .f64 (EV.fold px py k).ly, .float .f64 (EV.fold px py k).hx, .float .f64 (EV.fold px py k).hy, .bool (EV.fold px py k).full]) Try.results108 rfl Try.underlying110 rfl (by kernel_rfl) ⟨by go_cell, by go_cell, by go_cell, by go_cell, by go_cell, trivial⟩) rfl ?_
      exact ⟨rfl, by repeat' (first | (with_reducible exact hB.out) | (with_reducible refine Below.setCell ?_ ?_ _) | (with_reducible refine Below.alloc ?_ ?_ _) | (with_reducible refine Below.drew ?_) | omega | (simp; done) | (simp; omega))⟩
end Go.Proofs.Ytbcjlgkdmkehlaa
