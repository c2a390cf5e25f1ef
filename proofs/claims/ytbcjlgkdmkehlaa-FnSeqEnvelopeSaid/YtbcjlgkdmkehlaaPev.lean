/- Envelopes as plain data; whether two plain envelopes are equal. -/
import Derived.Test.YtbcjlgkdmkehlaaRows
import Derived.Test.YtbcjlgkdmkehlaaEof
import Derived.Test.YtbcjlgkdmkehlaaTre
namespace Go.Proofs.Ytbcjlgkdmkehlaa
open Go.ChangeShapes Go.WideShapes Go.ChangeAt Go.RowKit Fl
set_option maxRecDepth 100000
set_option linter.unusedSimpArgs false
theorem minMaxT (lx ly hx hy : Nat) (w : World) : Calls Try.prog 114 #[.agg #[.float .f64 lx, .float .f64 ly, .float .f64 hx, .float .f64 hy, .bool true]] w fun e w' => e = .returned (.tuple #[.agg #[.float .f64 lx, .float .f64 ly], .agg #[.float .f64 hx, .float .f64 hy], .bool true]) ∧ Below w.heap.size w w' := by
  have I := hid (envIsEmpty lx ly hx hy true)
  go_enter Try.func114, Try.ntmps114
  go_wp2_with fail
  refine lettered (R := fun wz => Calls _ _ _ wz _) (fun wz => wz.cell? ⟨w.heap.size, 0, none⟩ = some (.float .f64 lx) ∧ wz.cell? ⟨w.heap.size, 1, none⟩ = some (.float .f64 ly) ∧ wz.cell? ⟨w.heap.size, 2, none⟩ = some (.float .f64 hx) ∧ wz.cell? ⟨w.heap.size, 3, none⟩ = some (.float .f64 hy) ∧ wz.cell? ⟨w.heap.size, 4, none⟩ = some (.bool true) ∧ wz.cell? ⟨w.heap.size + 1, 0, none⟩ = some (.float .f64 0) ∧ wz.cell? ⟨w.heap.size + 1, 1, none⟩ = some (.float .f64 0) ∧ wz.cell? ⟨w.heap.size + 1 + 1, 0, none⟩ = some (.float .f64 0) ∧ wz.cell? ⟨w.heap.size + 1 + 1, 1, none⟩ = some (.float .f64 0) ∧ wz.frozen? ⟨w.heap.size + 1, 0, none⟩ = false ∧ wz.frozen? ⟨w.heap.size + 1, 1, none⟩ = false ∧ wz.frozen? ⟨w.heap.size + 1 + 1, 0, none⟩ = false ∧ wz.frozen? ⟨w.heap.size + 1 + 1, 1, none⟩ = false ∧ w.heap.size + 3 ≤ wz.heap.size ∧ Below w.heap.size w wz) ⟨by go_cell, by go_cell, by go_cell, by go_cell, by go_cell, by go_cell, by go_cell, by go_cell, by go_cell, by go_cell, by go_cell, by go_cell, by go_cell, by simp, by go_grown⟩ ?_
  rintro wz ⟨c00, c01, c02, c03, c04, c10, c11, c20, c21, z10, z11, z20, z21, hsz, hb⟩
  have HB := hid hb
  clear hb
  go_wp2_with (first | (go_at_call 109; (with_reducible refine (I.out _).mono ?_); rintro e w' ⟨rfl, hbl⟩; obtain ⟨nx, rfl⟩ := later1 (lat (wz := wz) (by repeat (first | (with_reducible exact below_later _ _) | (with_reducible exact Below.refl _ _) | (with_reducible assumption) | (with_reducible refine Below.drew ?_) | (with_reducible refine Below.alloc ?_ (by (first | (with_reducible exact Nat.le_refl _) | (with_reducible exact (below_later _ _).size) | omega | (simp; done) | (simp; omega))) _))) hbl); clear hbl))
  have s0 : w.heap.size < w.heap.size + 1 := by omega
  obtain ⟨ny, hny⟩ : ∃ ny, ny = nx := ⟨_, rfl⟩
  refine wp_region_ord (S := (fun w' => ∃ e, w' = laterB (w.heap.size + 1) wz e)) [(0, false), (1, false), (2, false), (3, false), (4, true), (5, true), (6, false)] (by kernel_rfl) (by kernel_rfl) (fun _ _ d _ _ h => by cases d <;> exact h) ⟨_, (laterB_of (by repeat (first | (with_reducible assumption) | (with_reducible exact (below_later _ _).mono (by omega)) | (with_reducible exact Below.refl _ _) | (with_reducible refine Below.drew ?_) | (with_reducible refine Below.setCell ?_ (by first | omega | (simp; done) | (simp; omega)) _) | (with_reducible refine Below.alloc ?_ (by first | omega | (simp; omega) | (have := (below_later wz nx).size; simp; omega)) _)))).symm⟩ ?_
  simp only [pickO, List.filterMap_cons, List.filterMap_nil, List.getElem?_cons_succ, List.getElem?_cons_zero, Option.map_some]
  repeat (first
    | ((with_reducible refine wpOrd_light (fun K hK => ?_)); go_simp; (first | (with_reducible refine hK _ ?_) | (rw [if_neg (by intro h; cases h)]; with_reducible refine hK _ ?_)); clear hK K)
    | ((with_reducible refine wpOrd_heavy (fun K L hK hL => ?_)); go_simp; (first | (with_reducible refine hL _ ?_) | (rw [if_neg (by intro h; cases h)]; with_reducible refine hL _ ?_)); clear hK hL K L)
    | ((with_reducible refine wpOrd_heavy (fun K L hK hL => ?_)); go_simp; (with_reducible refine hK _ _ ?_ ?_); (focus (exact ⟨_, (laterB_of (by repeat (first | (with_reducible assumption) | (with_reducible exact (below_later _ _).mono (by omega)) | (with_reducible exact Below.refl _ _) | (with_reducible refine Below.drew ?_) | (with_reducible refine Below.setCell ?_ (by first | omega | (simp; done) | (simp; omega)) _) | (with_reducible refine Below.alloc ?_ (by first | omega | (simp; omega) | (have := (below_later wz nx).size; simp; omega)) _)))).symm⟩)); clear hK hL K L))
  refine wpOrd_nil ?_
  go_wp2_with fail
  refine bodyPost_ret (v := .tuple #[.agg #[.float .f64 lx, .float .f64 ly], .agg #[.float .f64 hx, .float .f64 hy], .bool true]) (by simp [results, Try.results114, go_sem, *]) rfl ?_
  exact ⟨rfl, by
    have hB := HB.out.trans ((below_later wz nx).mono HB.out.size)
    repeat' (first | (with_reducible exact hB) | (with_reducible refine Below.setCell ?_ ?_ _) | (with_reducible refine Below.alloc ?_ ?_ _) | (with_reducible refine Below.drew ?_) | (with_reducible exact hB.size) | omega | (simp; done) | (simp; omega))⟩
theorem minMaxF (w : World) : Calls Try.prog 114 #[.agg #[.float .f64 0, .float .f64 0, .float .f64 0, .float .f64 0, .bool false]] w fun e w' => e = .returned (.tuple #[.agg #[.float .f64 0, .float .f64 0], .agg #[.float .f64 0, .float .f64 0], .bool false]) ∧ Below w.heap.size w w' := by
  have I := hid (envIsEmpty 0 0 0 0 false)
  go_enter Try.func114, Try.ntmps114
  go_wp2_with fail
  refine lettered (R := fun wz => Calls _ _ _ wz _) (fun wz => wz.cell? ⟨w.heap.size, 0, none⟩ = some (.float .f64 0) ∧ wz.cell? ⟨w.heap.size, 1, none⟩ = some (.float .f64 0) ∧ wz.cell? ⟨w.heap.size, 2, none⟩ = some (.float .f64 0) ∧ wz.cell? ⟨w.heap.size, 3, none⟩ = some (.float .f64 0) ∧ wz.cell? ⟨w.heap.size, 4, none⟩ = some (.bool false) ∧ wz.cell? ⟨w.heap.size + 1, 0, none⟩ = some (.float .f64 0) ∧ wz.cell? ⟨w.heap.size + 1, 1, none⟩ = some (.float .f64 0) ∧ wz.cell? ⟨w.heap.size + 1 + 1, 0, none⟩ = some (.float .f64 0) ∧ wz.cell? ⟨w.heap.size + 1 + 1, 1, none⟩ = some (.float .f64 0) ∧ wz.frozen? ⟨w.heap.size + 1, 0, none⟩ = false ∧ wz.frozen? ⟨w.heap.size + 1, 1, none⟩ = false ∧ wz.frozen? ⟨w.heap.size + 1 + 1, 0, none⟩ = false ∧ wz.frozen? ⟨w.heap.size + 1 + 1, 1, none⟩ = false ∧ w.heap.size + 3 ≤ wz.heap.size ∧ Below w.heap.size w wz) ⟨by go_cell, by go_cell, by go_cell, by go_cell, by go_cell, by go_cell, by go_cell, by go_cell, by go_cell, by go_cell, by go_cell, by go_cell, by go_cell, by simp, by go_grown⟩ ?_
  rintro wz ⟨c00, c01, c02, c03, c04, c10, c11, c20, c21, z10, z11, z20, z21, hsz, hb⟩
  have HB := hid hb
  clear hb
  go_wp2_with (first | (go_at_call 109; (with_reducible refine (I.out _).mono ?_); rintro e w' ⟨rfl, hbl⟩; obtain ⟨nx, rfl⟩ := later1 (lat (wz := wz) (by repeat (first | (with_reducible exact below_later _ _) | (with_reducible exact Below.refl _ _) | (with_reducible assumption) | (with_reducible refine Below.drew ?_) | (with_reducible refine Below.alloc ?_ (by (first | (with_reducible exact Nat.le_refl _) | (with_reducible exact (below_later _ _).size) | omega | (simp; done) | (simp; omega))) _))) hbl); clear hbl))
  refine bodyPost_ret (v := .tuple #[.agg #[.float .f64 0, .float .f64 0], .agg #[.float .f64 0, .float .f64 0], .bool false]) (by simp [results, Try.results114, go_sem, *]) rfl ?_
  exact ⟨rfl, by
    have hB := HB.out.trans ((below_later wz nx).mono HB.out.size)
    repeat' (first | (with_reducible exact hB) | (with_reducible refine Below.setCell ?_ ?_ _) | (with_reducible refine Below.alloc ?_ ?_ _) | (with_reducible refine Below.drew ?_) | (with_reducible exact hB.size) | omega | (simp; done) | (simp; omega))⟩
set_option maxHeartbeats 2000000 in
theorem plainEnv1 (lx ly hx hy : Nat) (f : Bool) (w : World) (hM : ∀ w, Calls Try.prog 114 #[.agg #[.float .f64 lx, .float .f64 ly, .float .f64 hx, .float .f64 hy, .bool f]] w fun e w' => e = .returned (.tuple #[.agg #[.float .f64 lx, .float .f64 ly], .agg #[.float .f64 hx, .float .f64 hy], .bool f]) ∧ Below w.heap.size w w') :
    Calls Try.prog 88 #[.agg #[.float .f64 lx, .float .f64 ly, .float .f64 hx, .float .f64 hy, .bool f]] w fun e w' => e = .returned (.agg #[.bool f, .float .f64 lx, .float .f64 ly, .float .f64 hx, .float .f64 hy]) ∧ Below w.heap.size w w' := by
  replace hM := hid hM
  go_enter Try.func88, Try.ntmps88
  go_wp2_with fail
  refine lettered (R := fun wz => Calls _ _ _ wz _) (fun wz => wz.cell? ⟨w.heap.size, 0, none⟩ = some (.float .f64 lx) ∧ wz.cell? ⟨w.heap.size, 1, none⟩ = some (.float .f64 ly) ∧ wz.cell? ⟨w.heap.size, 2, none⟩ = some (.float .f64 hx) ∧ wz.cell? ⟨w.heap.size, 3, none⟩ = some (.float .f64 hy) ∧ wz.cell? ⟨w.heap.size, 4, none⟩ = some (.bool f) ∧ wz.cell? ⟨w.heap.size + 1, 0, none⟩ = some (.bool false) ∧ wz.cell? ⟨w.heap.size + 1, 1, none⟩ = some (.float .f64 0) ∧ wz.cell? ⟨w.heap.size + 1, 2, none⟩ = some (.float .f64 0) ∧ wz.cell? ⟨w.heap.size + 1, 3, none⟩ = some (.float .f64 0) ∧ wz.cell? ⟨w.heap.size + 1, 4, none⟩ = some (.float .f64 0) ∧ wz.frozen? ⟨w.heap.size + 1, 0, none⟩ = false ∧ wz.frozen? ⟨w.heap.size + 1, 1, none⟩ = false ∧ wz.frozen? ⟨w.heap.size + 1, 2, none⟩ = false ∧ wz.frozen? ⟨w.heap.size + 1, 3, none⟩ = false ∧ wz.frozen? ⟨w.heap.size + 1, 4, none⟩ = false ∧ w.heap.size + 2 ≤ wz.heap.size ∧ Below w.heap.size w wz) ⟨by go_cell, by go_cell, by go_cell, by go_cell, by go_cell, by go_cell, by go_cell, by go_cell, by go_cell, by go_cell, by go_cell, by go_cell, by go_cell, by go_cell, by go_cell, by simp, by go_grown⟩ ?_
  rintro wz ⟨c00, c01, c02, c03, c04, c10, c11, c12, c13, c14, z10, z11, z12, z13, z14, hsz, hb⟩
  have HB := hid hb
  clear hb
  go_wp2_with (go_at_call 114; (with_reducible refine (hM.out _).mono ?_); rintro e w' ⟨rfl, hbl⟩; have : w'.cell? ⟨w.heap.size + 1, 0, none⟩ = some (.bool false) := (hbl.cell (by simp; omega)).trans (by go_cell); have : w'.cell? ⟨w.heap.size + 1, 1, none⟩ = some (.float .f64 0) := (hbl.cell (by simp; omega)).trans (by go_cell); have : w'.cell? ⟨w.heap.size + 1, 2, none⟩ = some (.float .f64 0) := (hbl.cell (by simp; omega)).trans (by go_cell); have : w'.cell? ⟨w.heap.size + 1, 3, none⟩ = some (.float .f64 0) := (hbl.cell (by simp; omega)).trans (by go_cell); have : w'.cell? ⟨w.heap.size + 1, 4, none⟩ = some (.float .f64 0) := (hbl.cell (by simp; omega)).trans (by go_cell); have : w'.frozen? ⟨w.heap.size + 1, 0, none⟩ = false := (hbl.frozen (by simp; omega)).trans (by go_cell); have : w'.frozen? ⟨w.heap.size + 1, 1, none⟩ = false := (hbl.frozen (by simp; omega)).trans (by go_cell); have : w'.frozen? ⟨w.heap.size + 1, 2, none⟩ = false := (hbl.frozen (by simp; omega)).trans (by go_cell); have : w'.frozen? ⟨w.heap.size + 1, 3, none⟩ = false := (hbl.frozen (by simp; omega)).trans (by go_cell); have : w'.frozen? ⟨w.heap.size + 1, 4, none⟩ = false := (hbl.frozen (by simp; omega)).trans (by go_cell); have hs1 : w.heap.size + 1 < w'.heap.size := (by have := hbl.size; omega); have nn : ¬ w.heap.size + 1 = w'.heap.size := (by omega); have nn2 : ¬ w.heap.size + 1 = w'.heap.size + 1 := (by omega); have hs2 : w.heap.size + 1 < w'.heap.size + 1 := (by omega); have HB2 := hid (HB.out.trans (hbl.mono HB.out.size)); clear hbl c00 c01 c02 c03 c04 c10 c11 c12 c13 c14 z10 z11 z12 z13 z14 hsz HB)
  refine bodyPost_ret (ret1 (b := w.heap.size + 1) (cs := [.bool f, .float .f64 lx, .float .f64 ly, .float .f64 hx, .float .f64 hy]) Try.results88 rfl Try.underlying68 rfl (by kernel_rfl) ⟨by go_cell, by go_cell, by go_cell, by go_cell, by go_cell, trivial⟩) rfl ?_
  exact ⟨rfl, by
    have hB := HB2.out
    have hB3 := hB.size
    repeat' (first | (with_reducible exact hB) | (with_reducible refine Below.setCell ?_ ?_ _) | (with_reducible refine Below.alloc ?_ ?_ _) | (with_reducible refine Below.drew ?_) | (with_reducible exact hB.size) | omega | (simp; done) | (simp; omega))⟩
theorem plainEnv (e : EV) (he : e.full = false → e = EV.none) (w : World) : Calls Try.prog 88 #[e.v] w fun r w' => r = .returned e.p ∧ Below w.heap.size w w' := by
  obtain ⟨lx, ly, hx, hy, f⟩ := e
  cases f with
  | true => exact plainEnv1 lx ly hx hy true w (minMaxT lx ly hx hy)
  | false =>
    have h := he rfl
    simp only [EV.none, EV.mk.injEq, and_true] at h
    obtain ⟨rfl, rfl, rfl, rfl⟩ := h
    exact plainEnv1 0 0 0 0 false w minMaxF
abbrev eqV (a b : Nat) : Bool := FloatKind.f64.format.order a b == some .eq
theorem eEqualT (a b c d a' b' c' d' : Nat) (h1 : eqV a a' = true) (h2 : eqV b b' = true) (h3 : eqV c c' = true) (h4 : eqV d d' = true) (w : World) :
    Calls Try.prog 49 #[.agg #[.bool true, .float .f64 a, .float .f64 b, .float .f64 c, .float .f64 d], .agg #[.bool true, .float .f64 a', .float .f64 b', .float .f64 c', .float .f64 d']] w fun e w' => e = .returned (.bool true) ∧ Below w.heap.size w w' := by
  unfold eqV at h1 h2 h3 h4
  go_enter Try.func49, Try.ntmps49
  go_wp2_with fail
  go_ret
  exact ⟨rfl, by go_grown⟩
theorem eEqualF (w : World) :
    Calls Try.prog 49 #[EV.none.p, EV.none.p] w fun e w' => e = .returned (.bool true) ∧ Below w.heap.size w w' := by
  simp only [EV.p, EV.none]
  go_enter Try.func49, Try.ntmps49
  go_wp2_with fail
  go_ret
  exact ⟨rfl, by go_grown⟩
end Go.Proofs.Ytbcjlgkdmkehlaa
