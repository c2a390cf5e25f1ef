/- The implementation's envelope of a sequence. Condition: a line string of at most 2000 numbers. -/
import Derived.Test.YtbcjlgkdmkehlaaRows
import Derived.Test.YtbcjlgkdmkehlaaSev
namespace Go.Proofs.Ytbcjlgkdmkehlaa
open Go.ChangeShapes Go.WideShapes Go.ChangeAt Go.RowKit Fl
set_option maxRecDepth 100000
set_option linter.unusedSimpArgs false
/-- X and Y of the whole places of a list of numbers -/
def sX (d : Int) (xs : List Nat) (i : Nat) : Nat := xs.getD (i * widthN d) 0
def sY (d : Int) (xs : List Nat) (i : Nat) : Nat := xs.getD (i * widthN d + 1) 0
theorem envOf (d : Int) (xs : List Nat) (hxl : xs.length < 2000) (g : Nat) (w : World) (hR : RowOf w g ((xs.take (xs.length / widthN d * widthN d)).map (Value.float .f64))) (hg : g < w.heap.size) :
    Calls Try.prog 89 #[sv (d % 4) (some ⟨g, 0, none⟩) (xs.length / widthN d * widthN d) (xs.length / widthN d * widthN d)] w fun e w' => e = .returned (EV.fold (sX d xs) (sY d xs) (xs.length / widthN d)).v ∧ Below w.heap.size w w' := by
  have hml := Nat.div_mul_le_self xs.length (widthN d)
  have hwp := widthN_pos d
  obtain ⟨q, hq⟩ : ∃ q, q = xs.length / widthN d := ⟨_, rfl⟩
  rw [← hq] at hR hml ⊢
  have hln : ∀ w, Calls Try.prog 106 #[sv (d % 4) (some ⟨g, 0, none⟩) (q * widthN d) (q * widthN d)] w fun e w' => e = .returned (.int .i64 (q : Int)) ∧ Below w.heap.size w w' := fun w => length (d % 4) (isDim4 d) _ _ _ q (by rw [width4]) (by omega) w
  have tk : ∀ j, j < q * widthN d → ((xs.take (q * widthN d)).map (Value.float .f64))[j]? = some (.float .f64 (xs.getD j 0)) := fun j hj => by
    rw [List.getElem?_map, List.getElem?_take, if_pos hj, List.getD_eq_getElem?_getD, List.getElem?_eq_getElem (by omega)]
    rfl
  have hin : ∀ k, k < q → k * widthN d + 1 < q * widthN d := fun k hk => by
    have h1 : (k + 1) * widthN d ≤ q * widthN d := Nat.mul_le_mul_right _ hk
    rw [Nat.succ_mul] at h1
    omega
  by_cases hq0 : 0 < q
  · refine seqEnvC (d % 4) (isDim4 d) g _ _ q (by rw [width4]) (by omega) hq0 (sX d xs) (sY d xs) w (fun k hk => ?_) hln (fun w' hb => ?_)
    · rw [width4]
      have := hin k hk
      exact ⟨hR _ _ (tk _ (by omega)), hR _ _ (tk _ this)⟩
    · have h0 := hin 0 hq0
      have := getXY (d % 4) (isDim4 d) g (q * widthN d) (q * widthN d) 0 ((xs.take (q * widthN d)).map (Value.float .f64)) (sX d xs 0) (sY d xs 0) (by rw [width4]; exact tk _ (by omega)) (by rw [width4]; exact tk _ h0) (by rw [List.length_map, List.length_take]; exact Nat.min_eq_left hml) (by omega) w' (hR.under hb hg)
      exact this
  · obtain rfl : q = 0 := by omega
    exact seqEnv0 (d % 4) g _ _ w hln
theorem fold_full (X Y : Nat → Nat) : ∀ q, (EV.fold X Y q).full = false → EV.fold X Y q = EV.none
  | 0, _ => rfl
  | q + 1, h => by
    obtain ⟨a, b, c, d, e⟩ := expandV (EV.fold X Y q) (X q) (Y q)
    have : (EV.fold X Y (q + 1)).full = true := by show ((EV.fold X Y q).step (X q) (Y q)).full = true; rw [e]
    rw [this] at h
    cases h
theorem seqEnvelope (d : Int) (nad : Option Addr) (ncp : Nat) (xs : List Nat) (kad : Option Addr) (kl kcp : Nat) (hxl : xs.length < 2000) (w : World) (hF : FRow w nad xs) :
    Calls Try.prog 50 #[gv 2 d nad xs.length ncp kad kl kcp] w fun e w' => e = .returned (EV.fold (sX d xs) (sY d xs) (xs.length / widthN d)).p ∧ Below w.heap.size w w' := by
  have LO := fun w' (hb : Below w.heap.size w w') => lineOf d nad ncp xs kad kl kcp hxl w' (hF.below hb)
  have CO := coords (d % 4)
  have EO := envOf d xs hxl
  have PE := plainEnv (EV.fold (sX d xs) (sY d xs) (xs.length / widthN d)) (fold_full _ _ _)
  generalize EV.fold (sX d xs) (sY d xs) (xs.length / widthN d) = ev at *
  generalize (xs.take (xs.length / widthN d * widthN d)).map (Value.float .f64) = news at *
  generalize xs.length / widthN d * widthN d = m at *
  unfold gv sv at *
  obtain ⟨lx, ly, hx, hy, f⟩ := ev
  simp only [EV.v, EV.p] at *
  generalize xs.length = nl at *
  generalize d % 4 = dm at *
  replace LO := hid LO
  replace CO := hid CO
  replace EO := hid EO
  replace PE := hid PE
  clear hF
  go_enter Try.func50, Try.ntmps50
  go_wp2_with fail
  refine lettered (R := fun wz => Calls _ _ _ wz _) (fun wz => wz.cell? ⟨w.heap.size, 0, none⟩ = some (.int .i64 2) ∧ wz.cell? ⟨w.heap.size, 1, none⟩ = some (.int .i64 d) ∧ wz.cell? ⟨w.heap.size, 2, none⟩ = some (.slice nad nl ncp) ∧ wz.cell? ⟨w.heap.size, 3, none⟩ = some (.slice kad kl kcp) ∧ wz.cell? ⟨w.heap.size + 1, 0, none⟩ = some (.bool false) ∧ wz.cell? ⟨w.heap.size + 1, 1, none⟩ = some (.float .f64 0) ∧ wz.cell? ⟨w.heap.size + 1, 2, none⟩ = some (.float .f64 0) ∧ wz.cell? ⟨w.heap.size + 1, 3, none⟩ = some (.float .f64 0) ∧ wz.cell? ⟨w.heap.size + 1, 4, none⟩ = some (.float .f64 0) ∧ wz.frozen? ⟨w.heap.size + 1, 0, none⟩ = false ∧ wz.frozen? ⟨w.heap.size + 1, 1, none⟩ = false ∧ wz.frozen? ⟨w.heap.size + 1, 2, none⟩ = false ∧ wz.frozen? ⟨w.heap.size + 1, 3, none⟩ = false ∧ wz.frozen? ⟨w.heap.size + 1, 4, none⟩ = false ∧ w.heap.size + 2 ≤ wz.heap.size ∧ Below w.heap.size w wz) ⟨by go_cell, by go_cell, by go_cell, by go_cell, by go_cell, by go_cell, by go_cell, by go_cell, by go_cell, by go_cell, by go_cell, by go_cell, by go_cell, by go_cell, by simp, by go_grown⟩ ?_
  rintro wz ⟨c00, c01, c02, c03, c10, c11, c12, c13, c14, z10, z11, z12, z13, z14, hsz, hb⟩
  have HB := hid hb
  clear hb
  go_wp2_with (first | (go_at_call 67; (with_reducible refine (LO.out _ HB.out).mono ?_); rintro e w' ⟨g, rfl, hrow, -, hg, hbl⟩; obtain ⟨nx, rfl⟩ := later1 (lat (wz := wz) (by repeat (first | (with_reducible exact below_later _ _) | (with_reducible exact Below.refl _ _) | (with_reducible assumption) | (with_reducible refine Below.drew ?_) | (with_reducible refine Below.alloc ?_ (by (first | (with_reducible exact Nat.le_refl _) | (with_reducible exact (below_later _ _).size) | omega | (simp; done) | (simp; omega))) _))) hbl); clear hbl) | (go_at_call 68; (with_reducible refine (CO.out _ _ _ _).mono ?_); rintro e w' ⟨rfl, hbl⟩; have hrow2 := hid (hrow.under hbl hg); have hg2 := Nat.lt_of_lt_of_le hg hbl.size; obtain ⟨nx, rfl⟩ := later1 (lat (wz := wz) (by repeat (first | (with_reducible exact below_later _ _) | (with_reducible exact Below.refl _ _) | (with_reducible assumption) | (with_reducible refine Below.drew ?_) | (with_reducible refine Below.alloc ?_ (by (first | (with_reducible exact Nat.le_refl _) | (with_reducible exact (below_later _ _).size) | omega | (simp; done) | (simp; omega))) _))) hbl); clear hbl) | (go_at_call 89; (with_reducible refine (EO.out _ _ hrow2.out hg2).mono ?_); rintro e w' ⟨rfl, hbl⟩; obtain ⟨nx, rfl⟩ := later1 (lat (wz := wz) (by repeat (first | (with_reducible exact below_later _ _) | (with_reducible exact Below.refl _ _) | (with_reducible assumption) | (with_reducible refine Below.drew ?_) | (with_reducible refine Below.alloc ?_ (by (first | (with_reducible exact Nat.le_refl _) | (with_reducible exact (below_later _ _).size) | omega | (simp; done) | (simp; omega))) _))) hbl); clear hbl) | (go_at_call 88; (with_reducible refine (PE.out _).mono ?_); rintro e w' ⟨rfl, hbl⟩; obtain ⟨nx, rfl⟩ := later1 (lat (wz := wz) (by repeat (first | (with_reducible exact below_later _ _) | (with_reducible exact Below.refl _ _) | (with_reducible assumption) | (with_reducible refine Below.drew ?_) | (with_reducible refine Below.alloc ?_ (by (first | (with_reducible exact Nat.le_refl _) | (with_reducible exact (below_later _ _).size) | omega | (simp; done) | (simp; omega))) _))) hbl); clear hbl))
  refine bodyPost_ret (ret1 (b := w.heap.size + 1) (cs := [.bool f, .float .f64 lx, .float .f64 ly, .float .f64 hx, .float .f64 hy]) Try.results50 rfl Try.underlying68 rfl (by kernel_rfl) ⟨by go_cell, by go_cell, by go_cell, by go_cell, by go_cell, trivial⟩) rfl ?_
  exact ⟨rfl, by
    have hB := HB.out.trans ((below_later wz nx).mono HB.out.size)
    repeat' (first | (with_reducible exact hB) | (with_reducible refine Below.setCell ?_ ?_ _) | (with_reducible refine Below.alloc ?_ ?_ _) | (with_reducible refine Below.drew ?_) | (with_reducible exact hB.size) | omega | (simp; done) | (simp; omega))⟩
end Go.Proofs.Ytbcjlgkdmkehlaa
