/- The package's line string out of a geometry; its length, whether it is empty, its places' X and Y. -/
import Derived.Test.YtbcjlgkdmkehlaaRows
import Derived.Test.YtbcjlgkdmkehlaaSeq
namespace Go.Proofs.Ytbcjlgkdmkehlaa
open Go.ChangeShapes Go.WideShapes Go.ChangeAt Go.RowKit
set_option maxRecDepth 100000
set_option linter.unusedSimpArgs false
theorem RowOf.under {w w' : World} {g B : Nat} {xs : List Value} (h : RowOf w g xs) (hb : Below B w w') (hg : g < B) : RowOf w' g xs := fun j u hu => (hb.cell (p := ⟨g, j, none⟩) hg).trans (h j u hu)
/-- a sequence's value (a line string's too) -/
def sv (d : Int) (ad : Option Addr) (n cp : Nat) : Value := .agg #[.int .u8 d, .slice ad n cp]
theorem newLineString (d : Int) (ad : Option Addr) (n cp : Nat) (w : World) : Calls Try.prog 102 #[sv d ad n cp] w fun e w' => e = .returned (sv d ad n cp) ∧ Below w.heap.size w w' := by
  unfold sv
  go_enter Try.func102, Try.ntmps102
  go_wp2_with fail
  refine bodyPost_ret (ret1 (b := w.heap.size + 1) (cs := [.int .u8 d, .slice ad n cp]) Try.results102 rfl Try.underlying96 rfl (by kernel_rfl) ⟨by go_cell, by go_cell, trivial⟩) rfl ?_
  exact ⟨rfl, by go_grown⟩
theorem line (d : Int) (nad : Option Addr) (nl ncp : Nat) (kad : Option Addr) (kl kcp : Nat) (m : Nat) (news : List Value) (w : World)
    (hS : ∀ w', Below w.heap.size w w' → Calls Try.prog 103 #[.slice nad nl ncp, .int .i64 d] w' fun e w'' => ∃ g, e = .returned (.agg #[.int .u8 (d % 4), .slice (some ⟨g, 0, none⟩) m m]) ∧ RowOf w'' g news ∧ w'.heap.size ≤ g ∧ g < w''.heap.size ∧ Below w'.heap.size w' w'') :
    Calls Try.prog 67 #[gv 2 d nad nl ncp kad kl kcp] w fun e w' => ∃ g, e = .returned (sv (d % 4) (some ⟨g, 0, none⟩) m m) ∧ RowOf w' g news ∧ w.heap.size ≤ g ∧ g < w'.heap.size ∧ Below w.heap.size w w' := by
  have L := newLineString (d % 4)
  unfold gv sv at *
  replace L := hid L
  replace hS := hid hS
  generalize d % 4 = dm at *
  go_enter Try.func67, Try.ntmps67
  go_wp2_with fail
  refine lettered (R := fun wz => Calls _ _ _ wz _) (fun wz => wz.cell? ⟨w.heap.size, 0, none⟩ = some (.int .i64 2) ∧ wz.cell? ⟨w.heap.size, 1, none⟩ = some (.int .i64 d) ∧ wz.cell? ⟨w.heap.size, 2, none⟩ = some (.slice nad nl ncp) ∧ wz.cell? ⟨w.heap.size, 3, none⟩ = some (.slice kad kl kcp) ∧ wz.cell? ⟨w.heap.size + 1, 0, none⟩ = some ((.int .u8 0)) ∧ wz.cell? ⟨w.heap.size + 1, 1, none⟩ = some (.slice none 0 0) ∧ wz.frozen? ⟨w.heap.size + 1, 0, none⟩ = false ∧ wz.frozen? ⟨w.heap.size + 1, 1, none⟩ = false ∧ w.heap.size + 2 ≤ wz.heap.size ∧ Below w.heap.size w wz) ⟨by go_cell, by go_cell, by go_cell, by go_cell, by go_cell, by go_cell, by go_cell, by go_cell, by simp, by go_grown⟩ ?_
  rintro wz ⟨c00, c01, c02, c03, c10, c11, z10, z11, hsz, hb⟩
  have HB := hid hb
  clear hb
  have S := hid (hS.out wz HB.out)
  go_wp2_with (first | (go_at_call 103; (with_reducible refine (S.out).mono ?_); rintro e w' ⟨g, rfl, hrow, hg1, hg2, hbl⟩; have hgg := Nat.le_trans hsz hg1; obtain ⟨nx, rfl⟩ := later1 (lat (wz := wz) (by repeat (first | (with_reducible exact below_later _ _) | (with_reducible exact Below.refl _ _) | (with_reducible assumption) | (with_reducible refine Below.drew ?_) | (with_reducible refine Below.alloc ?_ (by (first | (with_reducible exact Nat.le_refl _) | (with_reducible exact (below_later _ _).size) | omega | (simp; done) | (simp; omega))) _))) hbl); clear hbl) | (go_at_call 102; (with_reducible refine (L.out _ _ _ _).mono ?_); rintro e w' ⟨rfl, hbl⟩; have hrow2 := hrow.under hbl hg2; have hg3 := Nat.lt_of_lt_of_le hg2 hbl.size; clear hrow hg2; obtain ⟨nx, rfl⟩ := later1 (lat (wz := wz) (by repeat (first | (with_reducible exact below_later _ _) | (with_reducible exact Below.refl _ _) | (with_reducible assumption) | (with_reducible refine Below.drew ?_) | (with_reducible refine Below.alloc ?_ (by (first | (with_reducible exact Nat.le_refl _) | (with_reducible exact (below_later _ _).size) | omega | (simp; done) | (simp; omega))) _))) hbl); clear hbl; have HR := hid hrow2; clear hrow2))
  have hgb : ¬ w.heap.size + 1 = g := by omega
  have hgl : w.heap.size ≤ g := by omega
  refine bodyPost_ret (ret1 (b := w.heap.size + 1) (cs := [.int .u8 dm, .slice (some ⟨g, 0, none⟩) m m]) Try.results67 rfl Try.underlying96 rfl (by kernel_rfl) ⟨by go_cell, by go_cell, trivial⟩) rfl ?_
  have hZ := HB.out.trans ((below_later wz nx).mono HB.out.size)
  refine ⟨g, rfl, ?_, hgl, by simp; omega, by
    repeat' (first | (with_reducible exact hZ) | (with_reducible refine Below.setCell ?_ ?_ _) | omega | (simp; done) | (simp; omega))⟩
  repeat' (first | (with_reducible exact HR.out) | (with_reducible refine RowOf.setCell ?_ ?_) | assumption)
theorem length (d : Int) (h : isDim d) (ad : Option Addr) (n cp q : Nat) (hq : n = q * widthN d) (hn : n < 2000) (w : World) : Calls Try.prog 106 #[sv d ad n cp] w fun e w' => e = .returned (.int .i64 (q : Int)) ∧ Below w.heap.size w w' := by
  have D := dimension d h
  have hw : widthI d = (widthN d : Int) := by rcases h with rfl | rfl | rfl | rfl <;> rfl
  rw [hw] at D
  have hwp := widthN_pos d
  generalize widthN d = wn at *
  obtain ⟨hw1, hw2⟩ := hwp
  have hqn : q ≤ n := by rw [hq]; exact Nat.le_mul_of_pos_right q (by omega)
  have HQ : Hid (wrap64 ((n : Int) / (wn : Int)) = (q : Int)) := by
    refine hid ?_
    rw [hq, Int.natCast_mul, Int.mul_ediv_cancel _ (by omega)]
    exact wrap64_small _ (by omega) (by omega)
  have hw0 : ¬ (wn : Int) = 0 := by omega
  have hwu : ¬ wn = 0 := by omega
  unfold sv
  replace D := hid D
  clear hw hq
  go_enter Try.func106, Try.ntmps106
  go_wp2_with fail
  refine lettered (R := fun wz => Code.wp _ _ _ _ wz) (fun wz => wz.cell? ⟨w.heap.size, 0, none⟩ = some (.int .u8 d) ∧ wz.cell? ⟨w.heap.size, 1, none⟩ = some (.slice ad n cp) ∧ w.heap.size + 1 ≤ wz.heap.size ∧ Below w.heap.size w wz) ⟨by go_cell, by go_cell, by simp, by go_grown⟩ ?_
  rintro wz ⟨c00, c01, hsz, hb⟩
  have HB := hid hb
  clear hb
  refine wp_region_calm (by kernel_rfl) (by kernel_rfl) ?_
  repeat (go_big_quiet_step ((go_at_call 104; (with_reducible exact calm_of (D.out _)))))
  refine wpQuiet_nil ?_
  rintro _ ⟨nq, rfl⟩
  simp only [HQ.out]
  go_wp2_with fail
  go_ret
  exact ⟨rfl, HB.out.trans ((below_later _ _).mono HB.out.size)⟩
theorem lineEmpty (d : Int) (h : isDim d) (ad : Option Addr) (n cp q : Nat) (hq : n = q * widthN d) (hn : n < 2000) (w : World) : Calls Try.prog 105 #[sv d ad n cp] w fun e w' => e = .returned (.bool (decide (q = 0))) ∧ Below w.heap.size w w' := by
  have L := length d h ad n cp q hq hn
  unfold sv at *
  replace L := hid L
  clear hq
  go_enter Try.func105, Try.ntmps105
  go_wp2_with fail
  refine lettered (R := fun wz => Calls _ _ _ wz _) (fun wz => wz.cell? ⟨w.heap.size, 0, none⟩ = some (.int .u8 d) ∧ wz.cell? ⟨w.heap.size, 1, none⟩ = some (.slice ad n cp) ∧ w.heap.size + 1 ≤ wz.heap.size ∧ Below w.heap.size w wz) ⟨by go_cell, by go_cell, by simp, by go_grown⟩ ?_
  rintro wz ⟨c00, c01, hsz, hb⟩
  have HB := hid hb
  clear hb
  go_wp2_with (first | (go_at_call 106; (with_reducible refine (L.out _).mono ?_); rintro e w' ⟨rfl, hbl⟩; obtain ⟨nx, rfl⟩ := later1 (lat (wz := wz) (by repeat (first | (with_reducible exact below_later _ _) | (with_reducible exact Below.refl _ _) | (with_reducible assumption) | (with_reducible refine Below.drew ?_) | (with_reducible refine Below.alloc ?_ (by (first | (with_reducible exact Nat.le_refl _) | (with_reducible exact (below_later _ _).size) | omega | (simp; done) | (simp; omega))) _))) hbl); clear hbl))
  go_ret
  exact ⟨ret_bool (show ((q : Int) == 0) = decide (q = 0) from by rw [Bool.eq_iff_iff]; simp), HB.out.trans ((below_later _ _).mono HB.out.size)⟩
set_option maxHeartbeats 1000000 in
theorem getXY (d : Int) (h : isDim d) (g n cp i : Nat) (news : List Value) (x y : Nat) (hx : news[i * widthN d]? = some (.float .f64 x)) (hy : news[i * widthN d + 1]? = some (.float .f64 y)) (hl : news.length = n) (hn : n < 2000) (w : World) (hR : RowOf w g news) :
    Calls Try.prog 69 #[sv d (some ⟨g, 0, none⟩) n cp, .int .i64 (i : Int)] w fun e w' => e = .returned (.agg #[.float .f64 x, .float .f64 y]) ∧ Below w.heap.size w w' := by
  have D := dimension d h
  have hw : widthI d = (widthN d : Int) := by rcases h with rfl | rfl | rfl | rfl <;> rfl
  rw [hw] at D
  have hwp := widthN_pos d
  generalize widthN d = wn at *
  obtain ⟨hw1, hw2⟩ := hwp
  obtain ⟨k, hk⟩ : ∃ k, k = i * wn := ⟨_, rfl⟩
  rw [← hk] at hx hy
  have hkn : k + 1 < n := by
    have := (List.getElem?_eq_some_iff.1 hy).1
    omega
  have d0 := hR _ _ hx
  have d1 := hR _ _ hy
  have hg := World.block_lt_of_cell? w _ d0
  simp only at hg
  have HM : Hid (IntKind.i64.wrap ((i : Int) * (wn : Int)) = (k : Int)) := by
    refine hid ?_
    rw [show (i : Int) * (wn : Int) = (k : Int) from by rw [hk, Int.natCast_mul]]
    exact IntWalk.i64_in _ (by omega)
  unfold sv
  replace D := hid D
  clear hw hk hx hy hR
  go_enter Try.func69, Try.ntmps69
  go_wp2_with fail
  refine lettered (R := fun wz => Calls _ _ _ wz _) (fun wz => wz.cell? ⟨w.heap.size, 0, none⟩ = some (.int .u8 d) ∧ wz.cell? ⟨w.heap.size, 1, none⟩ = some (.slice (some ⟨g, 0, none⟩) n cp) ∧ wz.cell? ⟨w.heap.size + 1, 0, none⟩ = some (.float .f64 0) ∧ wz.cell? ⟨w.heap.size + 1, 1, none⟩ = some (.float .f64 0) ∧ wz.frozen? ⟨w.heap.size + 1, 0, none⟩ = false ∧ wz.frozen? ⟨w.heap.size + 1, 1, none⟩ = false ∧ wz.cell? ⟨g, k, none⟩ = some (.float .f64 x) ∧ wz.cell? ⟨g, k + 1, none⟩ = some (.float .f64 y) ∧ w.heap.size + 2 ≤ wz.heap.size ∧ Below w.heap.size w wz) ⟨by go_cell, by go_cell, by go_cell, by go_cell, by go_cell, by go_cell, by go_cell, by go_cell, by simp, by go_grown⟩ ?_
  rintro wz ⟨c00, c01, c10, c11, z10, z11, e0, e1, hsz, hb⟩
  have HB := hid hb
  clear hb
  go_wp2_with (first | (go_at_call 104; (with_reducible refine (D.out _).mono ?_); rintro e w' ⟨rfl, hbl⟩; obtain ⟨nx, rfl⟩ := later1 (lat (wz := wz) (by repeat (first | (with_reducible exact below_later _ _) | (with_reducible exact Below.refl _ _) | (with_reducible assumption) | (with_reducible refine Below.drew ?_) | (with_reducible refine Below.alloc ?_ (by (first | (with_reducible exact Nat.le_refl _) | (with_reducible exact (below_later _ _).size) | omega | (simp; done) | (simp; omega))) _))) hbl); clear hbl))
  obtain ⟨ny, hny⟩ : ∃ ny, ny = nx := ⟨_, rfl⟩
  have j0 : (0 : Int) ≤ (k : Int) := by omega
  have j1 : (k : Int) < (n : Int) := by omega
  have j2 : (0 : Int) ≤ (k : Int) + 1 := by omega
  have j3 : (k : Int) + 1 < (n : Int) := by omega
  have hgB : g < w.heap.size + 1 := by omega
  have j4 : IntKind.i64.wrap ((k : Int) + 1) = (k : Int) + 1 := IntWalk.i64_in _ (by omega)
  have hmm := HM.out
  refine wp_region_ord (S := (fun w' => ∃ e, w' = laterB (w.heap.size + 1) wz e)) [(0, false), (1, false), (2, false), (3, false), (4, false), (5, false), (6, false), (7, false), (8, false), (9, false), (10, false), (11, false), (12, false), (13, false), (14, false), (15, false), (16, true)] (by kernel_rfl) (by kernel_rfl) (fun _ _ d _ _ h => by cases d <;> exact h) ⟨_, (laterB_of (by repeat (first | (with_reducible exact (below_later _ _).mono (by omega)) | (with_reducible exact Below.refl _ _) | (with_reducible refine Below.drew ?_) | (with_reducible refine Below.setCell ?_ (by first | omega | (simp; done) | (simp; omega)) _) | (with_reducible refine Below.alloc ?_ (by first | omega | (simp; omega) | (have := (below_later wz nx).size; simp; omega)) _)))).symm⟩ ?_
  simp only [pickO, List.filterMap_cons, List.filterMap_nil, List.getElem?_cons_succ, List.getElem?_cons_zero, Option.map_some]
  repeat (first
    | ((with_reducible refine wpOrd_light (fun K hK => ?_)); go_simp; (first | (with_reducible refine hK _ ?_) | (rw [if_neg (by intro h; cases h)]; with_reducible refine hK _ ?_)); clear hK K)
    | ((with_reducible refine wpOrd_heavy (fun K L hK hL => ?_)); go_simp; (first | (with_reducible refine hL _ ?_) | (rw [if_neg (by intro h; cases h)]; with_reducible refine hL _ ?_)); clear hK hL K L)
    | ((with_reducible refine wpOrd_heavy (fun K L hK hL => ?_)); go_simp; (with_reducible refine hK _ _ ?_ ?_); (focus (exact ⟨_, (laterB_of (by repeat (first | (with_reducible exact (below_later _ _).mono (by omega)) | (with_reducible exact Below.refl _ _) | (with_reducible refine Below.drew ?_) | (with_reducible refine Below.setCell ?_ (by first | omega | (simp; done) | (simp; omega)) _) | (with_reducible refine Below.alloc ?_ (by first | omega | (simp; omega) | (have := (below_later wz nx).size; simp; omega)) _)))).symm⟩)); clear hK hL K L))
  refine wpOrd_nil ?_
  go_wp2_with fail
  refine bodyPost_ret (ret1 (b := w.heap.size + 1) (cs := [.float .f64 x, .float .f64 y]) Try.results69 rfl Try.underlying85 rfl (by kernel_rfl) ⟨by go_cell, by go_cell, trivial⟩) rfl ?_
  exact ⟨rfl, by
    have hB := HB.out.trans ((below_later wz nx).mono HB.out.size)
    repeat' (first | (with_reducible exact hB) | (with_reducible refine Below.setCell ?_ ?_ _) | (with_reducible refine Below.alloc ?_ ?_ _) | (with_reducible refine Below.drew ?_) | omega | (simp; done) | (simp; omega))⟩
end Go.Proofs.Ytbcjlgkdmkehlaa
