/- The implementation's reverse of a line string. Condition: at most 2000 numbers. -/
import Derived.Test.YtbcjlgkdmkehlaaRows
import Derived.Test.YtbcjlgkdmkehlaaRvs
import Derived.Test.YtbcjlgkdmkehlaaPls
namespace Go.Proofs.Ytbcjlgkdmkehlaa
open Go.ChangeShapes Go.WideShapes Go.ChangeAt Go.RowKit
set_option maxRecDepth 100000
set_option linter.unusedSimpArgs false
/-- the numbers of the first i places of the reverse order -/
def revN (wn q : Nat) (ys : List Nat) (i : Nat) : List Nat := (List.range i).flatMap (fun j => (ys.drop ((q - 1 - j) * wn)).take wn)
theorem revN_map (wn q : Nat) (ys : List Nat) (i : Nat) : revP wn q (ys.map (Value.float .f64)) i = (revN wn q ys i).map (Value.float .f64) := by
  unfold revP revN chunk
  rw [List.map_flatMap]
  simp [List.map_take, List.map_drop]
theorem revN_length (wn q : Nat) (ys : List Nat) (hl : ys.length = q * wn) : ∀ i, i ≤ q → (revN wn q ys i).length = i * wn
  | 0, _ => by simp [revN]
  | i + 1, h => by
    have ih := revN_length wn q ys hl i (by omega)
    have h1 : (q - 1 - i + 1) * wn ≤ q * wn := Nat.mul_le_mul_right _ (by omega)
    rw [Nat.succ_mul] at h1
    have e : revN wn q ys (i + 1) = revN wn q ys i ++ (ys.drop ((q - 1 - i) * wn)).take wn := by
      unfold revN
      rw [List.range_succ, List.flatMap_append, List.flatMap_singleton]
    rw [e, List.length_append, ih, List.length_take, List.length_drop, hl, Nat.succ_mul]
    omega
theorem plainSeq (dm : Int) (h : isDim dm) (g n q : Nat) (hq : n = q * widthN dm) (hn : n < 2000) (ys : List Nat) (hl : ys.length = n) (w : World) (hR : RowOf w g (ys.map (Value.float .f64))) (hg : g < w.heap.size) :
    Calls Try.prog 112 #[.agg #[.int .u8 dm, .slice (some ⟨g, 0, none⟩) n n]] w fun e w' => ∃ v B, e = .returned (.agg #[.int .i64 2, .int .i64 dm, v, .slice none 0 0]) ∧ w.heap.size ≤ B ∧ w'.ownsRow B 29 1 v n (ys.map (Value.float .f64)) ∧ Below w.heap.size w w' := by
  rcases h with rfl | rfl | rfl | rfl
  · exact plainSeq0 g n q hq hn ys hl w hR hg
  · exact plainSeq1 g n q hq hn ys hl w hR hg
  · exact plainSeq2 g n q hq hn ys hl w hR hg
  · exact plainSeq3 g n q hq hn ys hl w hR hg
theorem lineRev (dm : Int) (g n : Nat) (news : List Value) (w : World) (hS : ∀ w', Below w.heap.size w w' → Calls Try.prog 113 #[.agg #[.int .u8 dm, .slice (some ⟨g, 0, none⟩) n n]] w' fun e w'' => ∃ g', e = .returned (.agg #[.int .u8 dm, .slice (some ⟨g', 0, none⟩) n n]) ∧ RowOf w'' g' news ∧ w'.heap.size ≤ g' ∧ g' < w''.heap.size ∧ Below w'.heap.size w' w'') :
    Calls Try.prog 86 #[.agg #[.int .u8 dm, .slice (some ⟨g, 0, none⟩) n n]] w fun e w' => ∃ g', e = .returned (.agg #[.int .u8 dm, .slice (some ⟨g', 0, none⟩) n n]) ∧ RowOf w' g' news ∧ g' < w'.heap.size ∧ Below w.heap.size w w' := by
  replace hS := hid hS
  go_enter Try.func86, Try.ntmps86
  go_wp2_with fail
  refine lettered (R := fun wz => Calls _ _ _ wz _) (fun wz => wz.cell? ⟨w.heap.size, 0, none⟩ = some (.int .u8 dm) ∧ wz.cell? ⟨w.heap.size, 1, none⟩ = some (.slice (some ⟨g, 0, none⟩) n n) ∧ wz.cell? ⟨w.heap.size + 1, 0, none⟩ = some (.int .u8 0) ∧ wz.cell? ⟨w.heap.size + 1, 1, none⟩ = some (.slice none 0 0) ∧ wz.frozen? ⟨w.heap.size + 1, 0, none⟩ = false ∧ wz.frozen? ⟨w.heap.size + 1, 1, none⟩ = false ∧ w.heap.size + 2 ≤ wz.heap.size ∧ Below w.heap.size w wz) ⟨by go_cell, by go_cell, by go_cell, by go_cell, by go_cell, by go_cell, by simp, by go_grown⟩ ?_
  rintro wz ⟨c00, c01, c10, c11, z10, z11, hsz, hb⟩
  have HB := hid hb
  clear hb
  go_wp2_with (first | (go_at_call 113; (with_reducible refine (hS.out _ HB.out).mono ?_); rintro e w' ⟨g', rfl, hrow, hg1, hg2, hbl⟩; have hg0 := Nat.le_trans hsz hg1; obtain ⟨nx, rfl⟩ := later1 (lat (wz := wz) (by repeat (first | (with_reducible exact below_later _ _) | (with_reducible exact Below.refl _ _) | (with_reducible assumption) | (with_reducible refine Below.drew ?_) | (with_reducible refine Below.alloc ?_ (by (first | (with_reducible exact Nat.le_refl _) | (with_reducible exact (below_later _ _).size) | omega | (simp; done) | (simp; omega))) _))) hbl); clear hbl; have HR := hid hrow; clear hrow))
  have hgb : ¬ w.heap.size + 1 = g' := by omega
  refine bodyPost_ret (ret1 (b := w.heap.size + 1) (cs := [.int .u8 dm, .slice (some ⟨g', 0, none⟩) n n]) Try.results86 rfl Try.underlying96 rfl (by kernel_rfl) ⟨by go_cell, by go_cell, trivial⟩) rfl ?_
  have hB := HB.out.trans ((below_later wz nx).mono HB.out.size)
  refine ⟨g', rfl, ?_, by simp; omega, by
    repeat' (first | (with_reducible exact hB) | (with_reducible refine Below.setCell ?_ ?_ _) | (with_reducible refine Below.alloc ?_ ?_ _) | (with_reducible refine Below.drew ?_) | (with_reducible exact hB.size) | omega | (simp; done) | (simp; omega))⟩
  repeat' (first | (with_reducible exact HR.out) | (with_reducible refine RowOf.setCell ?_ ?_) | assumption)
theorem plainLineR (dm : Int) (h : isDim dm) (g n q : Nat) (hq : n = q * widthN dm) (hn : n < 2000) (ys : List Nat) (hl : ys.length = n) (w : World) (hR : RowOf w g (ys.map (Value.float .f64))) (hg : g < w.heap.size) :
    Calls Try.prog 85 #[.agg #[.int .u8 dm, .slice (some ⟨g, 0, none⟩) n n]] w fun e w' => ∃ v B, e = .returned (.agg #[.int .i64 2, .int .i64 dm, v, .slice none 0 0]) ∧ w.heap.size ≤ B ∧ w'.ownsRow B 29 1 v n (ys.map (Value.float .f64)) ∧ Below w.heap.size w w' := by
  have C := hid (coords dm (some ⟨g, 0, none⟩) n n)
  have P := hid (fun w' (hb : Below w.heap.size w w') => plainSeq dm h g n q hq hn ys hl w' (hR.under hb hg) (Nat.lt_of_lt_of_le hg hb.size))
  unfold sv at C
  clear hq hl hR
  generalize ys.map (Value.float .f64) = news at *
  go_enter Try.func85, Try.ntmps85
  go_wp2_with fail
  refine lettered (R := fun wz => Calls _ _ _ wz _) (fun wz => wz.cell? ⟨w.heap.size, 0, none⟩ = some (.int .u8 dm) ∧ wz.cell? ⟨w.heap.size, 1, none⟩ = some (.slice (some ⟨g, 0, none⟩) n n) ∧ wz.cell? ⟨w.heap.size + 1, 0, none⟩ = some (.int .i64 0) ∧ wz.cell? ⟨w.heap.size + 1, 1, none⟩ = some (.int .i64 0) ∧ wz.cell? ⟨w.heap.size + 1, 2, none⟩ = some (.slice none 0 0) ∧ wz.cell? ⟨w.heap.size + 1, 3, none⟩ = some (.slice none 0 0) ∧ wz.frozen? ⟨w.heap.size + 1, 0, none⟩ = false ∧ wz.frozen? ⟨w.heap.size + 1, 1, none⟩ = false ∧ wz.frozen? ⟨w.heap.size + 1, 2, none⟩ = false ∧ wz.frozen? ⟨w.heap.size + 1, 3, none⟩ = false ∧ w.heap.size + 2 ≤ wz.heap.size ∧ Below w.heap.size w wz) ⟨by go_cell, by go_cell, by go_cell, by go_cell, by go_cell, by go_cell, by go_cell, by go_cell, by go_cell, by go_cell, by simp, by go_grown⟩ ?_
  rintro wz ⟨c00, c01, c10, c11, c12, c13, z10, z11, z12, z13, hsz, hb⟩
  have HB := hid hb
  clear hb
  go_wp2_with (first | (go_at_call 68; (with_reducible refine (C.out _).mono ?_); rintro e w' ⟨rfl, hbl⟩; obtain ⟨nx, rfl⟩ := later1 (lat (wz := wz) (by repeat (first | (with_reducible exact below_later _ _) | (with_reducible exact Below.refl _ _) | (with_reducible assumption) | (with_reducible refine Below.drew ?_) | (with_reducible refine Below.alloc ?_ (by (first | (with_reducible exact Nat.le_refl _) | (with_reducible exact (below_later _ _).size) | omega | (simp; done) | (simp; omega))) _))) hbl); clear hbl) | (go_at_call 112; (with_reducible refine (P.out _ (HB.out.trans ((below_later wz nx).mono HB.out.size))).mono ?_); rintro e w' ⟨v, B, rfl, hB1, hown, hbl⟩; obtain ⟨va, vn, vc, rfl⟩ := own_slice hown; have hB2 := Nat.le_trans (below_later wz nx).size hB1; obtain ⟨nx, rfl⟩ := later1 (lat (wz := wz) (by repeat (first | (with_reducible exact below_later _ _) | (with_reducible exact Below.refl _ _) | (with_reducible assumption) | (with_reducible refine Below.drew ?_) | (with_reducible refine Below.alloc ?_ (by (first | (with_reducible exact Nat.le_refl _) | (with_reducible exact (below_later _ _).size) | omega | (simp; done) | (simp; omega))) _))) hbl); clear hbl; have HO := hid hown; clear hown))
  refine bodyPost_ret (ret1 (b := w.heap.size + 1) (cs := [.int .i64 2, .int .i64 dm, .slice va vn vc, .slice none 0 0]) Try.results85 rfl Try.underlying49 rfl (by kernel_rfl) ⟨by go_cell, by go_cell, by go_cell, by go_cell, trivial⟩) rfl ?_
  have hB := HB.out.trans ((below_later wz nx).mono HB.out.size)
  have hbB : w.heap.size + 1 < B := by omega
  refine ⟨_, B, rfl, by omega, by repeat' (first | (with_reducible exact HO.out) | (with_reducible refine ownsRow_setCell_below ?_ ?_ _) | exact hbB), by
    repeat' (first | (with_reducible exact hB) | (with_reducible refine Below.setCell ?_ ?_ _) | (with_reducible refine Below.alloc ?_ ?_ _) | (with_reducible refine Below.drew ?_) | (with_reducible exact hB.size) | omega | (simp; done) | (simp; omega))⟩
theorem lineReverse (d : Int) (nad : Option Addr) (ncp : Nat) (xs : List Nat) (kad : Option Addr) (kl kcp : Nat) (hxl : xs.length < 2000) (w : World) (hF : FRow w nad xs) :
    Calls Try.prog 47 #[gv 2 d nad xs.length ncp kad kl kcp] w fun e w' => ∃ v B, e = .returned (.agg #[.int .i64 2, .int .i64 (d % 4), v, .slice none 0 0]) ∧ w.heap.size ≤ B ∧ w'.ownsRow B 29 1 v (xs.length / widthN d * widthN d) ((revN (widthN d) (xs.length / widthN d) (xs.take (xs.length / widthN d * widthN d)) (xs.length / widthN d)).map (Value.float .f64)) ∧ Below w.heap.size w w' := by
  have hml := Nat.div_mul_le_self xs.length (widthN d)
  have LO := hid (fun w' (hb : Below w.heap.size w w') => lineOf d nad ncp xs kad kl kcp hxl w' (hF.below hb))
  obtain ⟨q, hq⟩ : ∃ q, q = xs.length / widthN d := ⟨_, rfl⟩
  rw [← hq] at LO hml ⊢
  have hlen : (xs.take (q * widthN d)).length = q * widthN d := by rw [List.length_take]; exact Nat.min_eq_left hml
  have hone : ∀ u ∈ (xs.take (q * widthN d)).map (Value.float .f64), u.oneCell' = true := fun u hu => by
    obtain ⟨x, _, rfl⟩ := List.mem_map.1 hu
    rfl
  have RV := hid (fun g w1 (hr : RowOf w1 g ((xs.take (q * widthN d)).map (Value.float .f64))) (hg : g < w1.heap.size) =>
    lineRev (d % 4) g (q * widthN d) ((revN (widthN d) q (xs.take (q * widthN d)) q).map (Value.float .f64)) w1 (fun w' hb => by
      have := seqReverse (d % 4) (isDim4 d) g (q * widthN d) q (by rw [width4]) (by omega) _ (by rw [List.length_map]; exact hlen) hone w' (hr.under hb hg) (Nat.lt_of_lt_of_le hg hb.size)
      rw [width4, revN_map] at this
      exact this))
  have PL := hid (fun g w1 (hr : RowOf w1 g ((revN (widthN d) q (xs.take (q * widthN d)) q).map (Value.float .f64))) (hg : g < w1.heap.size) =>
    plainLineR (d % 4) (isDim4 d) g (q * widthN d) q (by rw [width4]) (by omega) _ (revN_length (widthN d) q _ hlen q (Nat.le_refl _)) w1 hr hg)
  unfold gv sv at *
  generalize (revN (widthN d) q (xs.take (q * widthN d)) q).map (Value.float .f64) = rv at *
  generalize (xs.take (q * widthN d)).map (Value.float .f64) = news at *
  clear hml hlen hq hF
  generalize q * widthN d = m at *
  generalize d % 4 = dm at *
  generalize xs.length = nl at *
  go_enter Try.func47, Try.ntmps47
  go_wp2_with fail
  refine lettered (R := fun wz => Calls _ _ _ wz _) (fun wz => wz.cell? ⟨w.heap.size, 0, none⟩ = some (.int .i64 2) ∧ wz.cell? ⟨w.heap.size, 1, none⟩ = some (.int .i64 d) ∧ wz.cell? ⟨w.heap.size, 2, none⟩ = some (.slice nad nl ncp) ∧ wz.cell? ⟨w.heap.size, 3, none⟩ = some (.slice kad kl kcp) ∧ wz.cell? ⟨w.heap.size + 1, 0, none⟩ = some (.int .i64 0) ∧ wz.cell? ⟨w.heap.size + 1, 1, none⟩ = some (.int .i64 0) ∧ wz.cell? ⟨w.heap.size + 1, 2, none⟩ = some (.slice none 0 0) ∧ wz.cell? ⟨w.heap.size + 1, 3, none⟩ = some (.slice none 0 0) ∧ wz.frozen? ⟨w.heap.size + 1, 0, none⟩ = false ∧ wz.frozen? ⟨w.heap.size + 1, 1, none⟩ = false ∧ wz.frozen? ⟨w.heap.size + 1, 2, none⟩ = false ∧ wz.frozen? ⟨w.heap.size + 1, 3, none⟩ = false ∧ w.heap.size + 2 ≤ wz.heap.size ∧ Below w.heap.size w wz) ⟨by go_cell, by go_cell, by go_cell, by go_cell, by go_cell, by go_cell, by go_cell, by go_cell, by go_cell, by go_cell, by go_cell, by go_cell, by simp, by go_grown⟩ ?_
  rintro wz ⟨c00, c01, c02, c03, c10, c11, c12, c13, z10, z11, z12, z13, hsz, hb⟩
  have HB := hid hb
  clear hb
  go_wp2_with (first | (go_at_call 67; (with_reducible refine (LO.out _ HB.out).mono ?_); rintro e w' ⟨g, rfl, hrow, -, hg, hbl⟩; obtain ⟨nx, rfl⟩ := later1 (lat (wz := wz) (by repeat (first | (with_reducible exact below_later _ _) | (with_reducible exact Below.refl _ _) | (with_reducible assumption) | (with_reducible refine Below.drew ?_) | (with_reducible refine Below.alloc ?_ (by (first | (with_reducible exact Nat.le_refl _) | (with_reducible exact (below_later _ _).size) | omega | (simp; done) | (simp; omega))) _))) hbl); clear hbl) | (go_at_call 86; (with_reducible refine (RV.out _ _ hrow hg).mono ?_); rintro e w' ⟨g2, rfl, hrow2, hg2, hbl⟩; obtain ⟨nx, rfl⟩ := later1 (lat (wz := wz) (by repeat (first | (with_reducible exact below_later _ _) | (with_reducible exact Below.refl _ _) | (with_reducible assumption) | (with_reducible refine Below.drew ?_) | (with_reducible refine Below.alloc ?_ (by (first | (with_reducible exact Nat.le_refl _) | (with_reducible exact (below_later _ _).size) | omega | (simp; done) | (simp; omega))) _))) hbl); clear hbl) | (go_at_call 85; (with_reducible refine (PL.out _ _ hrow2 hg2).mono ?_); rintro e w' ⟨v, B, rfl, hB1, hown, hbl⟩; obtain ⟨va, vn, vc, rfl⟩ := own_slice hown; have hB2 := Nat.le_trans (below_later wz nx).size hB1; obtain ⟨nx, rfl⟩ := later1 (lat (wz := wz) (by repeat (first | (with_reducible exact below_later _ _) | (with_reducible exact Below.refl _ _) | (with_reducible assumption) | (with_reducible refine Below.drew ?_) | (with_reducible refine Below.alloc ?_ (by (first | (with_reducible exact Nat.le_refl _) | (with_reducible exact (below_later _ _).size) | omega | (simp; done) | (simp; omega))) _))) hbl); clear hbl; have HO := hid hown; clear hown))
  refine bodyPost_ret (ret1 (b := w.heap.size + 1) (cs := [.int .i64 2, .int .i64 dm, .slice va vn vc, .slice none 0 0]) Try.results47 rfl Try.underlying49 rfl (by kernel_rfl) ⟨by go_cell, by go_cell, by go_cell, by go_cell, trivial⟩) rfl ?_
  have hB := HB.out.trans ((below_later wz nx).mono HB.out.size)
  have hbB : w.heap.size + 1 < B := by omega
  refine ⟨_, B, rfl, by omega, by repeat' (first | (with_reducible exact HO.out) | (with_reducible refine ownsRow_setCell_below ?_ ?_ _) | exact hbB), by
    repeat' (first | (with_reducible exact hB) | (with_reducible refine Below.setCell ?_ ?_ _) | (with_reducible refine Below.alloc ?_ ?_ _) | (with_reducible refine Below.drew ?_) | (with_reducible exact hB.size) | omega | (simp; done) | (simp; omega))⟩
end Go.Proofs.Ytbcjlgkdmkehlaa
