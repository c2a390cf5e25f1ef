/- The law FnSeqGetXY holds of every geometry and every index: a sequence gives X and Y of each place, and says no where there is none. The call returns true and leaves memory as it was. Conditions: none. -/
import Derived.Test.YtbcjlgkdmkehlaaRows
import Derived.Test.YtbcjlgkdmkehlaaSgd
import Derived.Test.YtbcjlgkdmkehlaaSnm
namespace Go.Proofs.Ytbcjlgkdmkehlaa
open Go.ChangeShapes Go.WideShapes Go.ChangeAt Go.RowKit
set_option maxRecDepth 100000
set_option linter.unusedSimpArgs false
namespace fnSeqGetXY
theorem same2 (A B x y : Nat) (w : World) (a0 : w.cell? ⟨A, 0, none⟩ = some (.float .f64 x)) (a1 : w.cell? ⟨A, 1, none⟩ = some (.float .f64 y)) (b0 : w.cell? ⟨B, 0, none⟩ = some (.float .f64 x)) (b1 : w.cell? ⟨B, 1, none⟩ = some (.float .f64 y)) :
    Calls Try.prog 32 #[.slice (some ⟨A, 0, none⟩) 2 2, .slice (some ⟨B, 0, none⟩) 2 2] w fun e w' => e = .returned (.bool true) ∧ Below w.heap.size w w' := by
  have row : ∀ g, w.cell? ⟨g, 0, none⟩ = some (.float .f64 x) → w.cell? ⟨g, 1, none⟩ = some (.float .f64 y) → FRow w (some ⟨g, 0, none⟩) [x, y] := fun g h0 h1 i u hu => by
    refine ⟨g, 0, rfl, ?_⟩
    rcases i with _ | _ | i
    · simp at hu; subst hu; exact h0
    · simp at hu; subst hu; exact h1
    · simp at hu
  have := sameNums (some ⟨A, 0, none⟩) (some ⟨B, 0, none⟩) 2 2 [x, y] [x, y] (by simp) (by simp) w (row A a0 a1) (row B b0 b1)
  rw [decide_eq_true rfl] at this
  exact this
theorem other (n : Nat) (k d : Int) (nad : Option Addr) (ncp : Nat) (xs : List Nat) (kad : Option Addr) (kcp : Nat) (ks : List Value) (i : Int) (w : World) (hno : i < -1000000 ∨ 1000000 < i ∨ (¬ (k = 2 ∧ xs.length < 2000) ∧ -1000000 ≤ i ∧ i ≤ 1000000)) (ho : Own w k d nad ncp xs kad kcp ks) (hk : ∀ u ∈ ks, GeoAt w n u) :
    Calls Try.prog 8 #[gv k d nad xs.length ncp kad ks.length kcp, .int .i64 i] w fun e w' => e = .returned (.bool true) ∧ Below w.heap.size w w' := by
  have Z := hid (fun w => zzFits2 k d nad ncp xs kad kcp ks w)
  have GL := hid (fun w' (hb : Below w.heap.size w w') => gLine n k d nad ncp xs kad kcp ks w' (ho.below hb) (fun u hu => (hk u hu).below hb))
  unfold gv at *
  clear ho hk
  go_enter Try.func8, Try.ntmps8
  go_wp2_with fail
  refine lettered (R := fun wz => Calls _ _ _ wz _) (fun wz => wz.cell? ⟨w.heap.size, 0, none⟩ = some (.int .i64 k) ∧ wz.cell? ⟨w.heap.size, 1, none⟩ = some (.int .i64 d) ∧ wz.cell? ⟨w.heap.size, 2, none⟩ = some (.slice nad xs.length ncp) ∧ wz.cell? ⟨w.heap.size, 3, none⟩ = some (.slice kad ks.length kcp) ∧ w.heap.size + 1 ≤ wz.heap.size ∧ Below w.heap.size w wz) ⟨by go_cell, by go_cell, by go_cell, by go_cell, by simp, by go_grown⟩ ?_
  rintro wz ⟨c00, c01, c02, c03, hsz, hb⟩
  have HB := hid hb
  clear hb
  go_wp2_with (first | (go_at_call 29; (with_reducible refine (Z.out _).mono ?_); rintro e w' ⟨r, rfl, -, hbl⟩; obtain ⟨nx, rfl⟩ := later1 (lat (wz := wz) (by repeat (first | (with_reducible exact below_later _ _) | (with_reducible exact Below.refl _ _) | (with_reducible assumption) | (with_reducible refine Below.drew ?_) | (with_reducible refine Below.alloc ?_ (by (first | (with_reducible exact Nat.le_refl _) | (with_reducible exact (below_later _ _).size) | omega | (simp; done) | (simp; omega))) _))) hbl); clear hbl; cases r) | (go_at_call 30; (with_reducible refine (GL.out _ (by first | exact HB.out | (have hZ := HB.out.trans ((below_later wz nx).mono HB.out.size); repeat' (first | (with_reducible exact hZ) | (with_reducible refine Below.alloc ?_ ?_ _) | (with_reducible refine Below.drew ?_) | (have := hZ.size; simp; omega))))).mono ?_); rintro e w' ⟨a, q, c, b, rfl, hsay, hbl⟩; obtain ⟨nx, rfl⟩ := later1 (lat (wz := wz) (by repeat (first | (with_reducible exact below_later _ _) | (with_reducible exact Below.refl _ _) | (with_reducible assumption) | (with_reducible refine Below.drew ?_) | (with_reducible refine Below.alloc ?_ (by (first | (with_reducible exact Nat.le_refl _) | (with_reducible exact (below_later _ _).size) | omega | (simp; done) | (simp; omega))) _))) hbl); clear hbl; cases b))
  all_goals first
  | (go_ret; exact ⟨rfl, HB.out.trans ((below_later _ _).mono HB.out.size)⟩)
  | (exfalso; simp at *; omega)
theorem out (n : Nat) (d : Int) (nad : Option Addr) (ncp : Nat) (xs : List Nat) (kad : Option Addr) (kcp : Nat) (ks : List Value) (i : Int) (w : World) (hxl : xs.length < 2000) (hi : -1000000 ≤ i ∧ i ≤ 1000000) (hout : i < 0 ∨ ((xs.length / widthN d : Nat) : Int) ≤ i) (ho : Own w 2 d nad ncp xs kad kcp ks) (hk : ∀ u ∈ ks, GeoAt w n u) :
    Calls Try.prog 8 #[gv 2 d nad xs.length ncp kad ks.length kcp, .int .i64 i] w fun e w' => e = .returned (.bool true) ∧ Below w.heap.size w w' := by
  have Z := hid (fun w => zzFits2 2 d nad ncp xs kad kcp ks w)
  have GL := hid (fun w' (hb : Below w.heap.size w w') => gLine n 2 d nad ncp xs kad kcp ks w' (ho.below hb) (fun u hu => (hk u hu).below hb))
  have SO := hid (fun w' (hb : Below w.heap.size w w') => seqGetOut d nad ncp xs kad ks.length kcp hxl i hi hout w' (ho.nums.below hb))
  unfold gv at *
  clear ho hk
  have i0 : ¬ i < -1000000 := by omega
  have i1 : ¬ 1000000 < i := by omega
  generalize hqd : xs.length / widthN d = q0 at *
  go_enter Try.func8, Try.ntmps8
  go_wp2_with fail
  refine lettered (R := fun wz => Calls _ _ _ wz _) (fun wz => wz.cell? ⟨w.heap.size, 0, none⟩ = some (.int .i64 2) ∧ wz.cell? ⟨w.heap.size, 1, none⟩ = some (.int .i64 d) ∧ wz.cell? ⟨w.heap.size, 2, none⟩ = some (.slice nad xs.length ncp) ∧ wz.cell? ⟨w.heap.size, 3, none⟩ = some (.slice kad ks.length kcp) ∧ w.heap.size + 1 ≤ wz.heap.size ∧ Below w.heap.size w wz) ⟨by go_cell, by go_cell, by go_cell, by go_cell, by simp, by go_grown⟩ ?_
  rintro wz ⟨c00, c01, c02, c03, hsz, hb⟩
  have HB := hid hb
  clear hb
  go_wp2_with (first | (go_at_call 29; (with_reducible refine (Z.out _).mono ?_); rintro e w' ⟨r, rfl, -, hbl⟩; obtain ⟨nx, rfl⟩ := later1 (lat (wz := wz) (by repeat (first | (with_reducible exact below_later _ _) | (with_reducible exact Below.refl _ _) | (with_reducible assumption) | (with_reducible refine Below.drew ?_) | (with_reducible refine Below.alloc ?_ (by (first | (with_reducible exact Nat.le_refl _) | (with_reducible exact (below_later _ _).size) | omega | (simp; done) | (simp; omega))) _))) hbl); clear hbl; cases r) | (go_at_call 30; (with_reducible refine (GL.out _ (by first | exact HB.out | (have hZ := HB.out.trans ((below_later wz nx).mono HB.out.size); repeat' (first | (with_reducible exact hZ) | (with_reducible refine Below.alloc ?_ ?_ _) | (with_reducible refine Below.drew ?_) | (have := hZ.size; simp; omega))))).mono ?_); rintro e w' ⟨a, q, c, b, rfl, hsay, hbl⟩; obtain ⟨nx, rfl⟩ := later1 (lat (wz := wz) (by repeat (first | (with_reducible exact below_later _ _) | (with_reducible exact Below.refl _ _) | (with_reducible assumption) | (with_reducible refine Below.drew ?_) | (with_reducible refine Below.alloc ?_ (by (first | (with_reducible exact Nat.le_refl _) | (with_reducible exact (below_later _ _).size) | omega | (simp; done) | (simp; omega))) _))) hbl); clear hbl; replace hsay := hid hsay; cases b))
  · go_ret
    exact ⟨rfl, HB.out.trans ((below_later _ _).mono HB.out.size)⟩
  · go_ret
    exact ⟨rfl, HB.out.trans ((below_later _ _).mono HB.out.size)⟩
  · obtain ⟨-, -, hq, -⟩ := hsay.out trivial
    rw [hqd] at hq
    subst hq
    by_cases hneg : i < 0
    · skip
      go_wp2_with (first | (go_at_call 31; (with_reducible refine (SO.out _ (by first | exact HB.out | (have hZ := HB.out.trans ((below_later wz nx).mono HB.out.size); repeat' (first | (with_reducible exact hZ) | (with_reducible refine Below.alloc ?_ ?_ _) | (with_reducible refine Below.drew ?_) | (have := hZ.size; simp; omega))))).mono ?_); rintro e w' ⟨rfl, hbl⟩; obtain ⟨nx, rfl⟩ := later1 (lat (wz := wz) (by repeat (first | (with_reducible exact below_later _ _) | (with_reducible exact Below.refl _ _) | (with_reducible assumption) | (with_reducible refine Below.drew ?_) | (with_reducible refine Below.alloc ?_ (by (first | (with_reducible exact Nat.le_refl _) | (with_reducible exact (below_later _ _).size) | omega | (simp; done) | (simp; omega))) _))) hbl); clear hbl))
      go_ret
      exact ⟨rfl, by
        have hB := HB.out.trans ((below_later wz nx).mono HB.out.size)
        repeat' (first | (with_reducible exact hB) | (with_reducible refine Below.setCell ?_ ?_ _) | (with_reducible refine Below.alloc ?_ ?_ _) | (with_reducible refine Below.drew ?_) | (with_reducible exact hB.size) | omega | (simp; done) | (simp; omega))⟩
    · have hge : (q : Int) ≤ i := by omega
      go_wp2_with (first | (go_at_call 31; (with_reducible refine (SO.out _ (by first | exact HB.out | (have hZ := HB.out.trans ((below_later wz nx).mono HB.out.size); repeat' (first | (with_reducible exact hZ) | (with_reducible refine Below.alloc ?_ ?_ _) | (with_reducible refine Below.drew ?_) | (have := hZ.size; simp; omega))))).mono ?_); rintro e w' ⟨rfl, hbl⟩; obtain ⟨nx, rfl⟩ := later1 (lat (wz := wz) (by repeat (first | (with_reducible exact below_later _ _) | (with_reducible exact Below.refl _ _) | (with_reducible assumption) | (with_reducible refine Below.drew ?_) | (with_reducible refine Below.alloc ?_ (by (first | (with_reducible exact Nat.le_refl _) | (with_reducible exact (below_later _ _).size) | omega | (simp; done) | (simp; omega))) _))) hbl); clear hbl))
      go_ret
      exact ⟨rfl, by
        have hB := HB.out.trans ((below_later wz nx).mono HB.out.size)
        repeat' (first | (with_reducible exact hB) | (with_reducible refine Below.setCell ?_ ?_ _) | (with_reducible refine Below.alloc ?_ ?_ _) | (with_reducible refine Below.drew ?_) | (with_reducible exact hB.size) | omega | (simp; done) | (simp; omega))⟩
set_option maxHeartbeats 1000000 in
theorem inside (n : Nat) (d : Int) (nad : Option Addr) (ncp : Nat) (xs : List Nat) (kad : Option Addr) (kcp : Nat) (ks : List Value) (i : Nat) (w : World) (hxl : xs.length < 2000) (hin : i < xs.length / widthN d) (ho : Own w 2 d nad ncp xs kad kcp ks) (hk : ∀ u ∈ ks, GeoAt w n u) :
    Calls Try.prog 8 #[gv 2 d nad xs.length ncp kad ks.length kcp, .int .i64 i] w fun e w' => e = .returned (.bool true) ∧ Below w.heap.size w w' := by
  have Z := hid (fun w => zzFits2 2 d nad ncp xs kad kcp ks w)
  have GL := hid (fun w' (hb : Below w.heap.size w w') => gLine n 2 d nad ncp xs kad kcp ks w' (ho.below hb) (fun u hu => (hk u hu).below hb))
  have SO := hid (fun w' (hb : Below w.heap.size w w') => seqGetIn d nad ncp xs kad ks.length kcp hxl i hin w' (ho.nums.below hb))
  have S2 := hid same2
  have hq2 : xs.length / widthN d ≤ xs.length := Nat.div_le_self _ _
  unfold gv at *
  clear ho hk
  have i0 : ¬ (i : Int) < -1000000 := by omega
  have i1 : ¬ 1000000 < (i : Int) := by omega
  have i2 : ¬ (i : Int) < 0 := by omega
  generalize hqd : xs.length / widthN d = q0 at *
  have i3 : ¬ (q0 : Int) ≤ (i : Int) := by omega
  have j0 : (0 : Int) ≤ (i : Int) := by omega
  have j1 : (i : Int) < (q0 : Int) := by omega
  go_enter Try.func8, Try.ntmps8
  go_wp2_with fail
  refine lettered (R := fun wz => Calls _ _ _ wz _) (fun wz => wz.cell? ⟨w.heap.size, 0, none⟩ = some (.int .i64 2) ∧ wz.cell? ⟨w.heap.size, 1, none⟩ = some (.int .i64 d) ∧ wz.cell? ⟨w.heap.size, 2, none⟩ = some (.slice nad xs.length ncp) ∧ wz.cell? ⟨w.heap.size, 3, none⟩ = some (.slice kad ks.length kcp) ∧ w.heap.size + 1 ≤ wz.heap.size ∧ Below w.heap.size w wz) ⟨by go_cell, by go_cell, by go_cell, by go_cell, by simp, by go_grown⟩ ?_
  rintro wz ⟨c00, c01, c02, c03, hsz, hb⟩
  have HB := hid hb
  clear hb
  go_wp2_with (first | (go_at_call 29; (with_reducible refine (Z.out _).mono ?_); rintro e w' ⟨r, rfl, -, hbl⟩; obtain ⟨nx, rfl⟩ := later1 (lat (wz := wz) (by repeat (first | (with_reducible exact below_later _ _) | (with_reducible exact Below.refl _ _) | (with_reducible assumption) | (with_reducible refine Below.drew ?_) | (with_reducible refine Below.alloc ?_ (by (first | (with_reducible exact Nat.le_refl _) | (with_reducible exact (below_later _ _).size) | omega | (simp; done) | (simp; omega))) _))) hbl); clear hbl; cases r) | (go_at_call 30; (with_reducible refine (GL.out _ (by first | exact HB.out | (have hZ := HB.out.trans ((below_later wz nx).mono HB.out.size); repeat' (first | (with_reducible exact hZ) | (with_reducible refine Below.alloc ?_ ?_ _) | (with_reducible refine Below.drew ?_) | (have := hZ.size; simp; omega))))).mono ?_); rintro e w' ⟨a, q, c, b, rfl, hsay, hbl⟩; obtain ⟨nx, rfl⟩ := later1 (lat (wz := wz) (by repeat (first | (with_reducible exact below_later _ _) | (with_reducible exact Below.refl _ _) | (with_reducible assumption) | (with_reducible refine Below.drew ?_) | (with_reducible refine Below.alloc ?_ (by (first | (with_reducible exact Nat.le_refl _) | (with_reducible exact (below_later _ _).size) | omega | (simp; done) | (simp; omega))) _))) hbl); clear hbl; replace hsay := hid hsay; cases b))
  · go_ret
    exact ⟨rfl, HB.out.trans ((below_later _ _).mono HB.out.size)⟩
  · go_ret
    exact ⟨rfl, HB.out.trans ((below_later _ _).mono HB.out.size)⟩
  · obtain ⟨-, -, hq, hxy⟩ := hsay.out trivial
    rw [hqd] at hq
    subst hq
    obtain ⟨g, rfl, u0, u1⟩ := hxy i hin
    dsimp only at u0 u1
    clear hsay hxy
    generalize xs.getD (i * widthN d) 0 = x at *
    generalize xs.getD (i * widthN d + 1) 0 = y at *
    go_wp2_with (first | (go_at_call 31; (with_reducible refine (SO.out _ (by first | exact HB.out | (have hZ := HB.out.trans ((below_later wz nx).mono HB.out.size); repeat' (first | (with_reducible exact hZ) | (with_reducible refine Below.alloc ?_ ?_ _) | (with_reducible refine Below.drew ?_) | (have := hZ.size; simp; omega))))).mono ?_); rintro e w' ⟨rfl, hbl⟩; have u2 := (hbl.cell (World.block_lt_of_cell? _ _ u0)).trans u0; have u3 := (hbl.cell (World.block_lt_of_cell? _ _ u1)).trans u1; clear u0 u1; obtain ⟨nx, rfl⟩ := later1 (lat (wz := wz) (by repeat (first | (with_reducible exact below_later _ _) | (with_reducible exact Below.refl _ _) | (with_reducible assumption) | (with_reducible refine Below.drew ?_) | (with_reducible refine Below.alloc ?_ (by (first | (with_reducible exact Nat.le_refl _) | (with_reducible exact (below_later _ _).size) | omega | (simp; done) | (simp; omega))) _))) hbl); clear hbl))
    have hg : g < (later wz nx).heap.size := World.block_lt_of_cell? _ _ u2
    have hgn : ¬ g = (later wz nx).heap.size := by omega
    refine lettered (R := fun wz2 => Code.wp _ _ _ _ wz2) (fun wz2 => wz2.cell? ⟨(later wz nx).heap.size, 0, none⟩ = some (.float .f64 x) ∧ wz2.cell? ⟨(later wz nx).heap.size, 1, none⟩ = some (.float .f64 y) ∧ wz2.cell? ⟨g, i * 4, none⟩ = some (.float .f64 x) ∧ wz2.cell? ⟨g, i * 4 + 1, none⟩ = some (.float .f64 y) ∧ w.heap.size < wz2.heap.size ∧ Below w.heap.size w wz2) ⟨by go_cell, by go_cell, by go_cell, by go_cell, by have := (below_later wz nx).size; simp; omega, by have hB := HB.out.trans ((below_later wz nx).mono HB.out.size); repeat' (first | (with_reducible exact hB) | (with_reducible refine Below.setCell ?_ ?_ _) | (with_reducible refine Below.alloc ?_ ?_ _) | (with_reducible refine Below.drew ?_) | (with_reducible exact hB.size) | omega | (simp; done) | (simp; omega))⟩ ?_
    rintro wz2 ⟨c2_0_0, c2_0_1, v0, v1, hs2_0, hb⟩
    clear HB
    have HB := hid hb
    clear hb
    generalize (later wz nx).heap.size = pb at *
    refine wp_region_tree (S := (fun w' => ∃ e, w' = later wz2 e)) (.lt 0 (.lt 1 (.lt 2 (.lt 3 (.lt 4 (.lt 5 (.lt 7 (.lt 8 (.lt 9 (.lt 10 (.lt 11 (.lt 12 (.lt 13 (.lt 14 (.lt 15 (.lt 16 (.hv2 6 (.hv 17 (.hv 18 (.lt 19 (.lt 20 (.nil))))) 17 (.hv 6 (.hv 18 (.lt 19 (.lt 20 (.nil)))))))))))))))))))))) (by kernel_rfl) (by kernel_rfl) (fun _ _ d _ _ h => by cases d <;> exact h) ⟨_, (later_of (by repeat (first | (with_reducible exact below_later _ _) | (with_reducible exact Below.refl _ _) | (with_reducible assumption) | (with_reducible refine Below.drew ?_) | (with_reducible refine Below.alloc ?_ (by (first | (with_reducible exact Nat.le_refl _) | (with_reducible exact (below_later _ _).size) | omega | (simp; done) | (simp; omega))) _)))).symm⟩ ?_
    simp only [pickT, List.getElem?_cons_succ, List.getElem?_cons_zero]
    repeat' (first
      | (with_reducible refine wpTr_hv2 ?_ ?_)
      | ((with_reducible refine wpTr_lt (fun K hK => ?_)); go_simp; (first | (with_reducible refine hK _ ?_) | (rw [if_neg (by intro h; cases h)]; with_reducible refine hK _ ?_)); clear hK K)
      | ((with_reducible refine wpTr_hv (fun K L hK hL => ?_)); go_simp; (first | (with_reducible refine hL _ ?_) | (rw [if_neg (by intro h; cases h)]; with_reducible refine hL _ ?_)); clear hK hL K L)
      | ((with_reducible refine wpTr_hv (fun K L hK hL => ?_)); go_simp; (with_reducible refine hK _ _ ?_ ?_); (focus (exact ⟨_, (later_of (by repeat (first | (with_reducible exact below_later _ _) | (with_reducible exact Below.refl _ _) | (with_reducible assumption) | (with_reducible refine Below.drew ?_) | (with_reducible refine Below.alloc ?_ (by (first | (with_reducible exact Nat.le_refl _) | (with_reducible exact (below_later _ _).size) | omega | (simp; done) | (simp; omega))) _)))).symm⟩)); clear hK hL K L)
      | ((with_reducible refine wpTr_hv (fun K L hK hL => ?_)); go_simp; go_at_call 32; (with_reducible refine (S2.out _ _ x y _ (by go_cell) (by go_cell) (by go_cell) (by go_cell)).mono ?_); rintro e w' ⟨rfl, hbl⟩; obtain ⟨nx, rfl⟩ := later1 (lat (wz := wz2) (by repeat (first | (with_reducible exact below_later _ _) | (with_reducible exact Below.refl _ _) | (with_reducible assumption) | (with_reducible refine Below.drew ?_) | (with_reducible refine Below.alloc ?_ (by (first | (with_reducible exact Nat.le_refl _) | (with_reducible exact (below_later _ _).size) | omega | (simp; done) | (simp; omega))) _))) hbl); clear hbl; go_simp; (with_reducible refine hK _ _ ?_ ?_); (focus (exact ⟨_, (later_of (by repeat (first | (with_reducible exact below_later _ _) | (with_reducible exact Below.refl _ _) | (with_reducible assumption) | (with_reducible refine Below.drew ?_) | (with_reducible refine Below.alloc ?_ (by (first | (with_reducible exact Nat.le_refl _) | (with_reducible exact (below_later _ _).size) | omega | (simp; done) | (simp; omega))) _)))).symm⟩)); clear hK hL K L))
    all_goals refine wpTr_nil ?_
    all_goals
      go_wp2_with fail
      go_ret
      exact ⟨rfl, HB.out.trans ((below_later _ _).mono HB.out.size)⟩
theorem walk (n : Nat) (k d : Int) (nad : Option Addr) (ncp : Nat) (xs : List Nat) (kad : Option Addr) (kcp : Nat) (ks : List Value) (i : Int) (w : World) (ho : Own w k d nad ncp xs kad kcp ks) (hk : ∀ u ∈ ks, GeoAt w n u) :
    Calls Try.prog 8 #[gv k d nad xs.length ncp kad ks.length kcp, .int .i64 i] w fun e w' => e = .returned (.bool true) ∧ Below w.heap.size w w' := by
  by_cases h1 : k = 2 ∧ xs.length < 2000
  · obtain ⟨rfl, hxl⟩ := h1
    by_cases h2 : -1000000 ≤ i ∧ i ≤ 1000000
    · by_cases h3 : i < 0 ∨ ((xs.length / widthN d : Nat) : Int) ≤ i
      · exact out n d nad ncp xs kad kcp ks i w hxl h2 h3 ho hk
      · obtain ⟨j, rfl⟩ : ∃ j : Nat, i = j := ⟨i.toNat, by omega⟩
        exact inside n d nad ncp xs kad kcp ks j w hxl (by omega) ho hk
    · exact other n 2 d nad ncp xs kad kcp ks i w (by omega) ho hk
  · exact other n k d nad ncp xs kad kcp ks i w (by by_cases a : i < -1000000; exact .inl a; by_cases b : 1000000 < i; exact .inr (.inl b); exact .inr (.inr ⟨h1, by omega, by omega⟩)) ho hk
set_option maxRecDepth 100000 in
theorem lifted (os : Os) (started : os.Started) (H : Type) (enc : TypeId × Value → H) :
    ReturnsInHanded {} Try.checked os 8 .any (Rows.fnSeqGetXYSpec.pre6 enc Try.prog Try.f8 Rows.fnSeqGetXYRow.domain false) (Rows.fnSeqGetXYSpec.post enc Try.prog Try.f8 false true false false) := by
  refine returnsInHanded_of_change (C := Try.checked) own started (by kernel_rfl) Try.func8
    (ChangeSpec.witness6 (enc := enc) (C := Try.checked) false ⟨#[], #[.agg #[.int .i64 0, .int .i64 0, .slice none 0 0, .slice none 0 0], .int .i64 0], []⟩ 16 (by kernel_rfl) (by kernel_rfl) (by kernel_rfl) (by kernel_rfl)) ?_
  intro W base args ds gs before hval0 hW hcnd _
  have hval : ∀ (j : Nat) t v, Try.f8.params[j]? = some t → args[j]? = some v → Value.okWide Try.prog W .any base t v := hval0
  have hW' := hW
  obtain ⟨p, q, hA0, hV, rfl, hfz, hnd⟩ := hW
  have hA : DataW.TrodAll enc Try.prog W 0 (fun _ => true) true Try.f8.params.toList args.toList ds p := hA0
  rw [Try.params8] at hA hval
  obtain ⟨v0, vs0, d0, ds0, p0, q0, hargs, rfl, rfl, h0, r0⟩ := trodAll_cons hA
  obtain ⟨v1, vs1, d1, ds1, p1, q1, rfl, rfl, rfl, h1, r1⟩ := trodAll_cons r0
  obtain ⟨rfl, rfl, rfl⟩ := trodAll_nil r1
  obtain rfl : args = #[v0, v1] := by cases args; simp_all
  obtain ⟨rfl, rfl⟩ := trodVars_none hV
  have lt0 : ∀ x ∈ p0, x.block < W.heap.size := by obtain ⟨m, hm⟩ := h0; exact DataW.trod_lt m _ _ _ hm
  have lt1 : ∀ x ∈ p1, x.block < W.heap.size := by obtain ⟨m, hm⟩ := h1; exact DataW.trod_lt m _ _ _ hm
  obtain ⟨n, hg⟩ := readGeom (hval 0 _ _ rfl rfl) h0
  cases n with
  | zero => exact hg.elim
  | succ n =>
  obtain ⟨gk, gd, nad, ncp, xs, kad, kcp, ks, rfl, ho, hk⟩ := hg
  obtain ⟨gi, rfl, -, -, -⟩ := open_int Try.underlying3 (hval 1 3 v1 rfl rfl) h1
  clear hA0 hval0
  refine (walk n gk gd nad ncp xs kad kcp ks gi W ho hk).mono fun e W' ⟨he, bel⟩ => ?_
  subst he
  exact ⟨_, rfl, _, _, _, [], _, [], hW', trodAll_mk1 (shut_bool Try.underlying4 _), (trodAll_cons_mk (Below.trod laidOut (by kernel_rfl) (of_decide_eq_true (by kernel_rfl)) h0 bel lt0) (trodAll_cons_mk (Below.trod laidOut (by kernel_rfl) (of_decide_eq_true (by kernel_rfl)) h1 bel lt1) trodAll_mk0)), rfl, bel.frame _, fun h => by cases h⟩

theorem over : Rows.fnSeqGetXYRow.holds Try.pinned (OpenSpec.ofChange Rows.fnSeqGetXYSpec) :=
  OpenClaim.holds_of_wide 8 Try.f8 rfl rfl rfl rfl rfl rfl rfl ⟨rfl, rfl, rfl, rfl, rfl⟩ rfl rfl rfl rfl rfl (by kernel_rfl) Try.func8 (by kernel_rfl)
    (of_decide_eq_true (by kernel_rfl)) (by unfold Func.isWrapper; first | (rw [if_pos (by decide +kernel)]; kernel_rfl) | (rw [if_neg (by decide +kernel)]; exact ⟨rfl, rfl⟩))
    (fun os started H enc _ => lifted os started H enc)

theorem proved : Rows.FnSeqGetXYSaid := over
end fnSeqGetXY
end Go.Proofs.Ytbcjlgkdmkehlaa
