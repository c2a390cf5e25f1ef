/- The law FnClosed holds of every geometry: a line string without NaN is closed just if it is not empty and X and Y of its first and last place are equal. The call returns true and leaves memory as it was. Conditions: none. -/
import Derived.Test.YtbcjlgkdmkehlaaRows
import Derived.Test.YtbcjlgkdmkehlaaClo
import Derived.Test.YtbcjlgkdmkehlaaAll
namespace Go.Proofs.Ytbcjlgkdmkehlaa
open Go.ChangeShapes Go.WideShapes Go.ChangeAt Go.RowKit Fl
set_option maxRecDepth 100000
set_option linter.unusedSimpArgs false
namespace fnClosed
theorem fld1 (a b c e : Value) (w : World) : (Instr.field 49 (.agg #[a, b, c, e]) 1).run Try.prog w = .ok b w := by kernel_rfl
theorem fld2 (a b c e : Value) (w : World) : (Instr.field 49 (.agg #[a, b, c, e]) 2).run Try.prog w = .ok c w := by kernel_rfl
set_option maxHeartbeats 2000000 in
theorem other (n : Nat) (k d : Int) (nad : Option Addr) (ncp : Nat) (xs : List Nat) (kad : Option Addr) (kcp : Nat) (ks : List Value) (w : World) (hk2 : ¬ k = 2) (ho : Own w k d nad ncp xs kad kcp ks) (hk : ∀ u ∈ ks, GeoAt w n u) :
    Calls Try.prog 9 #[gv k d nad xs.length ncp kad ks.length kcp] w fun e w' => e = .returned (.bool true) ∧ Below w.heap.size w w' := by
  have Z := hid (fun w => zzFits2 k d nad ncp xs kad kcp ks w)
  have GS := hid (fun p w' (hb : Below w.heap.size w w') hr => gSmall k d nad ncp xs kad kcp ks n p 1 w' (ho.below hb) (fun u hu => (hk u hu).below hb) hr)
  unfold gv at *
  clear ho hk
  go_enter Try.func9, Try.ntmps9
  go_wp2_with fail
  refine lettered (R := fun wz => Calls _ _ _ wz _) (fun wz => wz.cell? ⟨w.heap.size, 0, none⟩ = some (.int .i64 k) ∧ wz.cell? ⟨w.heap.size, 1, none⟩ = some (.int .i64 d) ∧ wz.cell? ⟨w.heap.size, 2, none⟩ = some (.slice nad xs.length ncp) ∧ wz.cell? ⟨w.heap.size, 3, none⟩ = some (.slice kad ks.length kcp) ∧ w.heap.size + 1 ≤ wz.heap.size ∧ Below w.heap.size w wz) ⟨by go_cell, by go_cell, by go_cell, by go_cell, by simp, by go_grown⟩ ?_
  rintro wz ⟨c00, c01, c02, c03, hsz, hb⟩
  have HB := hid hb
  clear hb
  go_wp2_with (first | (go_at_call 29; (with_reducible refine (Z.out _).mono ?_); rintro e w' ⟨r, rfl, -, hbl⟩; obtain ⟨nx, rfl⟩ := later1 (lat (wz := wz) (by repeat (first | (with_reducible exact below_later _ _) | (with_reducible exact Below.refl _ _) | (with_reducible assumption) | (with_reducible refine Below.drew ?_) | (with_reducible refine Below.alloc ?_ (by (first | (with_reducible exact Nat.le_refl _) | (with_reducible exact (below_later _ _).size) | omega | (simp; done) | (simp; omega))) _))) hbl); clear hbl; cases r) | (go_at_call 33; (with_reducible refine (GS.out _ _ (by first | exact HB.out | (have hZ := HB.out.trans ((below_later wz nx).mono HB.out.size); repeat' (first | (with_reducible exact hZ) | (with_reducible refine Below.alloc ?_ ?_ _) | (with_reducible refine Below.drew ?_) | (have := hZ.size; simp; omega)))) (row4.2 ⟨by go_cell, by go_cell, by go_cell, by go_cell, trivial⟩)).mono ?_); rintro e w' ⟨r, rfl, -, hbl⟩; obtain ⟨nx, rfl⟩ := later1 (lat (wz := wz) (by repeat (first | (with_reducible exact below_later _ _) | (with_reducible exact Below.refl _ _) | (with_reducible assumption) | (with_reducible refine Below.drew ?_) | (with_reducible refine Below.alloc ?_ (by (first | (with_reducible exact Nat.le_refl _) | (with_reducible exact (below_later _ _).size) | omega | (simp; done) | (simp; omega))) _))) hbl); clear hbl; cases r))
  all_goals
    go_ret
    exact ⟨rfl, by
      have hB := HB.out.trans ((below_later wz nx).mono HB.out.size)
      repeat' (first | (with_reducible exact hB) | (with_reducible refine Below.setCell ?_ ?_ _) | (with_reducible refine Below.alloc ?_ ?_ _) | (with_reducible refine Below.drew ?_) | omega | (simp; done) | (simp; omega))⟩
set_option maxHeartbeats 2000000 in
theorem long (n : Nat) (k d : Int) (nad : Option Addr) (ncp : Nat) (xs : List Nat) (kad : Option Addr) (kcp : Nat) (ks : List Value) (w : World) (hxl : ¬ xs.length < 2000) (ho : Own w k d nad ncp xs kad kcp ks) (hk : ∀ u ∈ ks, GeoAt w n u) :
    Calls Try.prog 9 #[gv k d nad xs.length ncp kad ks.length kcp] w fun e w' => e = .returned (.bool true) ∧ Below w.heap.size w w' := by
  have Z := hid (fun w => zzFits2 k d nad ncp xs kad kcp ks w)
  have GS := hid (fun p w' (hb : Below w.heap.size w w') hr => gSmall k d nad ncp xs kad kcp ks n p 1 w' (ho.below hb) (fun u hu => (hk u hu).below hb) hr)
  unfold gv at *
  clear ho hk
  go_enter Try.func9, Try.ntmps9
  go_wp2_with fail
  refine lettered (R := fun wz => Calls _ _ _ wz _) (fun wz => wz.cell? ⟨w.heap.size, 0, none⟩ = some (.int .i64 k) ∧ wz.cell? ⟨w.heap.size, 1, none⟩ = some (.int .i64 d) ∧ wz.cell? ⟨w.heap.size, 2, none⟩ = some (.slice nad xs.length ncp) ∧ wz.cell? ⟨w.heap.size, 3, none⟩ = some (.slice kad ks.length kcp) ∧ w.heap.size + 1 ≤ wz.heap.size ∧ Below w.heap.size w wz) ⟨by go_cell, by go_cell, by go_cell, by go_cell, by simp, by go_grown⟩ ?_
  rintro wz ⟨c00, c01, c02, c03, hsz, hb⟩
  have HB := hid hb
  clear hb
  go_wp2_with (first | (go_at_call 29; (with_reducible refine (Z.out _).mono ?_); rintro e w' ⟨r, rfl, -, hbl⟩; obtain ⟨nx, rfl⟩ := later1 (lat (wz := wz) (by repeat (first | (with_reducible exact below_later _ _) | (with_reducible exact Below.refl _ _) | (with_reducible assumption) | (with_reducible refine Below.drew ?_) | (with_reducible refine Below.alloc ?_ (by (first | (with_reducible exact Nat.le_refl _) | (with_reducible exact (below_later _ _).size) | omega | (simp; done) | (simp; omega))) _))) hbl); clear hbl; cases r) | (go_at_call 33; (with_reducible refine (GS.out _ _ (by first | exact HB.out | (have hZ := HB.out.trans ((below_later wz nx).mono HB.out.size); repeat' (first | (with_reducible exact hZ) | (with_reducible refine Below.alloc ?_ ?_ _) | (with_reducible refine Below.drew ?_) | (have := hZ.size; simp; omega)))) (row4.2 ⟨by go_cell, by go_cell, by go_cell, by go_cell, trivial⟩)).mono ?_); rintro e w' ⟨r, rfl, hsay, hbl⟩; obtain ⟨nx, rfl⟩ := later1 (lat (wz := wz) (by repeat (first | (with_reducible exact below_later _ _) | (with_reducible exact Below.refl _ _) | (with_reducible assumption) | (with_reducible refine Below.drew ?_) | (with_reducible refine Below.alloc ?_ (by (first | (with_reducible exact Nat.le_refl _) | (with_reducible exact (below_later _ _).size) | omega | (simp; done) | (simp; omega))) _))) hbl); clear hbl; obtain rfl : r = false := (by cases r; rfl; exact absurd (hsay rfl).1 hxl); clear hsay))
  all_goals
    go_ret
    exact ⟨rfl, by
      have hB := HB.out.trans ((below_later wz nx).mono HB.out.size)
      repeat' (first | (with_reducible exact hB) | (with_reducible refine Below.setCell ?_ ?_ _) | (with_reducible refine Below.alloc ?_ ?_ _) | (with_reducible refine Below.drew ?_) | omega | (simp; done) | (simp; omega))⟩
set_option maxHeartbeats 2000000 in
theorem line0 (d : Int) (nad : Option Addr) (nl ncp : Nat) (kad : Option Addr) (kl kcp : Nat) (w : World)
    (hZ : ∀ w, Calls Try.prog 29 #[gv 2 d nad nl ncp kad kl kcp] w (Says (fun _ => True) w))
    (hS : ∀ p w', Below w.heap.size w w' → RowAt w' p 0 [.int .i64 2, .int .i64 d, .slice nad nl ncp, .slice kad kl kcp] → Calls Try.prog 33 #[.slice (some ⟨p, 0, none⟩) 1 1] w' (Says (fun _ => True) w'))
    (hA : ∀ w', Below w.heap.size w w' → Calls Try.prog 34 #[gv 2 d nad nl ncp kad kl kcp, .func (.func 35) #[] #[]] w' (Says (fun _ => True) w'))
    (hN : ∀ w, Calls Try.prog 37 #[gv 2 d nad nl ncp kad kl kcp] w fun e w' => e = .returned (gv 2 (d % 4) none 0 0 none 0 0) ∧ Below w.heap.size w w')
    (hC : ∀ w', Below w.heap.size w w' → Calls Try.prog 38 #[gv 2 d nad nl ncp kad kl kcp] w' fun e w'' => e = .returned (.bool false) ∧ Below w'.heap.size w' w'') :
    Calls Try.prog 9 #[gv 2 d nad nl ncp kad kl kcp] w fun e w' => e = .returned (.bool true) ∧ Below w.heap.size w w' := by
  have P : ∀ w, Calls Try.prog 36 #[.slice none 0 0, .int .i64 (d % 4)] w fun e w' => ∃ a c, e = .returned (.slice a 0 c) ∧ Below w.heap.size w w' := fun w =>
    (places (d % 4) (isDim4 d) none 0 [] (by simp) w (fun i x h => by simp at h)).mono fun e w' ⟨v, he, ho, hb⟩ => by
      obtain ⟨_, hv | ⟨g, cap, cur, hv, _⟩⟩ := ho
      · exact ⟨none, 0, by rw [he, hv.1], hb⟩
      · exact ⟨some ⟨g, 0, none⟩, cap, by rw [he, hv]; simp, hb⟩
  unfold gv at *
  generalize d % 4 = dm at *
  replace P := hid P
  replace hZ := hid hZ
  replace hS := hid hS
  replace hA := hid hA
  replace hN := hid hN
  replace hC := hid hC
  have F1 := fld1
  have F2 := fld2
  go_enter Try.func9, Try.ntmps9
  go_wp2_with fail
  refine lettered (R := fun wz => Calls _ _ _ wz _) (fun wz => wz.cell? ⟨w.heap.size, 0, none⟩ = some (.int .i64 2) ∧ wz.cell? ⟨w.heap.size, 1, none⟩ = some (.int .i64 d) ∧ wz.cell? ⟨w.heap.size, 2, none⟩ = some (.slice nad nl ncp) ∧ wz.cell? ⟨w.heap.size, 3, none⟩ = some (.slice kad kl kcp) ∧ w.heap.size + 1 ≤ wz.heap.size ∧ Below w.heap.size w wz) ⟨by go_cell, by go_cell, by go_cell, by go_cell, by simp, by go_grown⟩ ?_
  rintro wz ⟨c00, c01, c02, c03, hsz, hb⟩
  have HB := hid hb
  clear hb
  go_wp2_with (first | (go_at_call 29; (with_reducible refine (hZ.out _).mono ?_); rintro e w' ⟨r, rfl, -, hbl⟩; obtain ⟨nx, rfl⟩ := later1 (lat (wz := wz) (by repeat (first | (with_reducible exact below_later _ _) | (with_reducible exact Below.refl _ _) | (with_reducible assumption) | (with_reducible refine Below.drew ?_) | (with_reducible refine Below.alloc ?_ (by (first | (with_reducible exact Nat.le_refl _) | (with_reducible exact (below_later _ _).size) | omega | (simp; done) | (simp; omega))) _))) hbl); clear hbl; cases r) | (go_at_call 33; (with_reducible refine (hS.out _ _ (by first | exact HB.out | (have hZ := HB.out.trans ((below_later wz nx).mono HB.out.size); repeat' (first | (with_reducible exact hZ) | (with_reducible refine Below.alloc ?_ ?_ _) | (with_reducible refine Below.drew ?_) | (have := hZ.size; simp; omega)))) (row4.2 ⟨by go_cell, by go_cell, by go_cell, by go_cell, trivial⟩)).mono ?_); rintro e w' ⟨r, rfl, -, hbl⟩; obtain ⟨nx, rfl⟩ := later1 (lat (wz := wz) (by repeat (first | (with_reducible exact below_later _ _) | (with_reducible exact Below.refl _ _) | (with_reducible assumption) | (with_reducible refine Below.drew ?_) | (with_reducible refine Below.alloc ?_ (by (first | (with_reducible exact Nat.le_refl _) | (with_reducible exact (below_later _ _).size) | omega | (simp; done) | (simp; omega))) _))) hbl); clear hbl; cases r) | (go_at_call 34; (with_reducible refine (hA.out _ (by first | exact HB.out | (have hZ := HB.out.trans ((below_later wz nx).mono HB.out.size); repeat' (first | (with_reducible exact hZ) | (with_reducible refine Below.alloc ?_ ?_ _) | (with_reducible refine Below.drew ?_) | (have := hZ.size; simp; omega))))).mono ?_); rintro e w' ⟨r, rfl, -, hbl⟩; obtain ⟨nx, rfl⟩ := later1 (lat (wz := wz) (by repeat (first | (with_reducible exact below_later _ _) | (with_reducible exact Below.refl _ _) | (with_reducible assumption) | (with_reducible refine Below.drew ?_) | (with_reducible refine Below.alloc ?_ (by (first | (with_reducible exact Nat.le_refl _) | (with_reducible exact (below_later _ _).size) | omega | (simp; done) | (simp; omega))) _))) hbl); clear hbl; cases r))
  iterate 3
    · go_ret
      exact ⟨rfl, by
        have hB := HB.out.trans ((below_later wz nx).mono HB.out.size)
        repeat' (first | (with_reducible exact hB) | (with_reducible refine Below.setCell ?_ ?_ _) | (with_reducible refine Below.alloc ?_ ?_ _) | (with_reducible refine Below.drew ?_) | omega | (simp; done) | (simp; omega))⟩
  refine wp_region_ord (S := (fun w' => ∃ e, w' = later wz e)) [(0, false), (3, false), (1, true), (2, false), (4, true), (5, false), (6, true), (7, false)] (by kernel_rfl) (by kernel_rfl) (fun _ _ d _ _ h => by cases d <;> exact h) ⟨_, (later_of (by repeat (first | (with_reducible exact below_later _ _) | (with_reducible exact Below.refl _ _) | (with_reducible assumption) | (with_reducible refine Below.drew ?_) | (with_reducible refine Below.alloc ?_ (by (first | (with_reducible exact Nat.le_refl _) | (with_reducible exact (below_later _ _).size) | omega | (simp; done) | (simp; omega))) _)))).symm⟩ ?_
  simp only [pickO, List.filterMap_cons, List.filterMap_nil, List.getElem?_cons_succ, List.getElem?_cons_zero, Option.map_some]
  repeat (first
    | ((with_reducible refine wpOrd_light (fun K hK => ?_)); go_simp; (first | (with_reducible refine hK _ ?_) | (rw [if_neg (by intro h; cases h)]; with_reducible refine hK _ ?_)); clear hK K)
    | ((with_reducible refine wpOrd_heavy (fun K L hK hL => ?_)); go_simp; (first | (with_reducible refine hL _ ?_) | (rw [if_neg (by intro h; cases h)]; with_reducible refine hL _ ?_)); clear hK hL K L)
    | ((with_reducible refine wpOrd_heavy (fun K L hK hL => ?_)); go_simp; (with_reducible refine hK _ _ ?_ ?_); (focus (exact ⟨_, (later_of (by repeat (first | (with_reducible exact below_later _ _) | (with_reducible exact Below.refl _ _) | (with_reducible assumption) | (with_reducible refine Below.drew ?_) | (with_reducible refine Below.alloc ?_ (by (first | (with_reducible exact Nat.le_refl _) | (with_reducible exact (below_later _ _).size) | omega | (simp; done) | (simp; omega))) _)))).symm⟩)); clear hK hL K L)
    | ((with_reducible refine wpOrd_heavy (fun K L hK hL => ?_)); go_simp; go_at_call 37; (with_reducible refine (hN.out _).mono ?_); rintro e w' ⟨rfl, hbl⟩; obtain ⟨nx, rfl⟩ := later1 (lat (wz := wz) (by repeat (first | (with_reducible exact below_later _ _) | (with_reducible exact Below.refl _ _) | (with_reducible assumption) | (with_reducible refine Below.drew ?_) | (with_reducible refine Below.alloc ?_ (by (first | (with_reducible exact Nat.le_refl _) | (with_reducible exact (below_later _ _).size) | omega | (simp; done) | (simp; omega))) _))) hbl); clear hbl; go_simp; (with_reducible refine hK _ _ ?_ ?_); (focus (exact ⟨_, (later_of (by repeat (first | (with_reducible exact below_later _ _) | (with_reducible exact Below.refl _ _) | (with_reducible assumption) | (with_reducible refine Below.drew ?_) | (with_reducible refine Below.alloc ?_ (by (first | (with_reducible exact Nat.le_refl _) | (with_reducible exact (below_later _ _).size) | omega | (simp; done) | (simp; omega))) _)))).symm⟩)); clear hK hL K L)
    | ((with_reducible refine wpOrd_heavy (fun K L hK hL => ?_)); go_simp; go_at_call 36; (with_reducible refine (P.out _).mono ?_); rintro e w' ⟨pa, pc, rfl, hbl⟩; obtain ⟨nx, rfl⟩ := later1 (lat (wz := wz) (by repeat (first | (with_reducible exact below_later _ _) | (with_reducible exact Below.refl _ _) | (with_reducible assumption) | (with_reducible refine Below.drew ?_) | (with_reducible refine Below.alloc ?_ (by (first | (with_reducible exact Nat.le_refl _) | (with_reducible exact (below_later _ _).size) | omega | (simp; done) | (simp; omega))) _))) hbl); clear hbl; go_simp; (with_reducible refine hK _ _ ?_ ?_); (focus (exact ⟨_, (later_of (by repeat (first | (with_reducible exact below_later _ _) | (with_reducible exact Below.refl _ _) | (with_reducible assumption) | (with_reducible refine Below.drew ?_) | (with_reducible refine Below.alloc ?_ (by (first | (with_reducible exact Nat.le_refl _) | (with_reducible exact (below_later _ _).size) | omega | (simp; done) | (simp; omega))) _)))).symm⟩)); clear hK hL K L))
  refine wpOrd_nil ?_
  go_wp2_with fail
  refine wp_region_ord (S := (fun w' => ∃ e, w' = later wz e)) [(0, false), (2, false), (3, false), (1, true), (4, false), (5, false), (6, false), (7, false), (8, false), (9, false), (10, false), (11, false), (12, false), (13, false), (14, false), (15, false), (16, false), (17, false), (18, false), (19, false), (20, false), (21, false), (22, false), (23, false), (24, false), (25, false), (26, false), (27, false), (28, false), (29, false), (30, false), (31, false)] (by kernel_rfl) (by kernel_rfl) (fun _ _ d _ _ h => by cases d <;> exact h) ⟨_, (later_of (by repeat (first | (with_reducible exact below_later _ _) | (with_reducible exact Below.refl _ _) | (with_reducible assumption) | (with_reducible refine Below.drew ?_) | (with_reducible refine Below.alloc ?_ (by (first | (with_reducible exact Nat.le_refl _) | (with_reducible exact (below_later _ _).size) | omega | (simp; done) | (simp; omega))) _)))).symm⟩ ?_
  simp only [pickO, List.filterMap_cons, List.filterMap_nil, List.getElem?_cons_succ, List.getElem?_cons_zero, Option.map_some]
  repeat (first
    | ((with_reducible refine wpOrd_light (fun K hK => ?_)); go_simp; (first | (with_reducible refine hK _ ?_) | (rw [if_neg (by intro h; cases h)]; with_reducible refine hK _ ?_)); clear hK K)
    | ((with_reducible refine wpOrd_heavy (fun K L hK hL => ?_)); go_simp; (first | (with_reducible refine hL _ ?_) | (rw [if_neg (by intro h; cases h)]; with_reducible refine hL _ ?_)); clear hK hL K L)
    | ((with_reducible refine wpOrd_heavy (fun K L hK hL => ?_)); go_simp; (with_reducible refine hK _ _ ?_ ?_); (focus (exact ⟨_, (later_of (by repeat (first | (with_reducible exact below_later _ _) | (with_reducible exact Below.refl _ _) | (with_reducible assumption) | (with_reducible refine Below.drew ?_) | (with_reducible refine Below.alloc ?_ (by (first | (with_reducible exact Nat.le_refl _) | (with_reducible exact (below_later _ _).size) | omega | (simp; done) | (simp; omega))) _)))).symm⟩)); clear hK hL K L)
    | ((with_reducible refine wpOrd_heavy (fun K L hK hL => ?_)); go_simp; go_at_call 38; (with_reducible refine (hC.out _ (by first | exact HB.out | (have hZ := HB.out.trans ((below_later wz nx).mono HB.out.size); repeat' (first | (with_reducible exact hZ) | (with_reducible refine Below.alloc ?_ ?_ _) | (with_reducible refine Below.drew ?_) | (have := hZ.size; simp; omega))))).mono ?_); rintro e w' ⟨rfl, hbl⟩; obtain ⟨nx, rfl⟩ := later1 (lat (wz := wz) (by repeat (first | (with_reducible exact below_later _ _) | (with_reducible exact Below.refl _ _) | (with_reducible assumption) | (with_reducible refine Below.drew ?_) | (with_reducible refine Below.alloc ?_ (by (first | (with_reducible exact Nat.le_refl _) | (with_reducible exact (below_later _ _).size) | omega | (simp; done) | (simp; omega))) _))) hbl); clear hbl; go_simp; (with_reducible refine hK _ _ ?_ ?_); (focus (exact ⟨_, (later_of (by repeat (first | (with_reducible exact below_later _ _) | (with_reducible exact Below.refl _ _) | (with_reducible assumption) | (with_reducible refine Below.drew ?_) | (with_reducible refine Below.alloc ?_ (by (first | (with_reducible exact Nat.le_refl _) | (with_reducible exact (below_later _ _).size) | omega | (simp; done) | (simp; omega))) _)))).symm⟩)); clear hK hL K L))
  refine wpOrd_nil ?_
  go_wp2_with fail
  go_ret
  exact ⟨rfl, HB.out.trans ((below_later _ _).mono HB.out.size)⟩
set_option maxHeartbeats 4000000 in
theorem lineQ (d : Int) (nad : Option Addr) (nl ncp : Nat) (kad : Option Addr) (kl kcp : Nat) (m q : Nat) (news : List Value) (x0 y0 xn yn : Nat) (hq : 0 < q) (hq2 : q < 2000) (w : World)
    (hZ : ∀ w, Calls Try.prog 29 #[gv 2 d nad nl ncp kad kl kcp] w (Says (fun _ => True) w))
    (hS : ∀ p w', Below w.heap.size w w' → RowAt w' p 0 [.int .i64 2, .int .i64 d, .slice nad nl ncp, .slice kad kl kcp] → Calls Try.prog 33 #[.slice (some ⟨p, 0, none⟩) 1 1] w' (Says (fun _ => True) w'))
    (hA : ∀ w', Below w.heap.size w w' → Calls Try.prog 34 #[gv 2 d nad nl ncp kad kl kcp, .func (.func 35) #[] #[]] w' (Says (fun _ => True) w'))
    (hN : ∀ w', Below w.heap.size w w' → Calls Try.prog 37 #[gv 2 d nad nl ncp kad kl kcp] w' fun e w'' => ∃ g cp, e = .returned (gv 2 (d % 4) (some ⟨g, 0, none⟩) m cp none 0 0) ∧ RowOf w'' g news ∧ g < w''.heap.size ∧ Below w'.heap.size w' w'')
    (hP : ∀ g cp w', RowOf w' g news → Calls Try.prog 36 #[.slice (some ⟨g, 0, none⟩) m cp, .int .i64 (d % 4)] w' fun e w'' => ∃ gp pc, e = .returned (.slice (some ⟨gp, 0, none⟩) q pc) ∧ w''.cell? ⟨gp, 0, none⟩ = some (.float .f64 x0) ∧ w''.cell? ⟨gp, 1, none⟩ = some (.float .f64 y0) ∧ w''.cell? ⟨gp, (q - 1) * 4, none⟩ = some (.float .f64 xn) ∧ w''.cell? ⟨gp, (q - 1) * 4 + 1, none⟩ = some (.float .f64 yn) ∧ Below w'.heap.size w' w'')
    (hC : ∀ w', Below w.heap.size w w' → Calls Try.prog 38 #[gv 2 d nad nl ncp kad kl kcp] w' fun e w'' => e = .returned (.bool (sameV x0 xn && sameV y0 yn)) ∧ Below w'.heap.size w' w'') :
    Calls Try.prog 9 #[gv 2 d nad nl ncp kad kl kcp] w fun e w' => e = .returned (.bool true) ∧ Below w.heap.size w w' := by
  generalize hb0 : sameV x0 xn = s0 at *
  generalize hb1 : sameV y0 yn = s1 at *
  unfold sameV at hb0 hb1
  replace hC := hid hC
  unfold gv at *
  generalize d % 4 = dm at *
  replace hZ := hid hZ
  replace hS := hid hS
  replace hA := hid hA
  replace hN := hid hN
  replace hP := hid hP
  have F1 := fld1
  have F2 := fld2
  go_enter Try.func9, Try.ntmps9
  go_wp2_with fail
  refine lettered (R := fun wz => Calls _ _ _ wz _) (fun wz => wz.cell? ⟨w.heap.size, 0, none⟩ = some (.int .i64 2) ∧ wz.cell? ⟨w.heap.size, 1, none⟩ = some (.int .i64 d) ∧ wz.cell? ⟨w.heap.size, 2, none⟩ = some (.slice nad nl ncp) ∧ wz.cell? ⟨w.heap.size, 3, none⟩ = some (.slice kad kl kcp) ∧ w.heap.size + 1 ≤ wz.heap.size ∧ Below w.heap.size w wz) ⟨by go_cell, by go_cell, by go_cell, by go_cell, by simp, by go_grown⟩ ?_
  rintro wz ⟨c00, c01, c02, c03, hsz, hb⟩
  have HB := hid hb
  clear hb
  go_wp2_with (first | (go_at_call 29; (with_reducible refine (hZ.out _).mono ?_); rintro e w' ⟨r, rfl, -, hbl⟩; obtain ⟨nx, rfl⟩ := later1 (lat (wz := wz) (by repeat (first | (with_reducible exact below_later _ _) | (with_reducible exact Below.refl _ _) | (with_reducible assumption) | (with_reducible refine Below.drew ?_) | (with_reducible refine Below.alloc ?_ (by (first | (with_reducible exact Nat.le_refl _) | (with_reducible exact (below_later _ _).size) | omega | (simp; done) | (simp; omega))) _))) hbl); clear hbl; cases r) | (go_at_call 33; (with_reducible refine (hS.out _ _ (by first | exact HB.out | (have hZ := HB.out.trans ((below_later wz nx).mono HB.out.size); repeat' (first | (with_reducible exact hZ) | (with_reducible refine Below.alloc ?_ ?_ _) | (with_reducible refine Below.drew ?_) | (have := hZ.size; simp; omega)))) (row4.2 ⟨by go_cell, by go_cell, by go_cell, by go_cell, trivial⟩)).mono ?_); rintro e w' ⟨r, rfl, -, hbl⟩; obtain ⟨nx, rfl⟩ := later1 (lat (wz := wz) (by repeat (first | (with_reducible exact below_later _ _) | (with_reducible exact Below.refl _ _) | (with_reducible assumption) | (with_reducible refine Below.drew ?_) | (with_reducible refine Below.alloc ?_ (by (first | (with_reducible exact Nat.le_refl _) | (with_reducible exact (below_later _ _).size) | omega | (simp; done) | (simp; omega))) _))) hbl); clear hbl; cases r) | (go_at_call 34; (with_reducible refine (hA.out _ (by first | exact HB.out | (have hZ := HB.out.trans ((below_later wz nx).mono HB.out.size); repeat' (first | (with_reducible exact hZ) | (with_reducible refine Below.alloc ?_ ?_ _) | (with_reducible refine Below.drew ?_) | (have := hZ.size; simp; omega))))).mono ?_); rintro e w' ⟨r, rfl, -, hbl⟩; obtain ⟨nx, rfl⟩ := later1 (lat (wz := wz) (by repeat (first | (with_reducible exact below_later _ _) | (with_reducible exact Below.refl _ _) | (with_reducible assumption) | (with_reducible refine Below.drew ?_) | (with_reducible refine Below.alloc ?_ (by (first | (with_reducible exact Nat.le_refl _) | (with_reducible exact (below_later _ _).size) | omega | (simp; done) | (simp; omega))) _))) hbl); clear hbl; cases r))
  iterate 3
    · go_ret
      exact ⟨rfl, by
        have hB := HB.out.trans ((below_later wz nx).mono HB.out.size)
        repeat' (first | (with_reducible exact hB) | (with_reducible refine Below.setCell ?_ ?_ _) | (with_reducible refine Below.alloc ?_ ?_ _) | (with_reducible refine Below.drew ?_) | omega | (simp; done) | (simp; omega))⟩
  refine wp_region_ord (S := (fun w' => ∃ e, w' = later wz e)) [(0, false), (3, false), (1, true), (2, false), (4, true), (5, false), (6, true), (7, false)] (by kernel_rfl) (by kernel_rfl) (fun _ _ d _ _ h => by cases d <;> exact h) ⟨_, (later_of (by repeat (first | (with_reducible exact below_later _ _) | (with_reducible exact Below.refl _ _) | (with_reducible assumption) | (with_reducible refine Below.drew ?_) | (with_reducible refine Below.alloc ?_ (by (first | (with_reducible exact Nat.le_refl _) | (with_reducible exact (below_later _ _).size) | omega | (simp; done) | (simp; omega))) _)))).symm⟩ ?_
  simp only [pickO, List.filterMap_cons, List.filterMap_nil, List.getElem?_cons_succ, List.getElem?_cons_zero, Option.map_some]
  repeat (first
    | ((with_reducible refine wpOrd_light (fun K hK => ?_)); go_simp; (first | (with_reducible refine hK _ ?_) | (rw [if_neg (by intro h; cases h)]; with_reducible refine hK _ ?_)); clear hK K)
    | ((with_reducible refine wpOrd_heavy (fun K L hK hL => ?_)); go_simp; (first | (with_reducible refine hL _ ?_) | (rw [if_neg (by intro h; cases h)]; with_reducible refine hL _ ?_)); clear hK hL K L)
    | ((with_reducible refine wpOrd_heavy (fun K L hK hL => ?_)); go_simp; (with_reducible refine hK _ _ ?_ ?_); (focus (exact ⟨_, (later_of (by repeat (first | (with_reducible exact below_later _ _) | (with_reducible exact Below.refl _ _) | (with_reducible assumption) | (with_reducible refine Below.drew ?_) | (with_reducible refine Below.alloc ?_ (by (first | (with_reducible exact Nat.le_refl _) | (with_reducible exact (below_later _ _).size) | omega | (simp; done) | (simp; omega))) _)))).symm⟩)); clear hK hL K L)
    | ((with_reducible refine wpOrd_heavy (fun K L hK hL => ?_)); go_simp; go_at_call 37; (with_reducible refine (hN.out _ (by first | exact HB.out | (have hZ := HB.out.trans ((below_later wz nx).mono HB.out.size); repeat' (first | (with_reducible exact hZ) | (with_reducible refine Below.alloc ?_ ?_ _) | (with_reducible refine Below.drew ?_) | (have := hZ.size; simp; omega))))).mono ?_); (fail_if_success (have := R1)); rintro e w' ⟨g, cp, rfl, hrow, hglt, hbl⟩; have R1 := hid hrow; clear hrow; obtain ⟨nx, rfl⟩ := later1 (lat (wz := wz) (by repeat (first | (with_reducible exact below_later _ _) | (with_reducible exact Below.refl _ _) | (with_reducible assumption) | (with_reducible refine Below.drew ?_) | (with_reducible refine Below.alloc ?_ (by (first | (with_reducible exact Nat.le_refl _) | (with_reducible exact (below_later _ _).size) | omega | (simp; done) | (simp; omega))) _))) hbl); clear hbl; go_simp; (with_reducible refine hK _ _ ?_ ?_); (focus (exact ⟨_, (later_of (by repeat (first | (with_reducible exact below_later _ _) | (with_reducible exact Below.refl _ _) | (with_reducible assumption) | (with_reducible refine Below.drew ?_) | (with_reducible refine Below.alloc ?_ (by (first | (with_reducible exact Nat.le_refl _) | (with_reducible exact (below_later _ _).size) | omega | (simp; done) | (simp; omega))) _)))).symm⟩)); clear hK hL K L)
    | ((with_reducible refine wpOrd_heavy (fun K L hK hL => ?_)); go_simp; go_at_call 37; (with_reducible refine (hN.out _ (by first | exact HB.out | (have hZ := HB.out.trans ((below_later wz nx).mono HB.out.size); repeat' (first | (with_reducible exact hZ) | (with_reducible refine Below.alloc ?_ ?_ _) | (with_reducible refine Below.drew ?_) | (have := hZ.size; simp; omega))))).mono ?_); rintro e w' ⟨g', cp', rfl, -, -, hbl⟩; have R2 := hid (R1.out.under hbl hglt); obtain ⟨nx, rfl⟩ := later1 (lat (wz := wz) (by repeat (first | (with_reducible exact below_later _ _) | (with_reducible exact Below.refl _ _) | (with_reducible assumption) | (with_reducible refine Below.drew ?_) | (with_reducible refine Below.alloc ?_ (by (first | (with_reducible exact Nat.le_refl _) | (with_reducible exact (below_later _ _).size) | omega | (simp; done) | (simp; omega))) _))) hbl); clear hbl; go_simp; (with_reducible refine hK _ _ ?_ ?_); (focus (exact ⟨_, (later_of (by repeat (first | (with_reducible exact below_later _ _) | (with_reducible exact Below.refl _ _) | (with_reducible assumption) | (with_reducible refine Below.drew ?_) | (with_reducible refine Below.alloc ?_ (by (first | (with_reducible exact Nat.le_refl _) | (with_reducible exact (below_later _ _).size) | omega | (simp; done) | (simp; omega))) _)))).symm⟩)); clear hK hL K L)
    | ((with_reducible refine wpOrd_heavy (fun K L hK hL => ?_)); go_simp; go_at_call 36; (with_reducible refine (hP.out _ _ _ R2.out).mono ?_); rintro e w' ⟨gp, pc, rfl, p0, p1, p2, p3, hbl⟩; obtain ⟨nx, rfl⟩ := later1 (lat (wz := wz) (by repeat (first | (with_reducible exact below_later _ _) | (with_reducible exact Below.refl _ _) | (with_reducible assumption) | (with_reducible refine Below.drew ?_) | (with_reducible refine Below.alloc ?_ (by (first | (with_reducible exact Nat.le_refl _) | (with_reducible exact (below_later _ _).size) | omega | (simp; done) | (simp; omega))) _))) hbl); clear hbl; go_simp; (with_reducible refine hK _ _ ?_ ?_); (focus (exact ⟨_, (later_of (by repeat (first | (with_reducible exact below_later _ _) | (with_reducible exact Below.refl _ _) | (with_reducible assumption) | (with_reducible refine Below.drew ?_) | (with_reducible refine Below.alloc ?_ (by (first | (with_reducible exact Nat.le_refl _) | (with_reducible exact (below_later _ _).size) | omega | (simp; done) | (simp; omega))) _)))).symm⟩)); clear hK hL K L))
  refine wpOrd_nil ?_
  go_wp2_with fail
  refine lettered (R := fun wz2 => Code.wp _ _ _ _ wz2) (fun wz2 => wz2.cell? ⟨w.heap.size, 0, none⟩ = some (.int .i64 2) ∧ wz2.cell? ⟨w.heap.size, 1, none⟩ = some (.int .i64 d) ∧ wz2.cell? ⟨w.heap.size, 2, none⟩ = some (.slice nad nl ncp) ∧ wz2.cell? ⟨w.heap.size, 3, none⟩ = some (.slice kad kl kcp) ∧ wz2.cell? ⟨gp, 0, none⟩ = some (.float .f64 x0) ∧ wz2.cell? ⟨gp, 1, none⟩ = some (.float .f64 y0) ∧ wz2.cell? ⟨gp, (q - 1) * 4, none⟩ = some (.float .f64 xn) ∧ wz2.cell? ⟨gp, (q - 1) * 4 + 1, none⟩ = some (.float .f64 yn) ∧ w.heap.size < wz2.heap.size ∧ Below w.heap.size w wz2) ⟨by go_cell, by go_cell, by go_cell, by go_cell, p0, p1, p2, p3, by have := (below_later wz nx).size; omega, HB.out.trans ((below_later _ _).mono HB.out.size)⟩ ?_
  rintro wz2 ⟨c2_0_0, c2_0_1, c2_0_2, c2_0_3, u0, u1, u2, u3, hs2_0, hb⟩
  clear HB
  have HB := hid hb
  clear hb
  clear p0 p1 p2 p3
  have j0 : (0 : Int) < (q : Int) := by omega
  have j5 : (1 : Int) ≤ (q : Int) := by omega
  have j6 : 1 ≤ q := by omega
  have j1 : (0 : Int) ≤ (q : Int) - 1 := by omega
  have j2 : (q : Int) - 1 < (q : Int) := by omega
  have j3 : IntKind.i64.wrap ((q : Int) - 1) = (q : Int) - 1 := IntWalk.i64_in _ (by omega)
  cases s0 <;> cases s1
  all_goals
    refine wp_region_ord (S := (fun w' => ∃ e, w' = later wz2 e)) [(0, false), (2, false), (3, false), (1, true), (4, false), (5, false), (6, false), (7, false), (8, false), (9, false), (10, false), (11, false), (12, false), (13, false), (14, false), (15, false), (16, false), (17, false), (18, false), (19, false), (20, false), (21, false), (22, false), (23, false), (24, false), (25, false), (26, false), (27, false), (28, false), (29, false), (30, false), (31, false)] (by kernel_rfl) (by kernel_rfl) (fun _ _ d _ _ h => by cases d <;> exact h) ⟨_, (later_of (by repeat (first | (with_reducible exact below_later _ _) | (with_reducible exact Below.refl _ _) | (with_reducible assumption) | (with_reducible refine Below.drew ?_) | (with_reducible refine Below.alloc ?_ (by (first | (with_reducible exact Nat.le_refl _) | (with_reducible exact (below_later _ _).size) | omega | (simp; done) | (simp; omega))) _)))).symm⟩ ?_
    simp only [pickO, List.filterMap_cons, List.filterMap_nil, List.getElem?_cons_succ, List.getElem?_cons_zero, Option.map_some]
    repeat (first
      | ((with_reducible refine wpOrd_light (fun K hK => ?_)); go_simp; (first | (with_reducible refine hK _ ?_) | (rw [if_neg (by intro h; cases h)]; with_reducible refine hK _ ?_)); clear hK K)
      | ((with_reducible refine wpOrd_heavy (fun K L hK hL => ?_)); go_simp; (first | (with_reducible refine hL _ ?_) | (rw [if_neg (by intro h; cases h)]; with_reducible refine hL _ ?_)); clear hK hL K L)
      | ((with_reducible refine wpOrd_heavy (fun K L hK hL => ?_)); go_simp; (with_reducible refine hK _ _ ?_ ?_); (focus (exact ⟨_, (later_of (by repeat (first | (with_reducible exact below_later _ _) | (with_reducible exact Below.refl _ _) | (with_reducible assumption) | (with_reducible refine Below.drew ?_) | (with_reducible refine Below.alloc ?_ (by (first | (with_reducible exact Nat.le_refl _) | (with_reducible exact (below_later _ _).size) | omega | (simp; done) | (simp; omega))) _)))).symm⟩)); clear hK hL K L)
      | ((with_reducible refine wpOrd_heavy (fun K L hK hL => ?_)); go_simp; go_at_call 38; (with_reducible refine (hC.out _ (by first | exact HB.out.drew | exact HB.out | exact HB.out.trans ((below_later _ _).mono HB.out.size))).mono ?_); rintro e w' ⟨rfl, hbl⟩; obtain ⟨nx, rfl⟩ := later1 (lat (wz := wz2) (by repeat (first | (with_reducible exact below_later _ _) | (with_reducible exact Below.refl _ _) | (with_reducible assumption) | (with_reducible refine Below.drew ?_) | (with_reducible refine Below.alloc ?_ (by (first | (with_reducible exact Nat.le_refl _) | (with_reducible exact (below_later _ _).size) | omega | (simp; done) | (simp; omega))) _))) hbl); clear hbl; go_simp; (with_reducible refine hK _ _ ?_ ?_); (focus (exact ⟨_, (later_of (by repeat (first | (with_reducible exact below_later _ _) | (with_reducible exact Below.refl _ _) | (with_reducible assumption) | (with_reducible refine Below.drew ?_) | (with_reducible refine Below.alloc ?_ (by (first | (with_reducible exact Nat.le_refl _) | (with_reducible exact (below_later _ _).size) | omega | (simp; done) | (simp; omega))) _)))).symm⟩)); clear hK hL K L))
    refine wpOrd_nil ?_
    go_wp2_with fail
    go_ret
    exact ⟨rfl, HB.out.trans ((below_later _ _).mono HB.out.size)⟩
theorem taken (xs : List Nat) (m i : Nat) (hi : i < m) (hm : m ≤ xs.length) : ((xs.take m).map (Value.float .f64))[i]? = some (.float .f64 (xs.getD i 0)) := by
  rw [List.getElem?_map, List.getElem?_take, if_pos hi, List.getD_eq_getElem?_getD, List.getElem?_eq_getElem (by omega)]
  rfl
theorem flat4 (f : Nat → List Value) (hf : ∀ k, (f k).length = 4) : ∀ (q k r : Nat), k < q → r < 4 → ((List.range q).flatMap f)[k * 4 + r]? = (f k)[r]?
  | 0, _, _, h, _ => absurd h (by omega)
  | q + 1, k, r, hk, hr => by
    have hlen : ∀ q, ((List.range q).flatMap f).length = q * 4 := by
      intro q
      induction q with
      | zero => simp
      | succ q ih => rw [List.range_succ, List.flatMap_append, List.length_append, ih, List.flatMap_singleton, hf]; omega
    rw [List.range_succ, List.flatMap_append, List.flatMap_singleton]
    rcases Nat.lt_or_ge k q with h | h
    · rw [List.getElem?_append_left (by rw [hlen]; omega)]
      exact flat4 f hf q k r h hr
    · obtain rfl : k = q := by omega
      rw [List.getElem?_append_right (by rw [hlen]; omega), hlen]
      congr 1
      omega
theorem placesAt (d : Int) (h : isDim d) (g cp m q : Nat) (xs : List Nat) (hm : m = q * widthN d) (hq : 0 < q) (hml : m ≤ xs.length) (hxl : xs.length < 2000) (w : World) (hR : RowOf w g ((xs.take m).map (Value.float .f64))) :
    Calls Try.prog 36 #[.slice (some ⟨g, 0, none⟩) m cp, .int .i64 d] w fun e w'' => ∃ gp pc, e = .returned (.slice (some ⟨gp, 0, none⟩) q pc) ∧ w''.cell? ⟨gp, 0, none⟩ = some (.float .f64 (xs.getD 0 0)) ∧ w''.cell? ⟨gp, 1, none⟩ = some (.float .f64 (xs.getD 1 0)) ∧ w''.cell? ⟨gp, (q - 1) * 4, none⟩ = some (.float .f64 (xs.getD ((q - 1) * widthN d) 0)) ∧ w''.cell? ⟨gp, (q - 1) * 4 + 1, none⟩ = some (.float .f64 (xs.getD ((q - 1) * widthN d + 1) 0)) ∧ Below w.heap.size w w'' := by
  have hlen : (xs.take m).length = m := by rw [List.length_take]; exact Nat.min_eq_left hml
  have hwp := widthN_pos d
  have hdiv : m / widthN d = q := by rw [hm]; exact Nat.mul_div_cancel _ (by omega)
  have P := places d h (some ⟨g, 0, none⟩) cp (xs.take m) (by omega) w (fun i x hx => ⟨g, 0, rfl, by rw [Nat.zero_add]; exact hR i _ (by rw [List.getElem?_map, hx]; rfl)⟩)
  rw [hlen, hdiv] at P
  refine P.mono fun e w' ⟨v, he, hown, hb⟩ => ?_
  subst he
  have hown0 := hown
  obtain ⟨_, hv | ⟨gp, cap, cur, rfl, _⟩⟩ := hown0
  · exact absurd hv.2 (by omega)
  · have C := hown.cells (g := gp) rfl
    have key : ∀ k r u, k < q → r < 4 → (placeAt (widthN d) (zB d) (mB d) (xs.take m) k)[r]? = some u → w'.cell? ⟨gp, k * 4 + r, none⟩ = some u := by
      intro k r u hk hr hu
      have := C (k * 4 + r) u (by unfold placesOf; rw [hlen, hdiv, flat4 _ (fun _ => rfl) q k r hk hr]; exact hu)
      rw [add_plain0, Nat.zero_add] at this
      exact this
    have tk : ∀ i, i < m → (xs.take m).getD i 0 = xs.getD i 0 := fun i hi => by
      rw [List.getD_eq_getElem?_getD, List.getD_eq_getElem?_getD, List.getElem?_take, if_pos hi]
    have hqm : q * 2 ≤ m := by rw [hm]; exact Nat.mul_le_mul_left q hwp.1
    have hq1 : (q - 1) * widthN d + 1 < m := by
      have : q * widthN d = (q - 1) * widthN d + widthN d := by
        obtain ⟨p, rfl⟩ : ∃ p, q = p + 1 := ⟨q - 1, by omega⟩
        rw [Nat.add_sub_cancel, Nat.succ_mul]
      omega
    refine ⟨gp, cap, rfl, ?_, ?_, ?_, ?_, hb⟩
    · have := key 0 0 _ hq (by omega) rfl
      rw [Nat.zero_mul, Nat.zero_mul, tk 0 (by omega)] at this
      exact this
    · have := key 0 1 _ hq (by omega) rfl
      rw [Nat.zero_mul, Nat.zero_mul, Nat.zero_add, tk 1 (by omega)] at this
      exact this
    · have := key (q - 1) 0 _ (by omega) (by omega) rfl
      rw [Nat.add_zero, tk _ (by omega)] at this
      exact this
    · have := key (q - 1) 1 _ (by omega) (by omega) rfl
      rw [tk _ (by omega)] at this
      exact this
theorem walk (n : Nat) (k d : Int) (nad : Option Addr) (ncp : Nat) (xs : List Nat) (kad : Option Addr) (kcp : Nat) (ks : List Value) (w : World) (ho : Own w k d nad ncp xs kad kcp ks) (hk : ∀ u ∈ ks, GeoAt w n u) :
    Calls Try.prog 9 #[gv k d nad xs.length ncp kad ks.length kcp] w fun e w' => e = .returned (.bool true) ∧ Below w.heap.size w w' := by
  by_cases hk2 : k = 2
  · subst hk2
    by_cases hxl : xs.length < 2000
    · have hZ := fun w => zzFits2 2 d nad ncp xs kad kcp ks w
      have hS : ∀ p w', Below w.heap.size w w' → RowAt w' p 0 [.int .i64 2, .int .i64 d, .slice nad xs.length ncp, .slice kad ks.length kcp] → Calls Try.prog 33 #[.slice (some ⟨p, 0, none⟩) 1 1] w' (Says (fun _ => True) w') := fun p w' hb hr =>
        (gSmall 2 d nad ncp xs kad kcp ks n p 1 w' (ho.below hb) (fun u hu => (hk u hu).below hb) hr).mono fun _ _ ⟨r, a, _, c⟩ => ⟨r, a, trivial, c⟩
      have hA : ∀ w', Below w.heap.size w w' → Calls Try.prog 34 #[gv 2 d nad xs.length ncp kad ks.length kcp, .func (.func 35) #[] #[]] w' (Says (fun _ => True) w') := fun w' hb =>
        (gAll n 2 d nad ncp xs kad kcp ks w' (ho.below hb) (fun u hu => (hk u hu).below hb)).mono fun _ _ ⟨r, a, _, c⟩ => ⟨r, a, trivial, c⟩
      by_cases hq0 : xs.length / widthN d = 0
      · refine line0 d nad xs.length ncp kad ks.length kcp w hZ hS hA ?_ ?_
        · intro w'
          cases nad with
          | none =>
            have h0 : xs.length = 0 := by
              rcases Nat.eq_zero_or_pos xs.length with h | h
              · exact h
              · obtain ⟨b, off, e, _⟩ := ho.nums 0 _ (List.getElem?_eq_getElem h)
                cases e
            rw [h0, ho.nNil rfl]
            exact newLineN d kad ks.length kcp w'
          | some ad => exact newLineZ d ad xs.length ncp hq0 kad ks.length kcp w'
        · intro w' hb
          refine isClosed d nad xs.length ncp kad ks.length kcp 0 [] false w' (fun w2 hb2 => ?_) (fun g w2 _ => lsClosed0 (d % 4) (isDim4 d) _ _ w2)
          exact (sequence0 d nad ncp xs hxl hq0 w2).mono fun e w3 ⟨g, a, b, c, e'⟩ => ⟨g, a, fun j u hu => by simp at hu, b, c, e'⟩
      · have hw4 : widthN (d % 4) = widthN d := by unfold widthN; rw [Int.emod_emod]
        have hwp := widthN_pos d
        obtain ⟨q, hqd⟩ : ∃ q, q = xs.length / widthN d := ⟨_, rfl⟩
        obtain ⟨m, hmd⟩ : ∃ m, m = q * widthN d := ⟨_, rfl⟩
        have hq : 0 < q := by omega
        have hml : m ≤ xs.length := by rw [hmd, hqd]; exact Nat.div_mul_le_self _ _
        have hq2m : q * 2 ≤ m := by rw [hmd]; exact Nat.mul_le_mul_left q hwp.1
        have hlast : (q - 1) * widthN d + 1 < m := by
          have : q * widthN d = (q - 1) * widthN d + widthN d := by
            obtain ⟨p, rfl⟩ : ∃ p, q = p + 1 := ⟨q - 1, by omega⟩
            rw [Nat.add_sub_cancel, Nat.succ_mul]
          omega
        have h0 : 0 < xs.length := by omega
        obtain ⟨b, off, rfl, _⟩ := ho.nums 0 _ (List.getElem?_eq_getElem h0)
        refine lineQ d _ xs.length ncp kad ks.length kcp m q ((xs.take m).map (Value.float .f64)) (xs.getD 0 0) (xs.getD 1 0) (xs.getD ((q - 1) * widthN d) 0) (xs.getD ((q - 1) * widthN d + 1) 0) hq (by omega) w hZ hS hA ?_ ?_ ?_
        · intro w' hb
          exact (newLineC d b off xs.length ncp kad ks.length kcp xs rfl hxl ho.nCap ho.nMax m (by rw [hmd, hqd]) (by omega) w' (ho.nums.below hb)).mono fun e w'' ⟨g, cp, a, r, _, _, c, z⟩ => ⟨g, cp, a, r, c, z⟩
        · intro g cp w' hr
          have := placesAt (d % 4) (isDim4 d) g cp m q xs (by rw [hw4]; exact hmd) hq hml hxl w' hr
          rw [hw4] at this
          exact this
        · intro w' hb
          refine isClosed d _ xs.length ncp kad ks.length kcp m ((xs.take m).map (Value.float .f64)) _ w' (fun w2 hb2 => sequenceC d b off ncp xs hxl q m hqd hmd (by omega) w2 ((ho.nums.below hb).below hb2)) (fun g w2 hr => lsClosed (d % 4) (isDim4 d) g m m q (by rw [hw4]; exact hmd) hq ((xs.take m).map (Value.float .f64)) _ _ _ _ ?_ ?_ ?_ ?_ ?_ (by omega) w2 hr)
          · rw [Nat.zero_mul]; exact taken xs m 0 (by omega) hml
          · rw [Nat.zero_mul, Nat.zero_add]; exact taken xs m 1 (by omega) hml
          · rw [hw4]; exact taken xs m _ (by omega) hml
          · rw [hw4]; exact taken xs m _ hlast hml
          · rw [List.length_map, List.length_take]; exact Nat.min_eq_left hml
    · exact long n 2 d nad ncp xs kad kcp ks w hxl ho hk
  · exact other n k d nad ncp xs kad kcp ks w hk2 ho hk
set_option maxRecDepth 100000 in
theorem lifted (os : Os) (started : os.Started) (H : Type) (enc : TypeId × Value → H) :
    ReturnsInHanded {} Try.checked os 9 .any (Rows.fnClosedSpec.pre6 enc Try.prog Try.f9 Rows.fnClosedRow.domain false) (Rows.fnClosedSpec.post enc Try.prog Try.f9 false true false false) := by
  refine returnsInHanded_of_change (C := Try.checked) own started (by kernel_rfl) Try.func9
    (ChangeSpec.witness6 (enc := enc) (C := Try.checked) false ⟨#[], #[.agg #[.int .i64 0, .int .i64 0, .slice none 0 0, .slice none 0 0]], []⟩ 16 (by kernel_rfl) (by kernel_rfl) (by kernel_rfl) (by kernel_rfl)) ?_
  intro W base args ds gs before hval0 hW hcnd _
  have hval : ∀ (j : Nat) t v, Try.f9.params[j]? = some t → args[j]? = some v → Value.okWide Try.prog W .any base t v := hval0
  have hW' := hW
  obtain ⟨p, q, hA0, hV, rfl, hfz, hnd⟩ := hW
  have hA : DataW.TrodAll enc Try.prog W 0 (fun _ => true) true Try.f9.params.toList args.toList ds p := hA0
  rw [Try.params9] at hA hval
  obtain ⟨v0, vs0, d0, ds0, p0, q0, hargs, rfl, rfl, h0, r0⟩ := trodAll_cons hA
  obtain ⟨rfl, rfl, rfl⟩ := trodAll_nil r0
  obtain rfl : args = #[v0] := by cases args; simp_all
  obtain ⟨rfl, rfl⟩ := trodVars_none hV
  have lt0 : ∀ x ∈ p0, x.block < W.heap.size := by obtain ⟨m, hm⟩ := h0; exact DataW.trod_lt m _ _ _ hm
  obtain ⟨n, hg⟩ := readGeom (hval 0 _ _ rfl rfl) h0
  cases n with
  | zero => exact hg.elim
  | succ n =>
  obtain ⟨gk, gd, nad, ncp, xs, kad, kcp, ks, rfl, ho, hk⟩ := hg
  clear hA0 hval0
  refine (walk n gk gd nad ncp xs kad kcp ks W ho hk).mono fun e W' ⟨he, bel⟩ => ?_
  subst he
  exact ⟨_, rfl, _, _, _, [], _, [], hW', trodAll_mk1 (shut_bool Try.underlying4 _), (trodAll_cons_mk (Below.trod laidOut (by kernel_rfl) (of_decide_eq_true (by kernel_rfl)) h0 bel lt0) trodAll_mk0), rfl, bel.frame _, fun h => by cases h⟩

theorem over : Rows.fnClosedRow.holds Try.pinned (OpenSpec.ofChange Rows.fnClosedSpec) :=
  OpenClaim.holds_of_wide 9 Try.f9 rfl rfl rfl rfl rfl rfl rfl ⟨rfl, rfl, rfl, rfl, rfl⟩ rfl rfl rfl rfl rfl (by kernel_rfl) Try.func9 (by kernel_rfl)
    (of_decide_eq_true (by kernel_rfl)) (by unfold Func.isWrapper; first | (rw [if_pos (by decide +kernel)]; kernel_rfl) | (rw [if_neg (by decide +kernel)]; exact ⟨rfl, rfl⟩))
    (fun os started H enc _ => lifted os started H enc)

theorem proved : Rows.FnClosedSaid := over
end fnClosed
end Go.Proofs.Ytbcjlgkdmkehlaa
