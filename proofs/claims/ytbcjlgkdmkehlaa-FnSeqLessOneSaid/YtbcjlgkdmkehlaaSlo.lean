/- The law FnSeqLessOne holds of every two geometries: of two sequences without NaN one at most is less, and if neither is, they are as long and have the same X and Y. The call returns true and leaves memory as it was. Conditions: none. -/
import Derived.Test.YtbcjlgkdmkehlaaRows
import Derived.Test.YtbcjlgkdmkehlaaOrd
import Derived.Test.YtbcjlgkdmkehlaaAll
namespace Go.Proofs.Ytbcjlgkdmkehlaa
open Go.ChangeShapes Go.WideShapes Go.ChangeAt Go.RowKit Fl
set_option maxRecDepth 100000
set_option linter.unusedSimpArgs false
namespace fnSeqLessOne
theorem nanAt (d : Int) (xs : List Nat) (h : ∀ x, x ∈ xs → nanB x = false) (i : Nat) (hi : i < xs.length / widthN d) : nanB (xAt d xs i) = false ∧ nanB (yAt d xs i) = false := by
  have hml := Nat.div_mul_le_self xs.length (widthN d)
  have h1 : (i + 1) * widthN d ≤ xs.length / widthN d * widthN d := Nat.mul_le_mul_right _ hi
  have := widthN_pos d
  rw [Nat.succ_mul] at h1
  have key : ∀ j, j < xs.length → nanB (xs.getD j 0) = false := fun j hj => by
    rw [List.getD_eq_getElem?_getD, List.getElem?_eq_getElem hj]
    exact h _ (List.getElem_mem hj)
  exact ⟨key _ (by omega), key _ (by omega)⟩
set_option maxHeartbeats 2000000 in
theorem walk (n1 n2 : Nat) (k1 d1 : Int) (nad1 : Option Addr) (ncp1 : Nat) (xs : List Nat) (kad1 : Option Addr) (kcp1 : Nat) (ks1 : List Value) (k2 d2 : Int) (nad2 : Option Addr) (ncp2 : Nat) (ys : List Nat) (kad2 : Option Addr) (kcp2 : Nat) (ks2 : List Value) (w : World)
    (ho1 : Own w k1 d1 nad1 ncp1 xs kad1 kcp1 ks1) (hk1 : ∀ u ∈ ks1, GeoAt w n1 u) (ho2 : Own w k2 d2 nad2 ncp2 ys kad2 kcp2 ks2) (hk2 : ∀ u ∈ ks2, GeoAt w n2 u) :
    Calls Try.prog 10 #[gv k1 d1 nad1 xs.length ncp1 kad1 ks1.length kcp1, gv k2 d2 nad2 ys.length ncp2 kad2 ks2.length kcp2] w fun e w' => e = .returned (.bool true) ∧ Below w.heap.size w w' := by
  have Z1 := hid (fun w => zzFits2 k1 d1 nad1 ncp1 xs kad1 kcp1 ks1 w)
  have Z2 := hid (fun w => zzFits2 k2 d2 nad2 ncp2 ys kad2 kcp2 ks2 w)
  have GL1 := hid (fun w' (hb : Below w.heap.size w w') => gLine n1 k1 d1 nad1 ncp1 xs kad1 kcp1 ks1 w' (ho1.below hb) (fun u hu => (hk1 u hu).below hb))
  have GL2 := hid (fun w' (hb : Below w.heap.size w w') => gLine n2 k2 d2 nad2 ncp2 ys kad2 kcp2 ks2 w' (ho2.below hb) (fun u hu => (hk2 u hu).below hb))
  have GA1 := hid (fun w' (hb : Below w.heap.size w w') => gAll n1 k1 d1 nad1 ncp1 xs kad1 kcp1 ks1 w' (ho1.below hb) (fun u hu => (hk1 u hu).below hb))
  have GA2 := hid (fun w' (hb : Below w.heap.size w w') => gAll n2 k2 d2 nad2 ncp2 ys kad2 kcp2 ks2 w' (ho2.below hb) (fun u hu => (hk2 u hu).below hb))
  have F1 := hid ho1.nums
  have F2 := hid ho2.nums
  unfold gv at *
  clear ho1 hk1 ho2 hk2
  go_enter Try.func10, Try.ntmps10
  go_wp2_with fail
  refine lettered (R := fun wz => Calls _ _ _ wz _) (fun wz => wz.cell? ⟨w.heap.size, 0, none⟩ = some (.int .i64 k1) ∧ wz.cell? ⟨w.heap.size, 1, none⟩ = some (.int .i64 d1) ∧ wz.cell? ⟨w.heap.size, 2, none⟩ = some (.slice nad1 xs.length ncp1) ∧ wz.cell? ⟨w.heap.size, 3, none⟩ = some (.slice kad1 ks1.length kcp1) ∧ wz.cell? ⟨w.heap.size + 1, 0, none⟩ = some (.int .i64 k2) ∧ wz.cell? ⟨w.heap.size + 1, 1, none⟩ = some (.int .i64 d2) ∧ wz.cell? ⟨w.heap.size + 1, 2, none⟩ = some (.slice nad2 ys.length ncp2) ∧ wz.cell? ⟨w.heap.size + 1, 3, none⟩ = some (.slice kad2 ks2.length kcp2) ∧ w.heap.size + 2 ≤ wz.heap.size ∧ Below w.heap.size w wz) ⟨by go_cell, by go_cell, by go_cell, by go_cell, by go_cell, by go_cell, by go_cell, by go_cell, by simp, by go_grown⟩ ?_
  rintro wz ⟨c00, c01, c02, c03, c10, c11, c12, c13, hsz, hb⟩
  have HB := hid hb
  clear hb
  go_wp2_with (first | (go_at_call 29; (with_reducible refine (Z1.out _).mono ?_); rintro e w' ⟨r, rfl, -, hbl⟩; obtain ⟨nx, rfl⟩ := later1 (lat (wz := wz) (by repeat (first | (with_reducible exact below_later _ _) | (with_reducible exact Below.refl _ _) | (with_reducible assumption) | (with_reducible refine Below.drew ?_) | (with_reducible refine Below.alloc ?_ (by (first | (with_reducible exact Nat.le_refl _) | (with_reducible exact (below_later _ _).size) | omega | (simp; done) | (simp; omega))) _))) hbl); clear hbl; cases r) | (go_at_call 29; (with_reducible refine (Z2.out _).mono ?_); rintro e w' ⟨r, rfl, -, hbl⟩; obtain ⟨nx, rfl⟩ := later1 (lat (wz := wz) (by repeat (first | (with_reducible exact below_later _ _) | (with_reducible exact Below.refl _ _) | (with_reducible assumption) | (with_reducible refine Below.drew ?_) | (with_reducible refine Below.alloc ?_ (by (first | (with_reducible exact Nat.le_refl _) | (with_reducible exact (below_later _ _).size) | omega | (simp; done) | (simp; omega))) _))) hbl); clear hbl; cases r) | (go_at_call 30; (with_reducible refine (GL1.out _ (by first | exact HB.out | exact HB.out.trans ((below_later wz nx).mono HB.out.size))).mono ?_); rintro e w' ⟨a1, q1, c1, b1, rfl, hs1, hbl⟩; obtain ⟨nx, rfl⟩ := later1 (lat (wz := wz) (by repeat (first | (with_reducible exact below_later _ _) | (with_reducible exact Below.refl _ _) | (with_reducible assumption) | (with_reducible refine Below.drew ?_) | (with_reducible refine Below.alloc ?_ (by (first | (with_reducible exact Nat.le_refl _) | (with_reducible exact (below_later _ _).size) | omega | (simp; done) | (simp; omega))) _))) hbl); clear hbl; replace hs1 := hid hs1; cases b1) | (go_at_call 30; (with_reducible refine (GL2.out _ (by first | exact HB.out | exact HB.out.trans ((below_later wz nx).mono HB.out.size))).mono ?_); rintro e w' ⟨a2, q2, c2, b2, rfl, hs2, hbl⟩; have hx1 := hid (fun h => (hs1.out h).2.2.2.below hbl); obtain ⟨nx, rfl⟩ := later1 (lat (wz := wz) (by repeat (first | (with_reducible exact below_later _ _) | (with_reducible exact Below.refl _ _) | (with_reducible assumption) | (with_reducible refine Below.drew ?_) | (with_reducible refine Below.alloc ?_ (by (first | (with_reducible exact Nat.le_refl _) | (with_reducible exact (below_later _ _).size) | omega | (simp; done) | (simp; omega))) _))) hbl); clear hbl; replace hs2 := hid hs2; cases b2) | (go_at_call 34; (with_reducible refine (GA1.out _ (by first | exact HB.out | exact HB.out.trans ((below_later wz nx).mono HB.out.size))).mono ?_); rintro e w' ⟨r1, rfl, hm1, hbl⟩; have hx1 := hid (fun h => (hx1.out h).below hbl); have hx2 := hid (fun h => (hs2.out h).2.2.2.below hbl); obtain ⟨nx, rfl⟩ := later1 (lat (wz := wz) (by repeat (first | (with_reducible exact below_later _ _) | (with_reducible exact Below.refl _ _) | (with_reducible assumption) | (with_reducible refine Below.drew ?_) | (with_reducible refine Below.alloc ?_ (by (first | (with_reducible exact Nat.le_refl _) | (with_reducible exact (below_later _ _).size) | omega | (simp; done) | (simp; omega))) _))) hbl); clear hbl; replace hm1 := hid hm1; cases r1) | (go_at_call 34; (with_reducible refine (GA2.out _ (by first | exact HB.out | exact HB.out.trans ((below_later wz nx).mono HB.out.size))).mono ?_); rintro e w' ⟨r2, rfl, hm2, hbl⟩; have hx1 := hid (fun h => (hx1.out h).below hbl); have hx2 := hid (fun h => (hx2.out h).below hbl); obtain ⟨nx, rfl⟩ := later1 (lat (wz := wz) (by repeat (first | (with_reducible exact below_later _ _) | (with_reducible exact Below.refl _ _) | (with_reducible assumption) | (with_reducible refine Below.drew ?_) | (with_reducible refine Below.alloc ?_ (by (first | (with_reducible exact Nat.le_refl _) | (with_reducible exact (below_later _ _).size) | omega | (simp; done) | (simp; omega))) _))) hbl); clear hbl; replace hm2 := hid hm2; cases r2))
  all_goals first
  | (go_ret; exact ⟨rfl, HB.out.trans ((below_later _ _).mono HB.out.size)⟩)
  | skip
  obtain ⟨rfl, hxl, hq1, -⟩ := hs1.out trivial
  obtain ⟨rfl, hyl, hq2, -⟩ := hs2.out trivial
  have hX1 : Hid (XYAt (later wz nx) a1 q1 (xAt d1 xs) (yAt d1 xs)) := hid (hx1.out trivial)
  have hX2 : Hid (XYAt (later wz nx) a2 q2 (xAt d2 ys) (yAt d2 ys)) := hid (hx2.out trivial)
  have N1 : Hid (∀ i, i < q1 → nanB (xAt d1 xs i) = false ∧ nanB (yAt d1 xs i) = false) := hid (fun i hi => nanAt d1 xs (hm1.out trivial) i (by rw [← hq1]; exact hi))
  have N2 : Hid (∀ i, i < q2 → nanB (xAt d2 ys i) = false ∧ nanB (yAt d2 ys i) = false) := hid (fun i hi => nanAt d2 ys (hm2.out trivial) i (by rw [← hq2]; exact hi))
  have SL1 := fun w' (hb : Below w.heap.size w w') => seqLess d1 d2 nad1 nad2 ncp1 ncp2 xs ys kad1 kad2 ks1.length kcp1 ks2.length kcp2 hxl hyl w' (F1.out.below hb) (F2.out.below hb)
  have SL2 := fun w' (hb : Below w.heap.size w w') => seqLess d2 d1 nad2 nad1 ncp2 ncp1 ys xs kad2 kad1 ks2.length kcp2 ks1.length kcp1 hyl hxl w' (F2.out.below hb) (F1.out.below hb)
  rw [← hq1, ← hq2] at SL1 SL2
  unfold gv at SL1 SL2
  replace SL1 := hid SL1
  replace SL2 := hid SL2
  have hq1l : q1 < 2000 := by rw [hq1]; exact Nat.lt_of_le_of_lt (Nat.div_le_self _ _) hxl
  clear hs1 hs2 hx1 hx2 hm1 hm2 hq1 hq2 GL1 GL2 GA1 GA2 Z1 Z2 F1 F2
  generalize xAt d1 xs = X1 at *
  generalize yAt d1 xs = Y1 at *
  generalize xAt d2 ys = X2 at *
  generalize yAt d2 ys = Y2 at *
  go_loopw [10, 9] (fun iv sv wr => ∃ (i : Nat) (s : Bool), i ≤ q1 ∧ iv = .int .i64 i ∧ sv = .bool s ∧ Hid (s = true → q1 = q2 ∧ ∀ j, j < i → (sameV (X1 j) (X2 j) && sameV (Y1 j) (Y2 j)) = true) ∧ Hid (s = false → SameR q1 q2 X1 Y1 X2 Y2 false) ∧ w.heap.size + 2 ≤ wr.heap.size ∧ Below w.heap.size w wr ∧ Hid (XYAt wr a1 q1 X1 Y1) ∧ Hid (XYAt wr a2 q2 X2 Y2) ∧ RowAt wr w.heap.size 0 [.int .i64 2, .int .i64 d1, .slice nad1 xs.length ncp1, .slice kad1 ks1.length kcp1] ∧ RowAt wr (w.heap.size + 1) 0 [.int .i64 2, .int .i64 d2, .slice nad2 ys.length ncp2, .slice kad2 ks2.length kcp2])
    (fun iv _ _ => q1 - (intOf iv).toNat)
  case atStart => exact ⟨0, _, Nat.zero_le _, rfl, rfl, hid (fun h => ⟨by simp at h; omega, fun j hj => absurd hj (by omega)⟩), hid (fun h => ⟨fun e => Bool.noConfusion e, fun e => absurd e.1 (by simp at h; omega)⟩), by have := (below_later wz nx).size; omega, HB.out.trans ((below_later _ _).mono HB.out.size), hX1, hX2, row4.2 ⟨by go_cell, by go_cell, by go_cell, by go_cell, trivial⟩, row4.2 ⟨by go_cell, by go_cell, by go_cell, by go_cell, trivial⟩⟩
  case round =>
    obtain ⟨i, s, hi1, rfl, rfl, hok, hno, hsz2, hbl, hY1, hY2, hr1, hr2⟩ := hrel
    obtain ⟨e00, e01, e02, e03, -⟩ := row4.1 hr1
    obtain ⟨e10, e11, e12, e13, -⟩ := row4.1 hr2
    clear hr1 hr2 c00 c01 c02 c03 c10 c11 c12 c13 HB hsz hX1 hX2
    have HB := hid hbl
    clear hbl
    cases s with
    | false =>
      have hS := hid (hno.out rfl)
      go_wp2_with fail
      refine wp_region_ord (S := (fun w' => ∃ e, w' = later wr e)) [(0, false), (1, false), (3, false), (4, false), (2, true), (5, true), (6, false), (7, false)] (by kernel_rfl) (by kernel_rfl) (fun _ _ d _ _ h => by cases d <;> exact h) ⟨_, (later_of (by repeat (first | (with_reducible exact below_later _ _) | (with_reducible exact Below.refl _ _) | (with_reducible assumption) | (with_reducible refine Below.drew ?_) | (with_reducible refine Below.alloc ?_ (by (first | (with_reducible exact Nat.le_refl _) | (with_reducible exact (below_later _ _).size) | omega | (simp; done) | (simp; omega))) _)))).symm⟩ ?_
      simp only [pickO, List.filterMap_cons, List.filterMap_nil, List.getElem?_cons_succ, List.getElem?_cons_zero, Option.map_some]
      repeat (first
        | ((with_reducible refine wpOrd_light (fun K hK => ?_)); go_simp; (first | (with_reducible refine hK _ ?_) | (rw [if_neg (by intro h; cases h)]; with_reducible refine hK _ ?_)); clear hK K)
        | ((with_reducible refine wpOrd_heavy (fun K L hK hL => ?_)); go_simp; (first | (with_reducible refine hL _ ?_) | (rw [if_neg (by intro h; cases h)]; with_reducible refine hL _ ?_)); clear hK hL K L)
        | ((with_reducible refine wpOrd_heavy (fun K L hK hL => ?_)); go_simp; (with_reducible refine hK _ _ ?_ ?_); (focus (exact ⟨_, (later_of (by repeat (first | (with_reducible exact below_later _ _) | (with_reducible exact Below.refl _ _) | (with_reducible assumption) | (with_reducible refine Below.drew ?_) | (with_reducible refine Below.alloc ?_ (by (first | (with_reducible exact Nat.le_refl _) | (with_reducible exact (below_later _ _).size) | omega | (simp; done) | (simp; omega))) _)))).symm⟩)); clear hK hL K L)
        | ((with_reducible refine wpOrd_heavy (fun K L hK hL => ?_)); go_simp; go_at_call 39; (with_reducible refine (SL1.out _ (by first | exact HB.out.drew | exact HB.out | exact HB.out.trans ((below_later wr nx).mono HB.out.size))).mono ?_); rintro e w' ⟨l, rfl, hl1, hbl⟩; have HL1 := hid hl1; clear hl1; obtain ⟨nx, rfl⟩ := later1 (lat (wz := wr) (by repeat (first | (with_reducible exact below_later _ _) | (with_reducible exact Below.refl _ _) | (with_reducible assumption) | (with_reducible refine Below.drew ?_) | (with_reducible refine Below.alloc ?_ (by (first | (with_reducible exact Nat.le_refl _) | (with_reducible exact (below_later _ _).size) | omega | (simp; done) | (simp; omega))) _))) hbl); clear hbl; go_simp; (with_reducible refine hK _ _ ?_ ?_); (focus (exact ⟨_, (later_of (by repeat (first | (with_reducible exact below_later _ _) | (with_reducible exact Below.refl _ _) | (with_reducible assumption) | (with_reducible refine Below.drew ?_) | (with_reducible refine Below.alloc ?_ (by (first | (with_reducible exact Nat.le_refl _) | (with_reducible exact (below_later _ _).size) | omega | (simp; done) | (simp; omega))) _)))).symm⟩)); clear hK hL K L)
        | ((with_reducible refine wpOrd_heavy (fun K L hK hL => ?_)); go_simp; go_at_call 39; (with_reducible refine (SL2.out _ (by first | exact HB.out.drew | exact HB.out | exact HB.out.trans ((below_later wr nx).mono HB.out.size))).mono ?_); rintro e w' ⟨m, rfl, hl2, hbl⟩; have HL2 := hid hl2; clear hl2; obtain ⟨nx, rfl⟩ := later1 (lat (wz := wr) (by repeat (first | (with_reducible exact below_later _ _) | (with_reducible exact Below.refl _ _) | (with_reducible assumption) | (with_reducible refine Below.drew ?_) | (with_reducible refine Below.alloc ?_ (by (first | (with_reducible exact Nat.le_refl _) | (with_reducible exact (below_later _ _).size) | omega | (simp; done) | (simp; omega))) _))) hbl); clear hbl; go_simp; (with_reducible refine hK _ _ ?_ ?_); (focus (exact ⟨_, (later_of (by repeat (first | (with_reducible exact below_later _ _) | (with_reducible exact Below.refl _ _) | (with_reducible assumption) | (with_reducible refine Below.drew ?_) | (with_reducible refine Below.alloc ?_ (by (first | (with_reducible exact Nat.le_refl _) | (with_reducible exact (below_later _ _).size) | omega | (simp; done) | (simp; omega))) _)))).symm⟩)); clear hK hL K L))
      refine wpOrd_nil ?_
      obtain ⟨rfl, rfl, hss⟩ | ⟨rfl, rfl, hss⟩ | ⟨rfl, rfl, hss⟩ := lessLaw _ _ _ _ _ _ _ _ _ HL1.out HL2.out hS.out N1.out N2.out
      all_goals first
      | (cases hss; done)
      | (go_wp2_with fail; go_ret; exact ⟨rfl, HB.out.trans ((below_later _ _).mono HB.out.size)⟩)
    | true =>
      obtain ⟨hqq, hall⟩ := hok.out rfl
      by_cases hlt : i < q1
      · have hlt2 : i < q2 := by omega
        have hqh := hid hqq
        clear hqq
        obtain ⟨g1, rfl, u0, u1⟩ := hY1.out i hlt
        obtain ⟨g2, rfl, v0, v1⟩ := hY2.out i hlt2
        have HA := hid hall
        have HY : Hid (∀ s, (sameV (X1 i) (X2 i) && sameV (Y1 i) (Y2 i)) = s → (s = true → q1 = q2 ∧ ∀ j, j < i + 1 → (sameV (X1 j) (X2 j) && sameV (Y1 j) (Y2 j)) = true) ∧ (s = false → SameR q1 q2 X1 Y1 X2 Y2 false)) := hid (fun s hs => ⟨fun ht => ⟨hqh.out, fun j hj => by
            rcases Nat.lt_succ_iff_lt_or_eq.1 hj with h | h
            · exact HA.out j h
            · rw [h, hs, ht]⟩, fun hf => ⟨fun e => Bool.noConfusion e, fun e => by have := e.2 i hlt; rw [hs, hf] at this; cases this⟩⟩)
        have HY' := hid (HY.out _ rfl)
        clear HY hall hok hno
        generalize X1 i = x at *
        generalize Y1 i = y at *
        generalize X2 i = ox at *
        generalize Y2 i = oy at *
        generalize hv0 : sameV x ox = s0 at *
        generalize hv1 : sameV y oy = s1 at *
        unfold sameV at hv0 hv1
        have j0 : (0 : Int) ≤ (i : Int) := by omega
        have j1 : (i : Int) < (q1 : Int) := by omega
        have j2 : (i : Int) < (q2 : Int) := by omega
        have hB2 := HB.out.drew
        cases s0
        all_goals
          go_wp2_with fail
          refine wp_region_ord (S := (fun w' => ∃ e, w' = later wr e)) [(0, false), (1, false), (2, false), (3, false), (4, false), (5, false), (6, false), (7, false), (8, false), (9, false), (10, false), (11, false), (12, false), (13, false), (14, false), (15, false), (16, false), (17, false), (18, false), (19, false), (20, false), (21, false), (22, false), (23, false), (24, false)] (by kernel_rfl) (by kernel_rfl) (fun _ _ d _ _ h => by cases d <;> exact h) ⟨_, (later_of (by repeat (first | (with_reducible exact below_later _ _) | (with_reducible exact Below.refl _ _) | (with_reducible assumption) | (with_reducible refine Below.drew ?_) | (with_reducible refine Below.alloc ?_ (by (first | (with_reducible exact Nat.le_refl _) | (with_reducible exact (below_later _ _).size) | omega | (simp; done) | (simp; omega))) _)))).symm⟩ ?_
          simp only [pickO, List.filterMap_cons, List.filterMap_nil, List.getElem?_cons_succ, List.getElem?_cons_zero, Option.map_some]
          repeat (first
            | ((with_reducible refine wpOrd_light (fun K hK => ?_)); go_simp; (first | (with_reducible refine hK _ ?_) | (rw [if_neg (by intro h; cases h)]; with_reducible refine hK _ ?_)); clear hK K)
            | ((with_reducible refine wpOrd_heavy (fun K L hK hL => ?_)); go_simp; (first | (with_reducible refine hL _ ?_) | (rw [if_neg (by intro h; cases h)]; with_reducible refine hL _ ?_)); clear hK hL K L)
            | ((with_reducible refine wpOrd_heavy (fun K L hK hL => ?_)); go_simp; (with_reducible refine hK _ _ ?_ ?_); (focus (exact ⟨_, (later_of (by repeat (first | (with_reducible exact below_later _ _) | (with_reducible exact Below.refl _ _) | (with_reducible assumption) | (with_reducible refine Below.drew ?_) | (with_reducible refine Below.alloc ?_ (by (first | (with_reducible exact Nat.le_refl _) | (with_reducible exact (below_later _ _).size) | omega | (simp; done) | (simp; omega))) _)))).symm⟩)); clear hK hL K L))
          refine wpOrd_nil ?_
          go_wp2_with fail
          go_roundw
          case rel => exact ⟨i + 1, _, by omega, by go_num, rfl, hid HY'.out.1, hid HY'.out.2, hsz2, HB.out.drew, hid (hY1.out.below (Below.refl _ _).drew), hid (hY2.out.below (Below.refl _ _).drew), row4.2 ⟨by go_cell, by go_cell, by go_cell, by go_cell, trivial⟩, row4.2 ⟨by go_cell, by go_cell, by go_cell, by go_cell, trivial⟩⟩
          case measure => simp [intOf]; omega
      · have hS : Hid (SameR q1 q2 X1 Y1 X2 Y2 true) := hid ⟨fun _ => ⟨hqq, fun j hj => hall j (by omega)⟩, fun _ => rfl⟩
        clear hqq hall
        go_wp2_with fail
        refine wp_region_ord (S := (fun w' => ∃ e, w' = later wr e)) [(0, false), (1, false), (3, false), (4, false), (2, true), (5, true), (6, false), (7, false)] (by kernel_rfl) (by kernel_rfl) (fun _ _ d _ _ h => by cases d <;> exact h) ⟨_, (later_of (by repeat (first | (with_reducible exact below_later _ _) | (with_reducible exact Below.refl _ _) | (with_reducible assumption) | (with_reducible refine Below.drew ?_) | (with_reducible refine Below.alloc ?_ (by (first | (with_reducible exact Nat.le_refl _) | (with_reducible exact (below_later _ _).size) | omega | (simp; done) | (simp; omega))) _)))).symm⟩ ?_
        simp only [pickO, List.filterMap_cons, List.filterMap_nil, List.getElem?_cons_succ, List.getElem?_cons_zero, Option.map_some]
        repeat (first
          | ((with_reducible refine wpOrd_light (fun K hK => ?_)); go_simp; (first | (with_reducible refine hK _ ?_) | (rw [if_neg (by intro h; cases h)]; with_reducible refine hK _ ?_)); clear hK K)
          | ((with_reducible refine wpOrd_heavy (fun K L hK hL => ?_)); go_simp; (first | (with_reducible refine hL _ ?_) | (rw [if_neg (by intro h; cases h)]; with_reducible refine hL _ ?_)); clear hK hL K L)
          | ((with_reducible refine wpOrd_heavy (fun K L hK hL => ?_)); go_simp; (with_reducible refine hK _ _ ?_ ?_); (focus (exact ⟨_, (later_of (by repeat (first | (with_reducible exact below_later _ _) | (with_reducible exact Below.refl _ _) | (with_reducible assumption) | (with_reducible refine Below.drew ?_) | (with_reducible refine Below.alloc ?_ (by (first | (with_reducible exact Nat.le_refl _) | (with_reducible exact (below_later _ _).size) | omega | (simp; done) | (simp; omega))) _)))).symm⟩)); clear hK hL K L)
          | ((with_reducible refine wpOrd_heavy (fun K L hK hL => ?_)); go_simp; go_at_call 39; (with_reducible refine (SL1.out _ (by first | exact HB.out.drew | exact HB.out | exact HB.out.trans ((below_later wr nx).mono HB.out.size))).mono ?_); rintro e w' ⟨l, rfl, hl1, hbl⟩; have HL1 := hid hl1; clear hl1; obtain ⟨nx, rfl⟩ := later1 (lat (wz := wr) (by repeat (first | (with_reducible exact below_later _ _) | (with_reducible exact Below.refl _ _) | (with_reducible assumption) | (with_reducible refine Below.drew ?_) | (with_reducible refine Below.alloc ?_ (by (first | (with_reducible exact Nat.le_refl _) | (with_reducible exact (below_later _ _).size) | omega | (simp; done) | (simp; omega))) _))) hbl); clear hbl; go_simp; (with_reducible refine hK _ _ ?_ ?_); (focus (exact ⟨_, (later_of (by repeat (first | (with_reducible exact below_later _ _) | (with_reducible exact Below.refl _ _) | (with_reducible assumption) | (with_reducible refine Below.drew ?_) | (with_reducible refine Below.alloc ?_ (by (first | (with_reducible exact Nat.le_refl _) | (with_reducible exact (below_later _ _).size) | omega | (simp; done) | (simp; omega))) _)))).symm⟩)); clear hK hL K L)
          | ((with_reducible refine wpOrd_heavy (fun K L hK hL => ?_)); go_simp; go_at_call 39; (with_reducible refine (SL2.out _ (by first | exact HB.out.drew | exact HB.out | exact HB.out.trans ((below_later wr nx).mono HB.out.size))).mono ?_); rintro e w' ⟨m, rfl, hl2, hbl⟩; have HL2 := hid hl2; clear hl2; obtain ⟨nx, rfl⟩ := later1 (lat (wz := wr) (by repeat (first | (with_reducible exact below_later _ _) | (with_reducible exact Below.refl _ _) | (with_reducible assumption) | (with_reducible refine Below.drew ?_) | (with_reducible refine Below.alloc ?_ (by (first | (with_reducible exact Nat.le_refl _) | (with_reducible exact (below_later _ _).size) | omega | (simp; done) | (simp; omega))) _))) hbl); clear hbl; go_simp; (with_reducible refine hK _ _ ?_ ?_); (focus (exact ⟨_, (later_of (by repeat (first | (with_reducible exact below_later _ _) | (with_reducible exact Below.refl _ _) | (with_reducible assumption) | (with_reducible refine Below.drew ?_) | (with_reducible refine Below.alloc ?_ (by (first | (with_reducible exact Nat.le_refl _) | (with_reducible exact (below_later _ _).size) | omega | (simp; done) | (simp; omega))) _)))).symm⟩)); clear hK hL K L))
        refine wpOrd_nil ?_
        obtain ⟨rfl, rfl, hss⟩ | ⟨rfl, rfl, hss⟩ | ⟨rfl, rfl, hss⟩ := lessLaw _ _ _ _ _ _ _ _ _ HL1.out HL2.out hS.out N1.out N2.out
        all_goals first
        | (cases hss; done)
        | (go_wp2_with fail; go_ret; exact ⟨rfl, HB.out.trans ((below_later _ _).mono HB.out.size)⟩)
set_option maxRecDepth 100000 in
theorem lifted (os : Os) (started : os.Started) (H : Type) (enc : TypeId × Value → H) :
    ReturnsInHanded {} Try.checked os 10 .any (Rows.fnSeqLessOneSpec.pre6 enc Try.prog Try.f10 Rows.fnSeqLessOneRow.domain false) (Rows.fnSeqLessOneSpec.post enc Try.prog Try.f10 false true false false) := by
  refine returnsInHanded_of_change (C := Try.checked) own started (by kernel_rfl) Try.func10
    (ChangeSpec.witness6 (enc := enc) (C := Try.checked) false ⟨#[], #[.agg #[.int .i64 0, .int .i64 0, .slice none 0 0, .slice none 0 0], .agg #[.int .i64 0, .int .i64 0, .slice none 0 0, .slice none 0 0]], []⟩ 16 (by kernel_rfl) (by kernel_rfl) (by kernel_rfl) (by kernel_rfl)) ?_
  intro W base args ds gs before hval0 hW hcnd _
  have hval : ∀ (j : Nat) t v, Try.f10.params[j]? = some t → args[j]? = some v → Value.okWide Try.prog W .any base t v := hval0
  have hW' := hW
  obtain ⟨p, q, hA0, hV, rfl, hfz, hnd⟩ := hW
  have hA : DataW.TrodAll enc Try.prog W 0 (fun _ => true) true Try.f10.params.toList args.toList ds p := hA0
  rw [Try.params10] at hA hval
  obtain ⟨v0, vs0, d0, ds0, p0, q0, hargs, rfl, rfl, h0, r0⟩ := trodAll_cons hA
  obtain ⟨v1, vs1, d1, ds1, p1, q1, rfl, rfl, rfl, h1, r1⟩ := trodAll_cons r0
  obtain ⟨rfl, rfl, rfl⟩ := trodAll_nil r1
  obtain rfl : args = #[v0, v1] := by cases args; simp_all
  obtain ⟨rfl, rfl⟩ := trodVars_none hV
  have lt0 : ∀ x ∈ p0, x.block < W.heap.size := by obtain ⟨m, hm⟩ := h0; exact DataW.trod_lt m _ _ _ hm
  have lt1 : ∀ x ∈ p1, x.block < W.heap.size := by obtain ⟨m, hm⟩ := h1; exact DataW.trod_lt m _ _ _ hm
  obtain ⟨na, hga⟩ := readGeom (hval 0 _ _ rfl rfl) h0
  cases na with
  | zero => exact hga.elim
  | succ na =>
  obtain ⟨gka, gda, nada, ncpa, xsa, kada, kcpa, ksa, rfl, hoa, hka⟩ := hga
  obtain ⟨nb, hgb⟩ := readGeom (hval 1 _ _ rfl rfl) h1
  cases nb with
  | zero => exact hgb.elim
  | succ nb =>
  obtain ⟨gkb, gdb, nadb, ncpb, xsb, kadb, kcpb, ksb, rfl, hob, hkb⟩ := hgb
  clear hA0 hval0
  refine (walk na nb gka gda nada ncpa xsa kada kcpa ksa gkb gdb nadb ncpb xsb kadb kcpb ksb W hoa hka hob hkb).mono fun e W' ⟨he, bel⟩ => ?_
  subst he
  exact ⟨_, rfl, _, _, _, [], _, [], hW', trodAll_mk1 (shut_bool Try.underlying4 _), (trodAll_cons_mk (Below.trod laidOut (by kernel_rfl) (of_decide_eq_true (by kernel_rfl)) h0 bel lt0) (trodAll_cons_mk (Below.trod laidOut (by kernel_rfl) (of_decide_eq_true (by kernel_rfl)) h1 bel lt1) trodAll_mk0)), rfl, bel.frame _, fun h => by cases h⟩

theorem over : Rows.fnSeqLessOneRow.holds Try.pinned (OpenSpec.ofChange Rows.fnSeqLessOneSpec) :=
  OpenClaim.holds_of_wide 10 Try.f10 rfl rfl rfl rfl rfl rfl rfl ⟨rfl, rfl, rfl, rfl, rfl⟩ rfl rfl rfl rfl rfl (by kernel_rfl) Try.func10 (by kernel_rfl)
    (of_decide_eq_true (by kernel_rfl)) (by unfold Func.isWrapper; first | (rw [if_pos (by decide +kernel)]; kernel_rfl) | (rw [if_neg (by decide +kernel)]; exact ⟨rfl, rfl⟩))
    (fun os started H enc _ => lifted os started H enc)

theorem proved : Rows.FnSeqLessOneSaid := over
end fnSeqLessOne
end Go.Proofs.Ytbcjlgkdmkehlaa
