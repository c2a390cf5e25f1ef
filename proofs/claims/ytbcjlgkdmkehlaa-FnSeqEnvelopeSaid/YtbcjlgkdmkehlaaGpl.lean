/- The laws' places of a line string: X and Y of each, in a row. Condition: at most 2000 numbers, no parts. -/
import Derived.Test.YtbcjlgkdmkehlaaRows
import Derived.Test.YtbcjlgkdmkehlaaAln
namespace Go.Proofs.Ytbcjlgkdmkehlaa
open Go.ChangeShapes Go.WideShapes Go.ChangeAt Go.RowKit Fl
set_option maxRecDepth 100000
set_option linter.unusedSimpArgs false
/-- a row of places: X, Y and two more numbers each -/
def P4At (w : World) (a : Option Addr) (q : Nat) (X Y : Nat → Nat) : Prop := ∀ i, i < q → ∃ g z m, a = some ⟨g, 0, none⟩ ∧ w.cell? ⟨g, i * 4, none⟩ = some (.float .f64 (X i)) ∧ w.cell? ⟨g, i * 4 + 1, none⟩ = some (.float .f64 (Y i)) ∧ w.cell? ⟨g, i * 4 + 2, none⟩ = some (.float .f64 z) ∧ w.cell? ⟨g, i * 4 + 3, none⟩ = some (.float .f64 m)
theorem P4At.below {w w' : World} {a : Option Addr} {q : Nat} {X Y : Nat → Nat} (h : P4At w a q X Y) (hb : Below w.heap.size w w') : P4At w' a q X Y := fun i hi => by
  obtain ⟨g, z, m, e, h0, h1, h2, h3⟩ := h i hi
  exact ⟨g, z, m, e, (hb.cell (World.block_lt_of_cell? w _ h0)).trans h0, (hb.cell (World.block_lt_of_cell? w _ h1)).trans h1, (hb.cell (World.block_lt_of_cell? w _ h2)).trans h2, (hb.cell (World.block_lt_of_cell? w _ h3)).trans h3⟩
theorem placesP4 (d : Int) (h : isDim d) (ad : Option Addr) (cp : Nat) (xs : List Nat) (hxl : xs.length < 2000) (w : World) (hF : FRow w ad (xs.take (xs.length / widthN d * widthN d))) :
    Calls Try.prog 36 #[.slice ad (xs.length / widthN d * widthN d) cp, .int .i64 d] w fun e w' => ∃ a c, e = .returned (.slice a (xs.length / widthN d) c) ∧ P4At w' a (xs.length / widthN d) (fun i => xs.getD (i * widthN d) 0) (fun i => xs.getD (i * widthN d + 1) 0) ∧ Below w.heap.size w w' := by
  have hwp := widthN_pos d
  have hml : xs.length / widthN d * widthN d ≤ xs.length := Nat.div_mul_le_self _ _
  obtain ⟨q, hq⟩ : ∃ q, q = xs.length / widthN d := ⟨_, rfl⟩
  rw [← hq] at hF hml ⊢
  have hlen : (xs.take (q * widthN d)).length = q * widthN d := by rw [List.length_take]; exact Nat.min_eq_left hml
  have hdiv : q * widthN d / widthN d = q := Nat.mul_div_cancel _ (by omega)
  have P := places d h ad cp (xs.take (q * widthN d)) (by omega) w hF
  rw [hlen, hdiv] at P
  refine P.mono fun e w' ⟨v, he, hown, hb⟩ => ?_
  subst he
  have tk : ∀ k r, k < q → r < 2 → (xs.take (q * widthN d)).getD (k * widthN d + r) 0 = xs.getD (k * widthN d + r) 0 := fun k r hk hr => by
    have : (k + 1) * widthN d ≤ q * widthN d := Nat.mul_le_mul_right _ hk
    rw [Nat.succ_mul] at this
    exact getD_take _ _ _ (by omega)
  have hown0 := hown
  obtain ⟨_, hv | ⟨gp, cap, cur, rfl, _⟩⟩ := hown0
  · obtain ⟨rfl, hq0⟩ := hv
    exact ⟨none, 0, by rw [hq0], fun i hi => absurd hi (by omega), hb⟩
  · have C := hown.cells (g := gp) rfl
    have key : ∀ k r u, k < q → r < 4 → (placeAt (widthN d) (zB d) (mB d) (xs.take (q * widthN d)) k)[r]? = some u → w'.cell? ⟨gp, k * 4 + r, none⟩ = some u := by
      intro k r u hk hr hu
      have := C (k * 4 + r) u (by unfold placesOf; rw [hlen, hdiv, flat4 _ (fun _ => rfl) q k r hk hr]; exact hu)
      rw [add_plain0, Nat.zero_add] at this
      exact this
    refine ⟨some ⟨gp, 0, none⟩, cap, rfl, fun k hk => ⟨gp, _, _, rfl, ?_, ?_, key k 2 _ hk (by omega) rfl, key k 3 _ hk (by omega) rfl⟩, hb⟩
    · have := key k 0 _ hk (by omega) rfl
      have h2 := tk k 0 hk (by omega)
      rw [Nat.add_zero] at this h2
      rw [h2] at this
      exact this
    · have := key k 1 _ hk (by omega) rfl
      rw [tk k 1 hk (by omega)] at this
      exact this
theorem Try.info32 : (Try.prog.info? /-t-/32).map (fun i => (i.zero, i.size, i.bytes)) = some (some (.agg #[.float .f64 0, .float .f64 0]), 2, 16) := by kernel_rfl
def flatXY (X Y : Nat → Nat) (k : Nat) : List Value := (List.range k).flatMap (fun i => [.float .f64 (X i), .float .f64 (Y i)])
set_option maxHeartbeats 2000000 in
theorem gPlaces1 (dm : Int) (ad : Option Addr) (m cp q : Nat) (X Y : Nat → Nat) (hq : q < 2000) (R : World → Option Addr → Nat → Prop) (w : World)
    (hA : ∀ w', Below w.heap.size w w' → Calls Try.prog 90 #[.agg #[.int .i64 2, .int .i64 dm, .slice ad m cp, .slice none 0 0]] w' fun e w'' => ∃ a c, e = .returned (.slice a m c) ∧ R w'' a c ∧ Below w'.heap.size w' w'')
    (hP : ∀ a c w', R w' a c → Calls Try.prog 36 #[.slice a m c, .int .i64 dm] w' fun e w'' => ∃ a' c', e = .returned (.slice a' q c') ∧ P4At w'' a' q X Y ∧ Below w'.heap.size w' w'') :
    Calls Try.prog 52 #[.agg #[.int .i64 2, .int .i64 dm, .slice ad m cp, .slice none 0 0]] w fun e w' => ∃ v B, e = .returned v ∧ w.heap.size ≤ B ∧ w'.ownsRow B 32 2 v q (flatXY X Y q) ∧ Below w.heap.size w w' := by
  replace hA := hid hA
  replace hP := hid hP
  obtain ⟨i0, hi, hz0, hz1, hz2⟩ := info_parts Try.info32
  have HI := hid hi
  have HZ0 := hid hz0
  have HZ1 := hid hz1
  have HZ2 := hid hz2
  clear hi hz0 hz1 hz2
  go_enter Try.func52, Try.ntmps52
  go_wp2_with fail
  refine lettered (R := fun wz => Code.wp _ _ _ _ wz) (fun wz => wz.cell? ⟨w.heap.size, 0, none⟩ = some (.int .i64 2) ∧ wz.cell? ⟨w.heap.size, 1, none⟩ = some (.int .i64 dm) ∧ wz.cell? ⟨w.heap.size, 2, none⟩ = some (.slice ad m cp) ∧ wz.cell? ⟨w.heap.size, 3, none⟩ = some (.slice none 0 0) ∧ w.heap.size + 1 ≤ wz.heap.size ∧ Below w.heap.size w wz) ⟨by go_cell, by go_cell, by go_cell, by go_cell, by simp, by go_grown⟩ ?_
  rintro wz ⟨c00, c01, c02, c03, hsz, hb⟩
  have HB := hid hb
  clear hb
  refine wp_region_ord (S := (fun w' => ∃ e, w' = later wz e)) [(0, false), (2, false), (3, false), (6, false), (1, true), (4, true), (5, false)] (by kernel_rfl) (by kernel_rfl) (fun _ _ d _ _ h => by cases d <;> exact h) ⟨_, (later_of (by repeat (first | (with_reducible exact below_later _ _) | (with_reducible exact Below.refl _ _) | (with_reducible assumption) | (with_reducible refine Below.drew ?_) | (with_reducible refine Below.alloc ?_ (by (first | (with_reducible exact Nat.le_refl _) | (with_reducible exact (below_later _ _).size) | omega | (simp; done) | (simp; omega))) _)))).symm⟩ ?_
  simp only [pickO, List.filterMap_cons, List.filterMap_nil, List.getElem?_cons_succ, List.getElem?_cons_zero, Option.map_some]
  repeat (first
    | ((with_reducible refine wpOrd_light (fun K hK => ?_)); go_simp; (first | (with_reducible refine hK _ ?_) | (rw [if_neg (by intro h; cases h)]; with_reducible refine hK _ ?_)); clear hK K)
    | ((with_reducible refine wpOrd_heavy (fun K L hK hL => ?_)); go_simp; (first | (with_reducible refine hL _ ?_) | (rw [if_neg (by intro h; cases h)]; with_reducible refine hL _ ?_)); clear hK hL K L)
    | ((with_reducible refine wpOrd_heavy (fun K L hK hL => ?_)); go_simp; (with_reducible refine hK _ _ ?_ ?_); (focus (exact ⟨_, (later_of (by repeat (first | (with_reducible exact below_later _ _) | (with_reducible exact Below.refl _ _) | (with_reducible assumption) | (with_reducible refine Below.drew ?_) | (with_reducible refine Below.alloc ?_ (by (first | (with_reducible exact Nat.le_refl _) | (with_reducible exact (below_later _ _).size) | omega | (simp; done) | (simp; omega))) _)))).symm⟩)); clear hK hL K L)
    | ((with_reducible refine wpOrd_heavy (fun K L hK hL => ?_)); go_simp; go_at_call 90; (with_reducible refine (hA.out _ (by first | exact HB.out.drew | exact HB.out | exact HB.out.trans ((below_later wz nx).mono HB.out.size))).mono ?_); rintro e w' ⟨a, c, rfl, hr, hbl⟩; have HR := hid hr; clear hr; obtain ⟨nx, rfl⟩ := later1 (lat (wz := wz) (by repeat (first | (with_reducible exact below_later _ _) | (with_reducible exact Below.refl _ _) | (with_reducible assumption) | (with_reducible refine Below.drew ?_) | (with_reducible refine Below.alloc ?_ (by (first | (with_reducible exact Nat.le_refl _) | (with_reducible exact (below_later _ _).size) | omega | (simp; done) | (simp; omega))) _))) hbl); clear hbl; go_simp; (with_reducible refine hK _ _ ?_ ?_); (focus (exact ⟨_, (later_of (by repeat (first | (with_reducible exact below_later _ _) | (with_reducible exact Below.refl _ _) | (with_reducible assumption) | (with_reducible refine Below.drew ?_) | (with_reducible refine Below.alloc ?_ (by (first | (with_reducible exact Nat.le_refl _) | (with_reducible exact (below_later _ _).size) | omega | (simp; done) | (simp; omega))) _)))).symm⟩)); clear hK hL K L)
    | ((with_reducible refine wpOrd_heavy (fun K L hK hL => ?_)); go_simp; go_at_call 36; (with_reducible refine (hP.out _ _ _ HR.out).mono ?_); rintro e w' ⟨a2, c2, rfl, hp4, hbl⟩; have HP4 := hid hp4; clear hp4; obtain ⟨nx, rfl⟩ := later1 (lat (wz := wz) (by repeat (first | (with_reducible exact below_later _ _) | (with_reducible exact Below.refl _ _) | (with_reducible assumption) | (with_reducible refine Below.drew ?_) | (with_reducible refine Below.alloc ?_ (by (first | (with_reducible exact Nat.le_refl _) | (with_reducible exact (below_later _ _).size) | omega | (simp; done) | (simp; omega))) _))) hbl); clear hbl; go_simp; (with_reducible refine hK _ _ ?_ ?_); (focus (exact ⟨_, (later_of (by repeat (first | (with_reducible exact below_later _ _) | (with_reducible exact Below.refl _ _) | (with_reducible assumption) | (with_reducible refine Below.drew ?_) | (with_reducible refine Below.alloc ?_ (by (first | (with_reducible exact Nat.le_refl _) | (with_reducible exact (below_later _ _).size) | omega | (simp; done) | (simp; omega))) _)))).symm⟩)); clear hK hL K L))
  refine wpOrd_nil ?_
  refine lettered (R := fun wz2 => Exit.then _ _ _ _ wz2) (fun wz2 => P4At wz2 a2 q X Y ∧ Below w.heap.size w wz2) ⟨HP4.out, HB.out.trans ((below_later _ _).mono HB.out.size)⟩ ?_
  rintro wz2 ⟨hp4, hb⟩
  clear HB
  have HB := hid hb
  clear hb
  replace HP4 := hid hp4
  clear hp4 HR
  go_wp2_with fail
  go_loopw [12, 3] (fun iv ov wr => ∃ k : Nat, k ≤ q ∧ iv = .int .i64 (k : Int) ∧ wr.ownsRow wz2.heap.size 32 2 ov k (flatXY X Y k) ∧ Below wz2.heap.size wz2 wr) (fun iv _ _ => q - (intOf iv).toNat)
  case atStart => exact ⟨0, Nat.zero_le _, rfl, World.ownsRow_nil _ _ _ _, Below.refl _ _⟩
  case round =>
    obtain ⟨k, hkq, rfl, hown, hbl⟩ := hrel
    have HBr := hid hbl
    have HO := hid hown
    have hbase : wz2.heap.size ≤ wr.heap.size := hbl.size
    clear hbl hown
    by_cases hlt : k < q
    · obtain ⟨g, z, mm, rfl, u0, u1, u2, u3⟩ := HP4.out k hlt
      have d0 := (HBr.out.cell (World.block_lt_of_cell? _ _ u0)).trans u0
      have d1 := (HBr.out.cell (World.block_lt_of_cell? _ _ u1)).trans u1
      have d2 := (HBr.out.cell (World.block_lt_of_cell? _ _ u2)).trans u2
      have d3 := (HBr.out.cell (World.block_lt_of_cell? _ _ u3)).trans u3
      have HS : Hid (∀ x0 x1, X k = x0 → Y k = x1 → flatXY X Y (k + 1) = flatXY X Y k ++ [.float .f64 x0, .float .f64 x1]) := hid (fun x0 x1 h0 h1 => by
        unfold flatXY
        rw [List.range_succ, List.flatMap_append, List.flatMap_singleton, h0, h1])
      have HS2 := hid (HS.out _ _ rfl rfl)
      generalize X k = x0 at *
      generalize Y k = x1 at *
      clear u0 u1 u2 u3 HS
      have HB := hid (HBr.out)
      have q0 : g < wr.heap.size := World.block_lt_of_cell? _ _ d0
      have q1 : ¬ g = wr.heap.size := by omega
      have q2 : ¬ g = wr.heap.size + 1 := by omega
      have j0 : (0 : Int) ≤ (k : Int) := by omega
      have j1 : (k : Int) < (q : Int) := by omega
      go_wp2_with (at_builtin; refine wpList_append_own _ rfl _ _ 75 rfl wz2.heap.size 32 i0 _ 2 16 Try.underlying75 HI.out HZ0.out HZ1.out HZ2.out rfl (by decide) _ _ _ rfl (own_below HO.out (by repeat' (first | (with_reducible exact Below.refl _ _) | (with_reducible refine Below.setCell ?_ ?_ _) | (with_reducible refine Below.alloc ?_ ?_ _) | (with_reducible refine Below.drew ?_) | (with_reducible exact Nat.le_refl _) | omega | (simp; done) | (simp; omega)))) ⟨wr.heap.size + 1, 0, none⟩ 1 1 [.float .f64 x0, .float .f64 x1] rfl rfl (RowAt.news (row2.2 ⟨by go_cell, by go_cell, trivial⟩)) (by intro u hu; simp at hu; rcases hu with rfl | rfl <;> rfl) (by unfold maxLen; omega) (by omega) (by simp; omega) ?_; intro v' w2 hown' hgr hnil; have HB2 := hid (Below.grown (B := wz2.heap.size) (a := wz2) (by repeat' (first | (with_reducible exact HB.out) | (with_reducible refine Below.setCell ?_ ?_ _) | (with_reducible refine Below.alloc ?_ ?_ _) | (with_reducible refine Below.drew ?_) | (with_reducible exact Nat.le_refl _) | omega | (simp; done) | (simp; omega))) hgr (by simp; omega) (fun k hk => (HO.out.lt k hk).1)); have HO2 := hid hown'; clear hown' hgr hnil)
      go_roundw
      case rel => exact ⟨k + 1, by omega, by go_num, by rw [HS2.out]; exact HO2.out, HB2.out⟩
      case measure => simp [intOf]; omega
    · obtain rfl : k = q := by omega
      go_wp2_with fail
      go_ret
      exact ⟨_, wz2.heap.size, rfl, HB.out.size, HO.out, HB.out.trans (HBr.out.mono HB.out.size)⟩
end Go.Proofs.Ytbcjlgkdmkehlaa
