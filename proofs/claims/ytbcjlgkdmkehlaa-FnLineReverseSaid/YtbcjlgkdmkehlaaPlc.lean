/- The laws' places of a row of numbers: four numbers each, in a new row. -/
import Derived.Test.YtbcjlgkdmkehlaaRows
import Derived.Test.YtbcjlgkdmkehlaaNew
namespace Go.Proofs.Ytbcjlgkdmkehlaa
open Go.ChangeShapes Go.WideShapes Go.ChangeAt Go.RowKit
set_option maxRecDepth 100000
set_option linter.unusedSimpArgs false
theorem Try.info58 : (Try.prog.info? 58).map (fun i => (i.zero, i.size, i.bytes)) = some (some (.agg #[.float .f64 0, .float .f64 0, .float .f64 0, .float .f64 0]), 4, 32) := by kernel_rfl
/-- the k-th place: its X, Y, Z and M (0 where its type has none) -/
def placeAt (wn : Nat) (z m : Bool) (xs : List Nat) (k : Nat) : List Value :=
  [.float .f64 (xs.getD (k * wn) 0), .float .f64 (xs.getD (k * wn + 1) 0), .float .f64 (if z then xs.getD (k * wn + 2) 0 else 0), .float .f64 (if m then xs.getD (k * wn + wn - 1) 0 else 0)]
theorem own_below {w w' : World} {base : Nat} {e : TypeId} {size : Nat} {v : Value} {n : Nat} {xs : List Value} (h : w.ownsRow base e size v n xs) (hb : Below w.heap.size w w') : w'.ownsRow base e size v n xs :=
  h.kept (row := none) ⟨hb.os, hb.tape, hb.output, hb.size, fun k hk _ => hb.block k hk⟩ (Classical.em _)
set_option maxHeartbeats 2000000 in
theorem places0 (ad : Option Addr) (cp : Nat) (xs : List Nat) (hlen : xs.length < 2000) (w : World) (hF : FRow w ad xs) :
    Calls Try.prog 36 #[.slice ad xs.length cp, .int .i64 0] w fun e w' => ∃ v, e = .returned v ∧ w'.ownsRow w.heap.size 58 4 v (xs.length / 2) ((List.range (xs.length / 2)).flatMap (placeAt 2 false false xs)) ∧ Below w.heap.size w w' := by
  have W := fun w => width 0 (.inl rfl) w
  rw [show widthI 0 = 2 from rfl] at W
  replace W := hid W
  have t0 : bits BinOp.and IntKind.i64 0 1 = 0 := by decide +kernel
  have t1 : bits BinOp.and IntKind.i64 0 2 = 0 := by decide +kernel
  obtain ⟨i0, hi, hz0, hz1, hz2⟩ := info_parts Try.info58
  have HI := hid hi
  have HZ0 := hid hz0
  have HZ1 := hid hz1
  have HZ2 := hid hz2
  clear hi hz0 hz1 hz2
  have HF := hid hF
  clear hF
  generalize hnl : xs.length = nl at *
  go_enter Try.func36, Try.ntmps36
  go_wp2_with (go_at_call 73; refine (W.out _).mono ?_; rintro e w1 ⟨rfl, hb1⟩; have HB1 := hid hb1; clear hb1)
  go_loopw [7, 5] (fun iv ov wr => ∃ k i : Nat, i = k * 2 ∧ i ≤ nl ∧ iv = .int .i64 i ∧ wr.ownsRow w.heap.size 58 4 ov k ((List.range k).flatMap (placeAt 2 false false xs)) ∧ Below w.heap.size w wr) (fun iv _ _ => nl - (intOf iv).toNat)
  case atStart => exact ⟨0, 0, rfl, Nat.zero_le _, rfl, World.ownsRow_nil _ _ _ _, HB1.out⟩
  case round =>
    obtain ⟨k, i, hk, hin, rfl, hown, hbl⟩ := hrel
    have HB := hid hbl
    have HO := hid hown
    have hbase : w.heap.size ≤ wr.heap.size := hbl.size
    clear hbl HB1 hown
    by_cases hlt : i + 2 ≤ nl
    · skip
      obtain ⟨x0, hx0⟩ : ∃ x, xs[i + 0]? = some x := ⟨_, List.getElem?_eq_getElem (by omega)⟩
      obtain ⟨x1, hx1⟩ : ∃ x, xs[i + 1]? = some x := ⟨_, List.getElem?_eq_getElem (by omega)⟩
      obtain ⟨b0, off0, e0, hc0⟩ := HF.out (i + 0) x0 hx0
      obtain ⟨b1, off1, e1, hc1⟩ := HF.out (i + 1) x1 hx1
      have hpl : placeAt 2 false false xs k = [.float .f64 x0, .float .f64 x1, .float .f64 0, .float .f64 0] := by
        subst hk
        rw [Nat.add_zero] at hx0
        unfold placeAt
        rw [show k * 2 + 2 - 1 = k * 2 + 1 from by omega]
        simp only [List.getD_eq_getElem?_getD, hx0, hx1, if_true, Bool.false_eq_true, if_false, Option.getD_some]
      have HK := hid hk
      have hki : k ≤ i := by omega
      clear hk
      subst e0
      have d0 := (HB.out.cell (World.block_lt_of_cell? w _ hc0)).trans hc0
      rw [Option.some.injEq, Addr.mk.injEq] at e1
      obtain ⟨rfl, rfl, -⟩ := e1
      have d1 := (HB.out.cell (World.block_lt_of_cell? w _ hc1)).trans hc1
      clear HF
      rw [Nat.add_zero] at d0
      have q0 : b0 < wr.heap.size := World.block_lt_of_cell? _ _ d0
      have q1 : ¬ b0 = wr.heap.size := by omega
      have q2 : ¬ b0 = wr.heap.size + 1 := by omega
      have j0 : (0 : Int) ≤ (i : Int) := by omega
      have j1 : (i : Int) < (nl : Int) := by omega
      have j2 : (0 : Int) ≤ (i : Int) + 1 := by omega
      have j3 : (i : Int) + 1 < (nl : Int) := by omega
      have j4 : IntKind.i64.wrap ((i : Int) + 1) = (i : Int) + 1 := IntWalk.i64_in _ (by omega)
      go_wp2_with fail
      refine wp_region_ord (S := (fun w' => ∃ e, w' = later wr e)) [(0, false), (1, false), (2, false), (3, false), (4, false), (5, false), (6, false), (7, false), (8, false), (9, false), (10, true), (11, true)] (by kernel_rfl) (by kernel_rfl) (fun _ _ d _ _ h => by cases d <;> exact h) ⟨_, (later_of (by repeat (first | (with_reducible exact below_later _ _) | (with_reducible exact Below.refl _ _) | (with_reducible assumption) | (with_reducible refine Below.drew ?_) | (with_reducible refine Below.alloc ?_ (by (first | (with_reducible exact Nat.le_refl _) | (with_reducible exact (below_later _ _).size) | omega | (simp; done) | (simp; omega))) _)))).symm⟩ ?_
      simp only [pickO, List.filterMap_cons, List.filterMap_nil, List.getElem?_cons_succ, List.getElem?_cons_zero, Option.map_some]
      repeat (first
        | ((with_reducible refine wpOrd_light (fun K hK => ?_)); go_simp; (first | (with_reducible refine hK _ ?_) | (rw [if_neg (by intro h; cases h)]; with_reducible refine hK _ ?_)); clear hK K)
        | ((with_reducible refine wpOrd_heavy (fun K L hK hL => ?_)); go_simp; (first | (with_reducible refine hL _ ?_) | (rw [if_neg (by intro h; cases h)]; with_reducible refine hL _ ?_)); clear hK hL K L)
        | ((with_reducible refine wpOrd_heavy (fun K L hK hL => ?_)); go_simp; (with_reducible refine hK _ _ ?_ ?_); (focus (exact ⟨_, (later_of (by repeat (first | (with_reducible exact below_later _ _) | (with_reducible exact Below.refl _ _) | (with_reducible assumption) | (with_reducible refine Below.drew ?_) | (with_reducible refine Below.alloc ?_ (by (first | (with_reducible exact Nat.le_refl _) | (with_reducible exact (below_later _ _).size) | omega | (simp; done) | (simp; omega))) _)))).symm⟩)); clear hK hL K L))
      refine wpOrd_nil ?_
      go_wp2_with (at_builtin; refine wpList_append_own _ rfl _ _ 51 rfl w.heap.size 58 i0 _ 4 32 Try.underlying51 HI.out HZ0.out HZ1.out HZ2.out rfl (by decide) _ _ _ rfl (own_below HO.out (by repeat' (first | (with_reducible exact Below.refl _ _) | (with_reducible refine Below.setCell ?_ ?_ _) | (with_reducible refine Below.alloc ?_ ?_ _) | (with_reducible refine Below.drew ?_) | (with_reducible exact Nat.le_refl _) | omega | (simp; done) | (simp; omega)))) ⟨wr.heap.size + 1, 0, none⟩ 1 1 [.float .f64 x0, .float .f64 x1, .float .f64 0, .float .f64 0] rfl rfl (RowAt.news (row4.2 ⟨by go_cell, by go_cell, by go_cell, by go_cell, trivial⟩)) (by intro u hu; simp at hu; rcases hu with rfl | rfl | rfl | rfl <;> rfl) (by unfold maxLen; omega) (by omega) (by simp; omega) ?_; intro v' w2 hown' hgr hnil; have HB2 := hid (Below.grown (B := w.heap.size) (a := w) (by repeat' (first | (with_reducible exact HB.out) | (with_reducible refine Below.setCell ?_ ?_ _) | (with_reducible refine Below.alloc ?_ ?_ _) | (with_reducible refine Below.drew ?_) | (with_reducible exact Nat.le_refl _) | omega | (simp; done) | (simp; omega))) hgr (by simp; omega) (fun k hk => (HO.out.lt k hk).1)); have HO2 := hid hown'; clear hown' hgr hnil)
      go_roundw
      case rel => exact ⟨k + 1, i + 2, by rw [HK.out]; omega, by omega, by go_num, by rw [List.range_succ, List.flatMap_append, List.flatMap_singleton, hpl]; exact HO2.out, HB2.out⟩
      case measure => simp [intOf]; omega
    · have HK := hid hk
      clear hk
      go_wp2_with fail
      go_ret
      have e : nl / 2 = k := by have := HK.out; omega
      rw [e]
      exact ⟨_, rfl, HO.out, HB.out⟩
set_option maxHeartbeats 2000000 in
theorem places1 (ad : Option Addr) (cp : Nat) (xs : List Nat) (hlen : xs.length < 2000) (w : World) (hF : FRow w ad xs) :
    Calls Try.prog 36 #[.slice ad xs.length cp, .int .i64 1] w fun e w' => ∃ v, e = .returned v ∧ w'.ownsRow w.heap.size 58 4 v (xs.length / 3) ((List.range (xs.length / 3)).flatMap (placeAt 3 true false xs)) ∧ Below w.heap.size w w' := by
  have W := fun w => width 1 (.inr (.inl rfl)) w
  rw [show widthI 1 = 3 from rfl] at W
  replace W := hid W
  have t0 : bits BinOp.and IntKind.i64 1 1 = 1 := by decide +kernel
  have t1 : bits BinOp.and IntKind.i64 1 2 = 0 := by decide +kernel
  obtain ⟨i0, hi, hz0, hz1, hz2⟩ := info_parts Try.info58
  have HI := hid hi
  have HZ0 := hid hz0
  have HZ1 := hid hz1
  have HZ2 := hid hz2
  clear hi hz0 hz1 hz2
  have HF := hid hF
  clear hF
  generalize hnl : xs.length = nl at *
  go_enter Try.func36, Try.ntmps36
  go_wp2_with (go_at_call 73; refine (W.out _).mono ?_; rintro e w1 ⟨rfl, hb1⟩; have HB1 := hid hb1; clear hb1)
  go_loopw [7, 5] (fun iv ov wr => ∃ k i : Nat, i = k * 3 ∧ i ≤ nl ∧ iv = .int .i64 i ∧ wr.ownsRow w.heap.size 58 4 ov k ((List.range k).flatMap (placeAt 3 true false xs)) ∧ Below w.heap.size w wr) (fun iv _ _ => nl - (intOf iv).toNat)
  case atStart => exact ⟨0, 0, rfl, Nat.zero_le _, rfl, World.ownsRow_nil _ _ _ _, HB1.out⟩
  case round =>
    obtain ⟨k, i, hk, hin, rfl, hown, hbl⟩ := hrel
    have HB := hid hbl
    have HO := hid hown
    have hbase : w.heap.size ≤ wr.heap.size := hbl.size
    clear hbl HB1 hown
    by_cases hlt : i + 3 ≤ nl
    · skip
      obtain ⟨x0, hx0⟩ : ∃ x, xs[i + 0]? = some x := ⟨_, List.getElem?_eq_getElem (by omega)⟩
      obtain ⟨x1, hx1⟩ : ∃ x, xs[i + 1]? = some x := ⟨_, List.getElem?_eq_getElem (by omega)⟩
      obtain ⟨x2, hx2⟩ : ∃ x, xs[i + 2]? = some x := ⟨_, List.getElem?_eq_getElem (by omega)⟩
      obtain ⟨b0, off0, e0, hc0⟩ := HF.out (i + 0) x0 hx0
      obtain ⟨b1, off1, e1, hc1⟩ := HF.out (i + 1) x1 hx1
      obtain ⟨b2, off2, e2, hc2⟩ := HF.out (i + 2) x2 hx2
      have hpl : placeAt 3 true false xs k = [.float .f64 x0, .float .f64 x1, .float .f64 x2, .float .f64 0] := by
        subst hk
        rw [Nat.add_zero] at hx0
        unfold placeAt
        rw [show k * 3 + 3 - 1 = k * 3 + 2 from by omega]
        simp only [List.getD_eq_getElem?_getD, hx0, hx1, hx2, if_true, Bool.false_eq_true, if_false, Option.getD_some]
      have HK := hid hk
      have hki : k ≤ i := by omega
      clear hk
      subst e0
      have d0 := (HB.out.cell (World.block_lt_of_cell? w _ hc0)).trans hc0
      rw [Option.some.injEq, Addr.mk.injEq] at e1
      obtain ⟨rfl, rfl, -⟩ := e1
      have d1 := (HB.out.cell (World.block_lt_of_cell? w _ hc1)).trans hc1
      rw [Option.some.injEq, Addr.mk.injEq] at e2
      obtain ⟨rfl, rfl, -⟩ := e2
      have d2 := (HB.out.cell (World.block_lt_of_cell? w _ hc2)).trans hc2
      clear HF
      rw [Nat.add_zero] at d0
      have q0 : b0 < wr.heap.size := World.block_lt_of_cell? _ _ d0
      have q1 : ¬ b0 = wr.heap.size := by omega
      have q2 : ¬ b0 = wr.heap.size + 1 := by omega
      have j0 : (0 : Int) ≤ (i : Int) := by omega
      have j1 : (i : Int) < (nl : Int) := by omega
      have j2 : (0 : Int) ≤ (i : Int) + 1 := by omega
      have j3 : (i : Int) + 1 < (nl : Int) := by omega
      have j4 : IntKind.i64.wrap ((i : Int) + 1) = (i : Int) + 1 := IntWalk.i64_in _ (by omega)
      go_wp2_with fail
      refine wp_region_ord (S := (fun w' => ∃ e, w' = later wr e)) [(0, false), (1, false), (2, false), (3, false), (4, false), (5, false), (6, false), (7, false), (8, false), (9, false), (10, true), (11, true)] (by kernel_rfl) (by kernel_rfl) (fun _ _ d _ _ h => by cases d <;> exact h) ⟨_, (later_of (by repeat (first | (with_reducible exact below_later _ _) | (with_reducible exact Below.refl _ _) | (with_reducible assumption) | (with_reducible refine Below.drew ?_) | (with_reducible refine Below.alloc ?_ (by (first | (with_reducible exact Nat.le_refl _) | (with_reducible exact (below_later _ _).size) | omega | (simp; done) | (simp; omega))) _)))).symm⟩ ?_
      simp only [pickO, List.filterMap_cons, List.filterMap_nil, List.getElem?_cons_succ, List.getElem?_cons_zero, Option.map_some]
      repeat (first
        | ((with_reducible refine wpOrd_light (fun K hK => ?_)); go_simp; (first | (with_reducible refine hK _ ?_) | (rw [if_neg (by intro h; cases h)]; with_reducible refine hK _ ?_)); clear hK K)
        | ((with_reducible refine wpOrd_heavy (fun K L hK hL => ?_)); go_simp; (first | (with_reducible refine hL _ ?_) | (rw [if_neg (by intro h; cases h)]; with_reducible refine hL _ ?_)); clear hK hL K L)
        | ((with_reducible refine wpOrd_heavy (fun K L hK hL => ?_)); go_simp; (with_reducible refine hK _ _ ?_ ?_); (focus (exact ⟨_, (later_of (by repeat (first | (with_reducible exact below_later _ _) | (with_reducible exact Below.refl _ _) | (with_reducible assumption) | (with_reducible refine Below.drew ?_) | (with_reducible refine Below.alloc ?_ (by (first | (with_reducible exact Nat.le_refl _) | (with_reducible exact (below_later _ _).size) | omega | (simp; done) | (simp; omega))) _)))).symm⟩)); clear hK hL K L))
      refine wpOrd_nil ?_
      go_wp2_with (at_builtin; refine wpList_append_own _ rfl _ _ 51 rfl w.heap.size 58 i0 _ 4 32 Try.underlying51 HI.out HZ0.out HZ1.out HZ2.out rfl (by decide) _ _ _ rfl (own_below HO.out (by repeat' (first | (with_reducible exact Below.refl _ _) | (with_reducible refine Below.setCell ?_ ?_ _) | (with_reducible refine Below.alloc ?_ ?_ _) | (with_reducible refine Below.drew ?_) | (with_reducible exact Nat.le_refl _) | omega | (simp; done) | (simp; omega)))) ⟨wr.heap.size + 1, 0, none⟩ 1 1 [.float .f64 x0, .float .f64 x1, .float .f64 x2, .float .f64 0] rfl rfl (RowAt.news (row4.2 ⟨by go_cell, by go_cell, by go_cell, by go_cell, trivial⟩)) (by intro u hu; simp at hu; rcases hu with rfl | rfl | rfl | rfl <;> rfl) (by unfold maxLen; omega) (by omega) (by simp; omega) ?_; intro v' w2 hown' hgr hnil; have HB2 := hid (Below.grown (B := w.heap.size) (a := w) (by repeat' (first | (with_reducible exact HB.out) | (with_reducible refine Below.setCell ?_ ?_ _) | (with_reducible refine Below.alloc ?_ ?_ _) | (with_reducible refine Below.drew ?_) | (with_reducible exact Nat.le_refl _) | omega | (simp; done) | (simp; omega))) hgr (by simp; omega) (fun k hk => (HO.out.lt k hk).1)); have HO2 := hid hown'; clear hown' hgr hnil)
      go_roundw
      case rel => exact ⟨k + 1, i + 3, by rw [HK.out]; omega, by omega, by go_num, by rw [List.range_succ, List.flatMap_append, List.flatMap_singleton, hpl]; exact HO2.out, HB2.out⟩
      case measure => simp [intOf]; omega
    · have HK := hid hk
      clear hk
      go_wp2_with fail
      go_ret
      have e : nl / 3 = k := by have := HK.out; omega
      rw [e]
      exact ⟨_, rfl, HO.out, HB.out⟩
set_option maxHeartbeats 2000000 in
theorem places2 (ad : Option Addr) (cp : Nat) (xs : List Nat) (hlen : xs.length < 2000) (w : World) (hF : FRow w ad xs) :
    Calls Try.prog 36 #[.slice ad xs.length cp, .int .i64 2] w fun e w' => ∃ v, e = .returned v ∧ w'.ownsRow w.heap.size 58 4 v (xs.length / 3) ((List.range (xs.length / 3)).flatMap (placeAt 3 false true xs)) ∧ Below w.heap.size w w' := by
  have W := fun w => width 2 (.inr (.inr (.inl rfl))) w
  rw [show widthI 2 = 3 from rfl] at W
  replace W := hid W
  have t0 : bits BinOp.and IntKind.i64 2 1 = 0 := by decide +kernel
  have t1 : bits BinOp.and IntKind.i64 2 2 = 2 := by decide +kernel
  obtain ⟨i0, hi, hz0, hz1, hz2⟩ := info_parts Try.info58
  have HI := hid hi
  have HZ0 := hid hz0
  have HZ1 := hid hz1
  have HZ2 := hid hz2
  clear hi hz0 hz1 hz2
  have HF := hid hF
  clear hF
  generalize hnl : xs.length = nl at *
  go_enter Try.func36, Try.ntmps36
  go_wp2_with (go_at_call 73; refine (W.out _).mono ?_; rintro e w1 ⟨rfl, hb1⟩; have HB1 := hid hb1; clear hb1)
  go_loopw [7, 5] (fun iv ov wr => ∃ k i : Nat, i = k * 3 ∧ i ≤ nl ∧ iv = .int .i64 i ∧ wr.ownsRow w.heap.size 58 4 ov k ((List.range k).flatMap (placeAt 3 false true xs)) ∧ Below w.heap.size w wr) (fun iv _ _ => nl - (intOf iv).toNat)
  case atStart => exact ⟨0, 0, rfl, Nat.zero_le _, rfl, World.ownsRow_nil _ _ _ _, HB1.out⟩
  case round =>
    obtain ⟨k, i, hk, hin, rfl, hown, hbl⟩ := hrel
    have HB := hid hbl
    have HO := hid hown
    have hbase : w.heap.size ≤ wr.heap.size := hbl.size
    clear hbl HB1 hown
    by_cases hlt : i + 3 ≤ nl
    · skip
      obtain ⟨x0, hx0⟩ : ∃ x, xs[i + 0]? = some x := ⟨_, List.getElem?_eq_getElem (by omega)⟩
      obtain ⟨x1, hx1⟩ : ∃ x, xs[i + 1]? = some x := ⟨_, List.getElem?_eq_getElem (by omega)⟩
      obtain ⟨x2, hx2⟩ : ∃ x, xs[i + 2]? = some x := ⟨_, List.getElem?_eq_getElem (by omega)⟩
      obtain ⟨b0, off0, e0, hc0⟩ := HF.out (i + 0) x0 hx0
      obtain ⟨b1, off1, e1, hc1⟩ := HF.out (i + 1) x1 hx1
      obtain ⟨b2, off2, e2, hc2⟩ := HF.out (i + 2) x2 hx2
      have hpl : placeAt 3 false true xs k = [.float .f64 x0, .float .f64 x1, .float .f64 0, .float .f64 x2] := by
        subst hk
        rw [Nat.add_zero] at hx0
        unfold placeAt
        rw [show k * 3 + 3 - 1 = k * 3 + 2 from by omega]
        simp only [List.getD_eq_getElem?_getD, hx0, hx1, hx2, if_true, Bool.false_eq_true, if_false, Option.getD_some]
      have HK := hid hk
      have hki : k ≤ i := by omega
      clear hk
      subst e0
      have d0 := (HB.out.cell (World.block_lt_of_cell? w _ hc0)).trans hc0
      rw [Option.some.injEq, Addr.mk.injEq] at e1
      obtain ⟨rfl, rfl, -⟩ := e1
      have d1 := (HB.out.cell (World.block_lt_of_cell? w _ hc1)).trans hc1
      rw [Option.some.injEq, Addr.mk.injEq] at e2
      obtain ⟨rfl, rfl, -⟩ := e2
      have d2 := (HB.out.cell (World.block_lt_of_cell? w _ hc2)).trans hc2
      clear HF
      rw [Nat.add_zero] at d0
      have q0 : b0 < wr.heap.size := World.block_lt_of_cell? _ _ d0
      have q1 : ¬ b0 = wr.heap.size := by omega
      have q2 : ¬ b0 = wr.heap.size + 1 := by omega
      have j0 : (0 : Int) ≤ (i : Int) := by omega
      have j1 : (i : Int) < (nl : Int) := by omega
      have j2 : (0 : Int) ≤ (i : Int) + 1 := by omega
      have j3 : (i : Int) + 1 < (nl : Int) := by omega
      have j4 : IntKind.i64.wrap ((i : Int) + 1) = (i : Int) + 1 := IntWalk.i64_in _ (by omega)
      go_wp2_with fail
      refine wp_region_ord (S := (fun w' => ∃ e, w' = later wr e)) [(0, false), (1, false), (2, false), (3, false), (4, false), (5, false), (6, false), (7, false), (8, false), (9, false), (10, true), (11, true)] (by kernel_rfl) (by kernel_rfl) (fun _ _ d _ _ h => by cases d <;> exact h) ⟨_, (later_of (by repeat (first | (with_reducible exact below_later _ _) | (with_reducible exact Below.refl _ _) | (with_reducible assumption) | (with_reducible refine Below.drew ?_) | (with_reducible refine Below.alloc ?_ (by (first | (with_reducible exact Nat.le_refl _) | (with_reducible exact (below_later _ _).size) | omega | (simp; done) | (simp; omega))) _)))).symm⟩ ?_
      simp only [pickO, List.filterMap_cons, List.filterMap_nil, List.getElem?_cons_succ, List.getElem?_cons_zero, Option.map_some]
      repeat (first
        | ((with_reducible refine wpOrd_light (fun K hK => ?_)); go_simp; (first | (with_reducible refine hK _ ?_) | (rw [if_neg (by intro h; cases h)]; with_reducible refine hK _ ?_)); clear hK K)
        | ((with_reducible refine wpOrd_heavy (fun K L hK hL => ?_)); go_simp; (first | (with_reducible refine hL _ ?_) | (rw [if_neg (by intro h; cases h)]; with_reducible refine hL _ ?_)); clear hK hL K L)
        | ((with_reducible refine wpOrd_heavy (fun K L hK hL => ?_)); go_simp; (with_reducible refine hK _ _ ?_ ?_); (focus (exact ⟨_, (later_of (by repeat (first | (with_reducible exact below_later _ _) | (with_reducible exact Below.refl _ _) | (with_reducible assumption) | (with_reducible refine Below.drew ?_) | (with_reducible refine Below.alloc ?_ (by (first | (with_reducible exact Nat.le_refl _) | (with_reducible exact (below_later _ _).size) | omega | (simp; done) | (simp; omega))) _)))).symm⟩)); clear hK hL K L))
      refine wpOrd_nil ?_
      go_wp2_with (at_builtin; refine wpList_append_own _ rfl _ _ 51 rfl w.heap.size 58 i0 _ 4 32 Try.underlying51 HI.out HZ0.out HZ1.out HZ2.out rfl (by decide) _ _ _ rfl (own_below HO.out (by repeat' (first | (with_reducible exact Below.refl _ _) | (with_reducible refine Below.setCell ?_ ?_ _) | (with_reducible refine Below.alloc ?_ ?_ _) | (with_reducible refine Below.drew ?_) | (with_reducible exact Nat.le_refl _) | omega | (simp; done) | (simp; omega)))) ⟨wr.heap.size + 1, 0, none⟩ 1 1 [.float .f64 x0, .float .f64 x1, .float .f64 0, .float .f64 x2] rfl rfl (RowAt.news (row4.2 ⟨by go_cell, by go_cell, by go_cell, by go_cell, trivial⟩)) (by intro u hu; simp at hu; rcases hu with rfl | rfl | rfl | rfl <;> rfl) (by unfold maxLen; omega) (by omega) (by simp; omega) ?_; intro v' w2 hown' hgr hnil; have HB2 := hid (Below.grown (B := w.heap.size) (a := w) (by repeat' (first | (with_reducible exact HB.out) | (with_reducible refine Below.setCell ?_ ?_ _) | (with_reducible refine Below.alloc ?_ ?_ _) | (with_reducible refine Below.drew ?_) | (with_reducible exact Nat.le_refl _) | omega | (simp; done) | (simp; omega))) hgr (by simp; omega) (fun k hk => (HO.out.lt k hk).1)); have HO2 := hid hown'; clear hown' hgr hnil)
      go_roundw
      case rel => exact ⟨k + 1, i + 3, by rw [HK.out]; omega, by omega, by go_num, by rw [List.range_succ, List.flatMap_append, List.flatMap_singleton, hpl]; exact HO2.out, HB2.out⟩
      case measure => simp [intOf]; omega
    · have HK := hid hk
      clear hk
      go_wp2_with fail
      go_ret
      have e : nl / 3 = k := by have := HK.out; omega
      rw [e]
      exact ⟨_, rfl, HO.out, HB.out⟩
set_option maxHeartbeats 2000000 in
theorem places3 (ad : Option Addr) (cp : Nat) (xs : List Nat) (hlen : xs.length < 2000) (w : World) (hF : FRow w ad xs) :
    Calls Try.prog 36 #[.slice ad xs.length cp, .int .i64 3] w fun e w' => ∃ v, e = .returned v ∧ w'.ownsRow w.heap.size 58 4 v (xs.length / 4) ((List.range (xs.length / 4)).flatMap (placeAt 4 true true xs)) ∧ Below w.heap.size w w' := by
  have W := fun w => width 3 (.inr (.inr (.inr rfl))) w
  rw [show widthI 3 = 4 from rfl] at W
  replace W := hid W
  have t0 : bits BinOp.and IntKind.i64 3 1 = 1 := by decide +kernel
  have t1 : bits BinOp.and IntKind.i64 3 2 = 2 := by decide +kernel
  obtain ⟨i0, hi, hz0, hz1, hz2⟩ := info_parts Try.info58
  have HI := hid hi
  have HZ0 := hid hz0
  have HZ1 := hid hz1
  have HZ2 := hid hz2
  clear hi hz0 hz1 hz2
  have HF := hid hF
  clear hF
  generalize hnl : xs.length = nl at *
  go_enter Try.func36, Try.ntmps36
  go_wp2_with (go_at_call 73; refine (W.out _).mono ?_; rintro e w1 ⟨rfl, hb1⟩; have HB1 := hid hb1; clear hb1)
  go_loopw [7, 5] (fun iv ov wr => ∃ k i : Nat, i = k * 4 ∧ i ≤ nl ∧ iv = .int .i64 i ∧ wr.ownsRow w.heap.size 58 4 ov k ((List.range k).flatMap (placeAt 4 true true xs)) ∧ Below w.heap.size w wr) (fun iv _ _ => nl - (intOf iv).toNat)
  case atStart => exact ⟨0, 0, rfl, Nat.zero_le _, rfl, World.ownsRow_nil _ _ _ _, HB1.out⟩
  case round =>
    obtain ⟨k, i, hk, hin, rfl, hown, hbl⟩ := hrel
    have HB := hid hbl
    have HO := hid hown
    have hbase : w.heap.size ≤ wr.heap.size := hbl.size
    clear hbl HB1 hown
    by_cases hlt : i + 4 ≤ nl
    · skip
      obtain ⟨x0, hx0⟩ : ∃ x, xs[i + 0]? = some x := ⟨_, List.getElem?_eq_getElem (by omega)⟩
      obtain ⟨x1, hx1⟩ : ∃ x, xs[i + 1]? = some x := ⟨_, List.getElem?_eq_getElem (by omega)⟩
      obtain ⟨x2, hx2⟩ : ∃ x, xs[i + 2]? = some x := ⟨_, List.getElem?_eq_getElem (by omega)⟩
      obtain ⟨x3, hx3⟩ : ∃ x, xs[i + 3]? = some x := ⟨_, List.getElem?_eq_getElem (by omega)⟩
      obtain ⟨b0, off0, e0, hc0⟩ := HF.out (i + 0) x0 hx0
      obtain ⟨b1, off1, e1, hc1⟩ := HF.out (i + 1) x1 hx1
      obtain ⟨b2, off2, e2, hc2⟩ := HF.out (i + 2) x2 hx2
      obtain ⟨b3, off3, e3, hc3⟩ := HF.out (i + 3) x3 hx3
      have hpl : placeAt 4 true true xs k = [.float .f64 x0, .float .f64 x1, .float .f64 x2, .float .f64 x3] := by
        subst hk
        rw [Nat.add_zero] at hx0
        unfold placeAt
        rw [show k * 4 + 4 - 1 = k * 4 + 3 from by omega]
        simp only [List.getD_eq_getElem?_getD, hx0, hx1, hx2, hx3, if_true, Bool.false_eq_true, if_false, Option.getD_some]
      have HK := hid hk
      have hki : k ≤ i := by omega
      clear hk
      subst e0
      have d0 := (HB.out.cell (World.block_lt_of_cell? w _ hc0)).trans hc0
      rw [Option.some.injEq, Addr.mk.injEq] at e1
      obtain ⟨rfl, rfl, -⟩ := e1
      have d1 := (HB.out.cell (World.block_lt_of_cell? w _ hc1)).trans hc1
      rw [Option.some.injEq, Addr.mk.injEq] at e2
      obtain ⟨rfl, rfl, -⟩ := e2
      have d2 := (HB.out.cell (World.block_lt_of_cell? w _ hc2)).trans hc2
      rw [Option.some.injEq, Addr.mk.injEq] at e3
      obtain ⟨rfl, rfl, -⟩ := e3
      have d3 := (HB.out.cell (World.block_lt_of_cell? w _ hc3)).trans hc3
      clear HF
      rw [Nat.add_zero] at d0
      have q0 : b0 < wr.heap.size := World.block_lt_of_cell? _ _ d0
      have q1 : ¬ b0 = wr.heap.size := by omega
      have q2 : ¬ b0 = wr.heap.size + 1 := by omega
      have j0 : (0 : Int) ≤ (i : Int) := by omega
      have j1 : (i : Int) < (nl : Int) := by omega
      have j2 : (0 : Int) ≤ (i : Int) + 1 := by omega
      have j3 : (i : Int) + 1 < (nl : Int) := by omega
      have j4 : IntKind.i64.wrap ((i : Int) + 1) = (i : Int) + 1 := IntWalk.i64_in _ (by omega)
      go_wp2_with fail
      refine wp_region_ord (S := (fun w' => ∃ e, w' = later wr e)) [(0, false), (1, false), (2, false), (3, false), (4, false), (5, false), (6, false), (7, false), (8, false), (9, false), (10, true), (11, true)] (by kernel_rfl) (by kernel_rfl) (fun _ _ d _ _ h => by cases d <;> exact h) ⟨_, (later_of (by repeat (first | (with_reducible exact below_later _ _) | (with_reducible exact Below.refl _ _) | (with_reducible assumption) | (with_reducible refine Below.drew ?_) | (with_reducible refine Below.alloc ?_ (by (first | (with_reducible exact Nat.le_refl _) | (with_reducible exact (below_later _ _).size) | omega | (simp; done) | (simp; omega))) _)))).symm⟩ ?_
      simp only [pickO, List.filterMap_cons, List.filterMap_nil, List.getElem?_cons_succ, List.getElem?_cons_zero, Option.map_some]
      repeat (first
        | ((with_reducible refine wpOrd_light (fun K hK => ?_)); go_simp; (first | (with_reducible refine hK _ ?_) | (rw [if_neg (by intro h; cases h)]; with_reducible refine hK _ ?_)); clear hK K)
        | ((with_reducible refine wpOrd_heavy (fun K L hK hL => ?_)); go_simp; (first | (with_reducible refine hL _ ?_) | (rw [if_neg (by intro h; cases h)]; with_reducible refine hL _ ?_)); clear hK hL K L)
        | ((with_reducible refine wpOrd_heavy (fun K L hK hL => ?_)); go_simp; (with_reducible refine hK _ _ ?_ ?_); (focus (exact ⟨_, (later_of (by repeat (first | (with_reducible exact below_later _ _) | (with_reducible exact Below.refl _ _) | (with_reducible assumption) | (with_reducible refine Below.drew ?_) | (with_reducible refine Below.alloc ?_ (by (first | (with_reducible exact Nat.le_refl _) | (with_reducible exact (below_later _ _).size) | omega | (simp; done) | (simp; omega))) _)))).symm⟩)); clear hK hL K L))
      refine wpOrd_nil ?_
      go_wp2_with (at_builtin; refine wpList_append_own _ rfl _ _ 51 rfl w.heap.size 58 i0 _ 4 32 Try.underlying51 HI.out HZ0.out HZ1.out HZ2.out rfl (by decide) _ _ _ rfl (own_below HO.out (by repeat' (first | (with_reducible exact Below.refl _ _) | (with_reducible refine Below.setCell ?_ ?_ _) | (with_reducible refine Below.alloc ?_ ?_ _) | (with_reducible refine Below.drew ?_) | (with_reducible exact Nat.le_refl _) | omega | (simp; done) | (simp; omega)))) ⟨wr.heap.size + 1, 0, none⟩ 1 1 [.float .f64 x0, .float .f64 x1, .float .f64 x2, .float .f64 x3] rfl rfl (RowAt.news (row4.2 ⟨by go_cell, by go_cell, by go_cell, by go_cell, trivial⟩)) (by intro u hu; simp at hu; rcases hu with rfl | rfl | rfl | rfl <;> rfl) (by unfold maxLen; omega) (by omega) (by simp; omega) ?_; intro v' w2 hown' hgr hnil; have HB2 := hid (Below.grown (B := w.heap.size) (a := w) (by repeat' (first | (with_reducible exact HB.out) | (with_reducible refine Below.setCell ?_ ?_ _) | (with_reducible refine Below.alloc ?_ ?_ _) | (with_reducible refine Below.drew ?_) | (with_reducible exact Nat.le_refl _) | omega | (simp; done) | (simp; omega))) hgr (by simp; omega) (fun k hk => (HO.out.lt k hk).1)); have HO2 := hid hown'; clear hown' hgr hnil)
      go_roundw
      case rel => exact ⟨k + 1, i + 4, by rw [HK.out]; omega, by omega, by go_num, by rw [List.range_succ, List.flatMap_append, List.flatMap_singleton, hpl]; exact HO2.out, HB2.out⟩
      case measure => simp [intOf]; omega
    · have HK := hid hk
      clear hk
      go_wp2_with fail
      go_ret
      have e : nl / 4 = k := by have := HK.out; omega
      rw [e]
      exact ⟨_, rfl, HO.out, HB.out⟩
def zB (d : Int) : Bool := d == 1 || d == 3
def mB (d : Int) : Bool := d == 2 || d == 3
/-- the cells of the places of a row of numbers -/
def placesOf (d : Int) (xs : List Nat) : List Value := (List.range (xs.length / widthN d)).flatMap (placeAt (widthN d) (zB d) (mB d) xs)
theorem places (d : Int) (hd : isDim d) (ad : Option Addr) (cp : Nat) (xs : List Nat) (hlen : xs.length < 2000) (w : World) (hF : FRow w ad xs) :
    Calls Try.prog 36 #[.slice ad xs.length cp, .int .i64 d] w fun e w' => ∃ v, e = .returned v ∧ w'.ownsRow w.heap.size 58 4 v (xs.length / widthN d) (placesOf d xs) ∧ Below w.heap.size w w' := by
  rcases hd with rfl | rfl | rfl | rfl
  · exact places0 ad cp xs hlen w hF
  · exact places1 ad cp xs hlen w hF
  · exact places2 ad cp xs hlen w hF
  · exact places3 ad cp xs hlen w hF
end Go.Proofs.Ytbcjlgkdmkehlaa
