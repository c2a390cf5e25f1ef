/- The law FnEnvContains holds of every envelope and place: an envelope with finite ends has just the finite places between its ends, the ends too, and none that is NaN or infinite. The call returns true and leaves memory as it was. Conditions: none. -/
import Derived.Test.YtbcjlgkdmkehlaaRows
import Derived.Test.YtbcjlgkdmkehlaaEof
import Derived.Test.YtbcjlgkdmkehlaaFld
import Derived.Test.YtbcjlgkdmkehlaaRead
namespace Go.Proofs.Ytbcjlgkdmkehlaa
open Go.ChangeShapes Go.WideShapes Go.ChangeAt Go.RowKit Fl
set_option maxRecDepth 100000
theorem fmin_is {a b : Nat} {u v : Rat} (ha : Is a u) (hb : Is b v) : Is (fmin a b) (if u < v then u else v) := by
  unfold fmin
  rw [ha.nanB, Bool.false_or, lt_is ha hb]
  have := ite_is (decide (u < v)) ha hb
  simpa using this
theorem fmax_is {a b : Nat} {u v : Rat} (ha : Is a u) (hb : Is b v) : Is (fmax a b) (if v < u then u else v) := by
  unfold fmax
  rw [ha.nanB, Bool.false_or, gt_is ha hb]
  have := ite_is (decide (v < u)) ha hb
  simpa using this
theorem ltV_is {a b : Nat} {u v : Rat} (ha : Is a u) (hb : Is b v) : ltV a b = decide (u < v) := lt_is ha hb
theorem gtV_is {a b : Nat} {u v : Rat} (ha : Is a u) (hb : Is b v) : gtV a b = decide (v < u) := gt_is ha hb
theorem leV_is {a b : Nat} {u v : Rat} (ha : Is a u) (hb : Is b v) : leV a b = decide (u ≤ v) := le_is ha hb
theorem geV_is {a b : Nat} {u v : Rat} (ha : Is a u) (hb : Is b v) : geV a b = decide (v ≤ u) := ge_is ha hb
theorem lo_same {a c x : Nat} {A C X : Rat} (ha : Is a A) (hc : Is c C) (hx : Is x X) : geV x (fmin a c) = leV (if ltV c a = true then c else a) x := by
  rw [geV_is hx (fmin_is ha hc), leV_is (ite_is (ltV c a) hc ha) hx, ltV_is hc ha, Bool.eq_iff_iff]
  simp only [decide_eq_true_eq]
  grind
theorem hi_same {a c x : Nat} {A C X : Rat} (ha : Is a A) (hc : Is c C) (hx : Is x X) : leV x (fmax a c) = leV x (if gtV c a = true then c else a) := by
  rw [leV_is hx (fmax_is ha hc), leV_is hx (ite_is (gtV c a) hc ha), gtV_is hc ha, Bool.eq_iff_iff]
  simp only [decide_eq_true_eq]
  grind
theorem plain (ax ay cx cy x y : Nat) (h : fin4 ax ay cx cy = true) :
    containsB (ev2 ax ay cx cy) x y = ((finB x && finB y) && (leV (if ltV cx ax then cx else ax) x && leV x (if gtV cx ax then cx else ax) && leV (if ltV cy ay then cy else ay) y && leV y (if gtV cy ay then cy else ay))) := by
  unfold fin4 at h
  simp only [Bool.and_eq_true] at h
  obtain ⟨⟨⟨h1, h2⟩, h3⟩, h4⟩ := h
  obtain ⟨A, ia⟩ := (finB_iff _).1 h1
  obtain ⟨B, ib⟩ := (finB_iff _).1 h2
  obtain ⟨C, ic⟩ := (finB_iff _).1 h3
  obtain ⟨D, id⟩ := (finB_iff _).1 h4
  show (true && (finB x && finB y) && geV x (fmin ax cx) && leV x (fmax ax cx) && geV y (fmin ay cy) && leV y (fmax ay cy)) = _
  cases f1 : finB x
  · rfl
  · cases f2 : finB y
    · rfl
    · obtain ⟨X, ix⟩ := (finB_iff _).1 f1
      obtain ⟨Y, iy⟩ := (finB_iff _).1 f2
      rw [lo_same ia ic ix, hi_same ia ic ix, lo_same ib id iy, hi_same ib id iy]
      simp [Bool.and_assoc]
theorem eOfNil (w : World) : Calls Try.prog 51 #[.slice none 0 0] w fun e w' => e = .returned EV.none.p ∧ Below w.heap.size w w' := by
  go_enter Try.func51, Try.ntmps51
  go_wp2_with fail
  refine wp_loop_rounds 1 ?_
  rw [rounds_succ]
  go_wp2_with fail
  go_returns
  exact ⟨rfl, by go_grown⟩
theorem eCornersT (a b c d : Nat) (w : World) : Calls Try.prog 83 #[.agg #[.bool true, .float .f64 a, .float .f64 b, .float .f64 c, .float .f64 d]] w fun e w' => e = .returned (.slice (some ⟨w.heap.size + 1, 0, none⟩) 2 2) ∧ w' = (w.alloc (.cells #[.bool true, .float .f64 a, .float .f64 b, .float .f64 c, .float .f64 d] 68)).alloc (.cells #[.float .f64 a, .float .f64 b, .float .f64 c, .float .f64 d] 32) := by
  go_enter Try.func83, Try.ntmps83
  go_wp2
  go_ret
  exact ⟨rfl, rfl⟩
theorem eCornersF (a b c d : Nat) (w : World) : Calls Try.prog 83 #[.agg #[.bool false, .float .f64 a, .float .f64 b, .float .f64 c, .float .f64 d]] w fun e w' => e = .returned (.slice none 0 0) ∧ Below w.heap.size w w' := by
  go_enter Try.func83, Try.ntmps83
  go_wp2
  go_ret
  exact ⟨rfl, by go_grown⟩
theorem eMadeF (a b c d : Nat) (w : World) : Calls Try.prog 44 #[.agg #[.bool false, .float .f64 a, .float .f64 b, .float .f64 c, .float .f64 d]] w fun e w' => e = .returned (EV.none.p) ∧ Below w.heap.size w w' := by
  have N := eOfNil
  simp only [EV.p, EV.none] at N
  simp only [EV.p, EV.none]
  replace N := hid N
  go_enter Try.func44, Try.ntmps44
  go_wp2_with fail
  refine lettered (R := fun wz => Calls _ _ _ wz _) (fun wz => wz.cell? ⟨w.heap.size, 0, none⟩ = some (.bool false) ∧ wz.cell? ⟨w.heap.size, 1, none⟩ = some (.float .f64 a) ∧ wz.cell? ⟨w.heap.size, 2, none⟩ = some (.float .f64 b) ∧ wz.cell? ⟨w.heap.size, 3, none⟩ = some (.float .f64 c) ∧ wz.cell? ⟨w.heap.size, 4, none⟩ = some (.float .f64 d) ∧ wz.cell? ⟨w.heap.size + 1, 0, none⟩ = some (.bool false) ∧ wz.cell? ⟨w.heap.size + 1, 1, none⟩ = some (.float .f64 0) ∧ wz.cell? ⟨w.heap.size + 1, 2, none⟩ = some (.float .f64 0) ∧ wz.cell? ⟨w.heap.size + 1, 3, none⟩ = some (.float .f64 0) ∧ wz.cell? ⟨w.heap.size + 1, 4, none⟩ = some (.float .f64 0) ∧ wz.frozen? ⟨w.heap.size + 1, 0, none⟩ = false ∧ wz.frozen? ⟨w.heap.size + 1, 1, none⟩ = false ∧ wz.frozen? ⟨w.heap.size + 1, 2, none⟩ = false ∧ wz.frozen? ⟨w.heap.size + 1, 3, none⟩ = false ∧ wz.frozen? ⟨w.heap.size + 1, 4, none⟩ = false ∧ w.heap.size + 2 ≤ wz.heap.size ∧ Below w.heap.size w wz) ⟨by go_cell, by go_cell, by go_cell, by go_cell, by go_cell, by go_cell, by go_cell, by go_cell, by go_cell, by go_cell, by go_cell, by go_cell, by go_cell, by go_cell, by go_cell, by simp, by go_grown⟩ ?_
  rintro wz ⟨c00, c01, c02, c03, c04, c10, c11, c12, c13, c14, z10, z11, z12, z13, z14, hsz, hb⟩
  have HB := hid hb
  clear hb
  go_wp2_with (first | (go_at_call 83; (with_reducible refine (eCornersF _ _ _ _ _).mono ?_); rintro e w' ⟨rfl, hbl⟩; obtain ⟨nx, rfl⟩ := later1 (lat (wz := wz) (by repeat (first | (with_reducible exact below_later _ _) | (with_reducible exact Below.refl _ _) | (with_reducible assumption) | (with_reducible refine Below.drew ?_) | (with_reducible refine Below.alloc ?_ (by (first | (with_reducible exact Nat.le_refl _) | (with_reducible exact (below_later _ _).size) | omega | (simp; done) | (simp; omega))) _))) hbl); clear hbl) | (go_at_call 51; (with_reducible refine (N.out _).mono ?_); rintro e w' ⟨rfl, hbl⟩; obtain ⟨nx, rfl⟩ := later1 (lat (wz := wz) (by repeat (first | (with_reducible exact below_later _ _) | (with_reducible exact Below.refl _ _) | (with_reducible assumption) | (with_reducible refine Below.drew ?_) | (with_reducible refine Below.alloc ?_ (by (first | (with_reducible exact Nat.le_refl _) | (with_reducible exact (below_later _ _).size) | omega | (simp; done) | (simp; omega))) _))) hbl); clear hbl))
  refine bodyPost_ret (ret1 (b := w.heap.size + 1) (cs := [.bool false, .float .f64 0, .float .f64 0, .float .f64 0, .float .f64 0]) Try.results44 rfl Try.underlying68 rfl (by kernel_rfl) ⟨by go_cell, by go_cell, by go_cell, by go_cell, by go_cell, trivial⟩) rfl ?_
  exact ⟨rfl, by
    have hB := HB.out.trans ((below_later wz nx).mono HB.out.size)
    repeat' (first | (with_reducible exact hB) | (with_reducible refine Below.setCell ?_ ?_ _) | (with_reducible refine Below.alloc ?_ ?_ _) | (with_reducible refine Below.drew ?_) | omega | (simp; done) | (simp; omega))⟩
theorem foldT (a b c d : Nat) : EV.foldO (two a c) (two b d) 2 = ⟨if ltV c a then c else a, if ltV d b then d else b, if gtV c a then c else a, if gtV d b then d else b, true⟩ := rfl
theorem eMadeT (a b c d : Nat) (w : World) : Calls Try.prog 44 #[.agg #[.bool true, .float .f64 a, .float .f64 b, .float .f64 c, .float .f64 d]] w fun e w' => e = .returned (EV.foldO (two a c) (two b d) 2).p ∧ Below w.heap.size w w' := by
  have N := fun (p cp : Nat) (w : World) hp hb => eOf p 0 2 cp (two a c) (two b d) (by omega) w hp hb
  simp only [foldT, EV.p] at N
  simp only [foldT, EV.p]
  generalize (if ltV c a then c else a) = r1 at *
  generalize (if ltV d b then d else b) = r2 at *
  generalize (if gtV c a then c else a) = r3 at *
  generalize (if gtV d b then d else b) = r4 at *
  replace N := hid N
  go_enter Try.func44, Try.ntmps44
  go_wp2_with (go_at_call 83; refine (eCornersT _ _ _ _ _).mono ?_; rintro e w' ⟨rfl, rfl⟩)
  refine lettered (R := fun wz => Calls _ _ _ wz _) (fun wz => wz.cell? ⟨w.heap.size, 0, none⟩ = some (.bool true) ∧ wz.cell? ⟨w.heap.size, 1, none⟩ = some (.float .f64 a) ∧ wz.cell? ⟨w.heap.size, 2, none⟩ = some (.float .f64 b) ∧ wz.cell? ⟨w.heap.size, 3, none⟩ = some (.float .f64 c) ∧ wz.cell? ⟨w.heap.size, 4, none⟩ = some (.float .f64 d) ∧ wz.cell? ⟨w.heap.size + 1, 0, none⟩ = some (.bool false) ∧ wz.cell? ⟨w.heap.size + 1, 1, none⟩ = some (.float .f64 0) ∧ wz.cell? ⟨w.heap.size + 1, 2, none⟩ = some (.float .f64 0) ∧ wz.cell? ⟨w.heap.size + 1, 3, none⟩ = some (.float .f64 0) ∧ wz.cell? ⟨w.heap.size + 1, 4, none⟩ = some (.float .f64 0) ∧ wz.frozen? ⟨w.heap.size + 1, 0, none⟩ = false ∧ wz.frozen? ⟨w.heap.size + 1, 1, none⟩ = false ∧ wz.frozen? ⟨w.heap.size + 1, 2, none⟩ = false ∧ wz.frozen? ⟨w.heap.size + 1, 3, none⟩ = false ∧ wz.frozen? ⟨w.heap.size + 1, 4, none⟩ = false ∧ XYsAt wz (w.heap.size + 1 + 1 + 1) 0 2 (two a c) (two b d) ∧ w.heap.size + 4 ≤ wz.heap.size ∧ Below w.heap.size w wz) ⟨by go_cell, by go_cell, by go_cell, by go_cell, by go_cell, by go_cell, by go_cell, by go_cell, by go_cell, by go_cell, by go_cell, by go_cell, by go_cell, by go_cell, by go_cell, twoPts _ _ (by simp) a b c d 32, by simp, by go_grown⟩ ?_
  rintro wz ⟨c00, c01, c02, c03, c04, c10, c11, c12, c13, c14, z10, z11, z12, z13, z14, hp, hsz, hb⟩
  have HB := hid hb
  clear hb
  have hq : w.heap.size + 1 + 1 + 1 < wz.heap.size := by omega
  have N2 := hid (N.out _ 2 _ hp hq)
  clear hp
  go_wp2_with (first | (go_at_call 51; (with_reducible refine (N2.out).mono ?_); rintro e w' ⟨rfl, hbl⟩; obtain ⟨nx, rfl⟩ := later1 (lat (wz := wz) (by repeat (first | (with_reducible exact below_later _ _) | (with_reducible exact Below.refl _ _) | (with_reducible assumption) | (with_reducible refine Below.drew ?_) | (with_reducible refine Below.alloc ?_ (by (first | (with_reducible exact Nat.le_refl _) | (with_reducible exact (below_later _ _).size) | omega | (simp; done) | (simp; omega))) _))) hbl); clear hbl))
  refine bodyPost_ret (ret1 (b := w.heap.size + 1) (cs := [.bool true, .float .f64 r1, .float .f64 r2, .float .f64 r3, .float .f64 r4]) Try.results44 rfl Try.underlying68 rfl (by kernel_rfl) ⟨by go_cell, by go_cell, by go_cell, by go_cell, by go_cell, trivial⟩) rfl ?_
  exact ⟨rfl, by
    have hB := HB.out.trans ((below_later wz nx).mono HB.out.size)
    repeat' (first | (with_reducible exact hB) | (with_reducible refine Below.setCell ?_ ?_ _) | (with_reducible refine Below.alloc ?_ ?_ _) | (with_reducible refine Below.drew ?_) | omega | (simp; done) | (simp; omega))⟩
theorem envContains (ev : EV) (x y : Nat) (hx : x < 18446744073709551616) (hy : y < 18446744073709551616) (full : Bool) (a b c d : Nat) (hE : ∀ w, Calls Try.prog 80 #[.agg #[.bool full, .float .f64 a, .float .f64 b, .float .f64 c, .float .f64 d]] w fun e w' => e = .returned ev.v ∧ Below w.heap.size w w') (w : World) :
    Calls Try.prog 41 #[.agg #[.bool full, .float .f64 a, .float .f64 b, .float .f64 c, .float .f64 d], .agg #[.float .f64 x, .float .f64 y]] w fun e w' => e = .returned (.bool (containsB ev x y)) ∧ Below w.heap.size w w' := by
  have C := contains ev x y hx hy
  generalize containsB ev x y = r at *
  obtain ⟨lx, ly, hx', hy', fb⟩ := ev
  simp only [EV.v] at *
  replace C := hid C
  replace hE := hid hE
  clear hx hy
  go_enter Try.func41, Try.ntmps41
  go_wp2_with fail
  refine lettered (R := fun wz => Code.wp _ _ _ _ wz) (fun wz => wz.cell? ⟨w.heap.size, 0, none⟩ = some (.bool full) ∧ wz.cell? ⟨w.heap.size, 1, none⟩ = some (.float .f64 a) ∧ wz.cell? ⟨w.heap.size, 2, none⟩ = some (.float .f64 b) ∧ wz.cell? ⟨w.heap.size, 3, none⟩ = some (.float .f64 c) ∧ wz.cell? ⟨w.heap.size, 4, none⟩ = some (.float .f64 d) ∧ wz.cell? ⟨w.heap.size + 1, 0, none⟩ = some (.float .f64 x) ∧ wz.cell? ⟨w.heap.size + 1, 1, none⟩ = some (.float .f64 y) ∧ w.heap.size + 2 ≤ wz.heap.size ∧ Below w.heap.size w wz) ⟨by go_cell, by go_cell, by go_cell, by go_cell, by go_cell, by go_cell, by go_cell, by simp, by go_grown⟩ ?_
  rintro wz ⟨c00, c01, c02, c03, c04, c10, c11, hsz, hb⟩
  have HB := hid hb
  clear hb
  refine wp_region_calm (by kernel_rfl) (by kernel_rfl) ?_
  repeat (go_big_quiet_step (first | (go_at_call 80; (with_reducible exact calm_of (hE.out _))) | (go_at_call 59; (with_reducible exact calm_of (implXY _ _ _))) | (go_at_call 81; (with_reducible exact calm_of (C.out _)))))
  refine wpQuiet_nil ?_
  rintro _ ⟨nq, rfl⟩
  go_wp2_with fail
  go_ret
  exact ⟨rfl, HB.out.trans ((below_later _ _).mono HB.out.size)⟩
namespace fnEnvContains
theorem has_eq (a b c d x y : Nat) (h : fin4 a b c d = true) (hf : (finB x && finB y) = true) : (leV (EV.foldO (two a c) (two b d) 2).lx x && leV x (EV.foldO (two a c) (two b d) 2).hx && leV (EV.foldO (two a c) (two b d) 2).ly y && leV y (EV.foldO (two a c) (two b d) 2).hy) = containsB (ev2 a b c d) x y := by
  rw [plain a b c d x y h, hf, Bool.true_and]
  simp only [foldT]
theorem nofin (a b c d x y : Nat) (h : fin4 a b c d = true) (hf : (finB x && finB y) = false) : containsB (ev2 a b c d) x y = false := by
  rw [plain a b c d x y h, hf, Bool.false_and]
set_option maxHeartbeats 1600000 in
/-- what the law comes to, given what its parts return -/
theorem core (full : Bool) (a b c d x y : Nat) (ha : a < 18446744073709551616) (hb : b < 18446744073709551616) (hc : c < 18446744073709551616) (hd : d < 18446744073709551616) (hx : x < 18446744073709551616) (hy : y < 18446744073709551616) (r : Bool) (mf : Bool) (m1 m2 m3 m4 : Nat)
    (hF : (!full || fin4 a b c d) = true)
    (hC : ∀ w, Calls Try.prog 41 #[.agg #[.bool full, .float .f64 a, .float .f64 b, .float .f64 c, .float .f64 d], .agg #[.float .f64 x, .float .f64 y]] w fun e w' => e = .returned (.bool r) ∧ Below w.heap.size w w')
    (hM : ∀ w, Calls Try.prog 44 #[.agg #[.bool full, .float .f64 a, .float .f64 b, .float .f64 c, .float .f64 d]] w fun e w' => e = .returned (.agg #[.bool mf, .float .f64 m1, .float .f64 m2, .float .f64 m3, .float .f64 m4]) ∧ Below w.heap.size w w')
    (h1 : (finB x && finB y) = true → (mf && leV m1 x && leV x m3 && leV m2 y && leV y m4) = r) (h2 : (finB x && finB y) = false → r = false) (w : World) :
    Calls Try.prog 11 #[.agg #[.bool full, .float .f64 a, .float .f64 b, .float .f64 c, .float .f64 d], .agg #[.float .f64 x, .float .f64 y]] w fun e w' => e = .returned (.bool true) ∧ Below w.heap.size w w' := by
  have EF := fun (p : Nat) (w : World) hr => eFits1 p 1 full a b c d ha hb hc hd w hr
  rw [hF] at EF
  have G1 := hid (fun w => quiet_below (gFinite x hx w))
  have G2 := hid (fun w => quiet_below (gFinite y hy w))
  have EH := eHas mf m1 m2 m3 m4 x y
  replace EF := hid EF
  replace hC := hid hC
  replace hM := hid hM
  clear ha hb hc hd hx hy hF
  generalize finB x = fx at *
  generalize finB y = fy at *
  cases fx
  case' true => cases fy
  case' true.true =>
    have k := h1 rfl
    rw [k] at EH
    clear k
  case' true.false =>
    have k := h2 rfl
    subst k
  case' false =>
    have k := h2 rfl
    subst k
  all_goals
    replace EH := hid EH
    clear h1 h2
    go_enter Try.func11, Try.ntmps11
    go_wp2_with fail
    refine lettered (R := fun wz => Code.wp _ _ _ _ wz) (fun wz => wz.cell? ⟨w.heap.size, 0, none⟩ = some (.bool full) ∧ wz.cell? ⟨w.heap.size, 1, none⟩ = some (.float .f64 a) ∧ wz.cell? ⟨w.heap.size, 2, none⟩ = some (.float .f64 b) ∧ wz.cell? ⟨w.heap.size, 3, none⟩ = some (.float .f64 c) ∧ wz.cell? ⟨w.heap.size, 4, none⟩ = some (.float .f64 d) ∧ wz.cell? ⟨w.heap.size + 1, 0, none⟩ = some (.float .f64 x) ∧ wz.cell? ⟨w.heap.size + 1, 1, none⟩ = some (.float .f64 y) ∧ w.heap.size + 2 ≤ wz.heap.size ∧ Below w.heap.size w wz) ⟨by go_cell, by go_cell, by go_cell, by go_cell, by go_cell, by go_cell, by go_cell, by simp, by go_grown⟩ ?_
    rintro wz ⟨c00, c01, c02, c03, c04, c10, c11, hsz, hb⟩
    have HB := hid hb
    clear hb
    refine wp_region_ord (S := (fun w' => ∃ e, w' = later wz e)) [(0, false), (1, true), (2, true), (3, false), (4, false), (5, false), (6, false), (8, false), (9, false), (7, true), (10, true), (11, false), (12, false), (13, false), (14, true), (15, false), (16, false), (17, false), (19, false), (18, true), (20, true), (21, false), (22, false), (23, false), (24, false)] (by kernel_rfl) (by kernel_rfl) (fun _ _ d _ _ h => by cases d <;> exact h) ⟨_, (later_of (by repeat (first | (with_reducible exact below_later _ _) | (with_reducible exact Below.refl _ _) | (with_reducible assumption) | (with_reducible refine Below.drew ?_) | (with_reducible refine Below.alloc ?_ (by (first | (with_reducible exact Nat.le_refl _) | (with_reducible exact (below_later _ _).size) | omega | (simp; done) | (simp; omega))) _)))).symm⟩ ?_
    simp only [pickO, List.filterMap_cons, List.filterMap_nil, List.getElem?_cons_succ, List.getElem?_cons_zero, Option.map_some]
    repeat (first
      | ((with_reducible refine wpOrd_light (fun K hK => ?_)); go_simp; (first | (with_reducible refine hK _ ?_) | (rw [if_neg (by intro h; cases h)]; with_reducible refine hK _ ?_)); clear hK K)
      | ((with_reducible refine wpOrd_heavy (fun K L hK hL => ?_)); go_simp; (first | (with_reducible refine hL _ ?_) | (rw [if_neg (by intro h; cases h)]; with_reducible refine hL _ ?_)); clear hK hL K L)
      | ((with_reducible refine wpOrd_heavy (fun K L hK hL => ?_)); go_simp; (with_reducible refine hK _ _ ?_ ?_); (focus (exact ⟨_, (later_of (by repeat (first | (with_reducible exact below_later _ _) | (with_reducible exact Below.refl _ _) | (with_reducible assumption) | (with_reducible refine Below.drew ?_) | (with_reducible refine Below.alloc ?_ (by (first | (with_reducible exact Nat.le_refl _) | (with_reducible exact (below_later _ _).size) | omega | (simp; done) | (simp; omega))) _)))).symm⟩)); clear hK hL K L)
      | ((with_reducible refine wpOrd_heavy (fun K L hK hL => ?_)); go_simp; go_at_call 40; (with_reducible refine (EF.out _ _ (row5.2 ⟨by go_cell, by go_cell, by go_cell, by go_cell, by go_cell, trivial⟩)).mono ?_); rintro e w' ⟨rfl, hbl⟩; obtain ⟨nx, rfl⟩ := later1 (lat (wz := wz) (by repeat (first | (with_reducible exact below_later _ _) | (with_reducible exact Below.refl _ _) | (with_reducible assumption) | (with_reducible refine Below.drew ?_) | (with_reducible refine Below.alloc ?_ (by (first | (with_reducible exact Nat.le_refl _) | (with_reducible exact (below_later _ _).size) | omega | (simp; done) | (simp; omega))) _))) hbl); clear hbl; go_simp; (with_reducible refine hK _ _ ?_ ?_); (focus (exact ⟨_, (later_of (by repeat (first | (with_reducible exact below_later _ _) | (with_reducible exact Below.refl _ _) | (with_reducible assumption) | (with_reducible refine Below.drew ?_) | (with_reducible refine Below.alloc ?_ (by (first | (with_reducible exact Nat.le_refl _) | (with_reducible exact (below_later _ _).size) | omega | (simp; done) | (simp; omega))) _)))).symm⟩)); clear hK hL K L)
      | ((with_reducible refine wpOrd_heavy (fun K L hK hL => ?_)); go_simp; go_at_call 41; (with_reducible refine (hC.out _).mono ?_); rintro e w' ⟨rfl, hbl⟩; obtain ⟨nx, rfl⟩ := later1 (lat (wz := wz) (by repeat (first | (with_reducible exact below_later _ _) | (with_reducible exact Below.refl _ _) | (with_reducible assumption) | (with_reducible refine Below.drew ?_) | (with_reducible refine Below.alloc ?_ (by (first | (with_reducible exact Nat.le_refl _) | (with_reducible exact (below_later _ _).size) | omega | (simp; done) | (simp; omega))) _))) hbl); clear hbl; go_simp; (with_reducible refine hK _ _ ?_ ?_); (focus (exact ⟨_, (later_of (by repeat (first | (with_reducible exact below_later _ _) | (with_reducible exact Below.refl _ _) | (with_reducible assumption) | (with_reducible refine Below.drew ?_) | (with_reducible refine Below.alloc ?_ (by (first | (with_reducible exact Nat.le_refl _) | (with_reducible exact (below_later _ _).size) | omega | (simp; done) | (simp; omega))) _)))).symm⟩)); clear hK hL K L)
      | ((with_reducible refine wpOrd_heavy (fun K L hK hL => ?_)); go_simp; go_at_call 42; (with_reducible refine (G1.out _).mono ?_); rintro e w' ⟨rfl, hbl⟩; obtain ⟨nx, rfl⟩ := later1 (lat (wz := wz) (by repeat (first | (with_reducible exact below_later _ _) | (with_reducible exact Below.refl _ _) | (with_reducible assumption) | (with_reducible refine Below.drew ?_) | (with_reducible refine Below.alloc ?_ (by (first | (with_reducible exact Nat.le_refl _) | (with_reducible exact (below_later _ _).size) | omega | (simp; done) | (simp; omega))) _))) hbl); clear hbl; go_simp; (with_reducible refine hK _ _ ?_ ?_); (focus (exact ⟨_, (later_of (by repeat (first | (with_reducible exact below_later _ _) | (with_reducible exact Below.refl _ _) | (with_reducible assumption) | (with_reducible refine Below.drew ?_) | (with_reducible refine Below.alloc ?_ (by (first | (with_reducible exact Nat.le_refl _) | (with_reducible exact (below_later _ _).size) | omega | (simp; done) | (simp; omega))) _)))).symm⟩)); clear hK hL K L)
      | ((with_reducible refine wpOrd_heavy (fun K L hK hL => ?_)); go_simp; go_at_call 42; (with_reducible refine (G2.out _).mono ?_); rintro e w' ⟨rfl, hbl⟩; obtain ⟨nx, rfl⟩ := later1 (lat (wz := wz) (by repeat (first | (with_reducible exact below_later _ _) | (with_reducible exact Below.refl _ _) | (with_reducible assumption) | (with_reducible refine Below.drew ?_) | (with_reducible refine Below.alloc ?_ (by (first | (with_reducible exact Nat.le_refl _) | (with_reducible exact (below_later _ _).size) | omega | (simp; done) | (simp; omega))) _))) hbl); clear hbl; go_simp; (with_reducible refine hK _ _ ?_ ?_); (focus (exact ⟨_, (later_of (by repeat (first | (with_reducible exact below_later _ _) | (with_reducible exact Below.refl _ _) | (with_reducible assumption) | (with_reducible refine Below.drew ?_) | (with_reducible refine Below.alloc ?_ (by (first | (with_reducible exact Nat.le_refl _) | (with_reducible exact (below_later _ _).size) | omega | (simp; done) | (simp; omega))) _)))).symm⟩)); clear hK hL K L)
      | ((with_reducible refine wpOrd_heavy (fun K L hK hL => ?_)); go_simp; go_at_call 44; (with_reducible refine (hM.out _).mono ?_); rintro e w' ⟨rfl, hbl⟩; obtain ⟨nx, rfl⟩ := later1 (lat (wz := wz) (by repeat (first | (with_reducible exact below_later _ _) | (with_reducible exact Below.refl _ _) | (with_reducible assumption) | (with_reducible refine Below.drew ?_) | (with_reducible refine Below.alloc ?_ (by (first | (with_reducible exact Nat.le_refl _) | (with_reducible exact (below_later _ _).size) | omega | (simp; done) | (simp; omega))) _))) hbl); clear hbl; go_simp; (with_reducible refine hK _ _ ?_ ?_); (focus (exact ⟨_, (later_of (by repeat (first | (with_reducible exact below_later _ _) | (with_reducible exact Below.refl _ _) | (with_reducible assumption) | (with_reducible refine Below.drew ?_) | (with_reducible refine Below.alloc ?_ (by (first | (with_reducible exact Nat.le_refl _) | (with_reducible exact (below_later _ _).size) | omega | (simp; done) | (simp; omega))) _)))).symm⟩)); clear hK hL K L)
      | ((with_reducible refine wpOrd_heavy (fun K L hK hL => ?_)); go_simp; go_at_call 43; (with_reducible refine (EH.out _).mono ?_); rintro e w' ⟨rfl, hbl⟩; obtain ⟨nx, rfl⟩ := later1 (lat (wz := wz) (by repeat (first | (with_reducible exact below_later _ _) | (with_reducible exact Below.refl _ _) | (with_reducible assumption) | (with_reducible refine Below.drew ?_) | (with_reducible refine Below.alloc ?_ (by (first | (with_reducible exact Nat.le_refl _) | (with_reducible exact (below_later _ _).size) | omega | (simp; done) | (simp; omega))) _))) hbl); clear hbl; go_simp; (with_reducible refine hK _ _ ?_ ?_); (focus (exact ⟨_, (later_of (by repeat (first | (with_reducible exact below_later _ _) | (with_reducible exact Below.refl _ _) | (with_reducible assumption) | (with_reducible refine Below.drew ?_) | (with_reducible refine Below.alloc ?_ (by (first | (with_reducible exact Nat.le_refl _) | (with_reducible exact (below_later _ _).size) | omega | (simp; done) | (simp; omega))) _)))).symm⟩)); clear hK hL K L))
    refine wpOrd_nil ?_
    go_wp2_with fail
    go_ret
    exact ⟨rfl, HB.out.trans ((below_later _ _).mono HB.out.size)⟩
set_option maxHeartbeats 1600000 in
theorem unfit (a b c d x y : Nat) (ha : a < 18446744073709551616) (hb : b < 18446744073709551616) (hc : c < 18446744073709551616) (hd : d < 18446744073709551616) (hF : fin4 a b c d = false) (w : World) :
    Calls Try.prog 11 #[.agg #[.bool true, .float .f64 a, .float .f64 b, .float .f64 c, .float .f64 d], .agg #[.float .f64 x, .float .f64 y]] w fun e w' => e = .returned (.bool true) ∧ Below w.heap.size w w' := by
  have EF := fun (p : Nat) (w : World) hr => eFits1 p 1 true a b c d ha hb hc hd w hr
  rw [hF] at EF
  simp only [Bool.not_true, Bool.or_self] at EF
  replace EF := hid EF
  clear ha hb hc hd hF
  go_enter Try.func11, Try.ntmps11
  go_wp2_with fail
  refine lettered (R := fun wz => Code.wp _ _ _ _ wz) (fun wz => wz.cell? ⟨w.heap.size, 0, none⟩ = some (.bool true) ∧ wz.cell? ⟨w.heap.size, 1, none⟩ = some (.float .f64 a) ∧ wz.cell? ⟨w.heap.size, 2, none⟩ = some (.float .f64 b) ∧ wz.cell? ⟨w.heap.size, 3, none⟩ = some (.float .f64 c) ∧ wz.cell? ⟨w.heap.size, 4, none⟩ = some (.float .f64 d) ∧ wz.cell? ⟨w.heap.size + 1, 0, none⟩ = some (.float .f64 x) ∧ wz.cell? ⟨w.heap.size + 1, 1, none⟩ = some (.float .f64 y) ∧ w.heap.size + 2 ≤ wz.heap.size ∧ Below w.heap.size w wz) ⟨by go_cell, by go_cell, by go_cell, by go_cell, by go_cell, by go_cell, by go_cell, by simp, by go_grown⟩ ?_
  rintro wz ⟨c00, c01, c02, c03, c04, c10, c11, hsz, hb⟩
  have HB := hid hb
  clear hb
  refine wp_region_ord (S := (fun w' => ∃ e, w' = later wz e)) [(0, false), (1, true), (2, true), (3, false), (4, false), (5, false), (6, false), (8, false), (9, false), (7, true), (10, true), (11, false), (12, false), (13, false), (14, true), (15, false), (16, false), (17, false), (19, false), (18, true), (20, true), (21, false), (22, false), (23, false), (24, false)] (by kernel_rfl) (by kernel_rfl) (fun _ _ d _ _ h => by cases d <;> exact h) ⟨_, (later_of (by repeat (first | (with_reducible exact below_later _ _) | (with_reducible exact Below.refl _ _) | (with_reducible assumption) | (with_reducible refine Below.drew ?_) | (with_reducible refine Below.alloc ?_ (by (first | (with_reducible exact Nat.le_refl _) | (with_reducible exact (below_later _ _).size) | omega | (simp; done) | (simp; omega))) _)))).symm⟩ ?_
  simp only [pickO, List.filterMap_cons, List.filterMap_nil, List.getElem?_cons_succ, List.getElem?_cons_zero, Option.map_some]
  repeat (first
    | ((with_reducible refine wpOrd_light (fun K hK => ?_)); go_simp; (first | (with_reducible refine hK _ ?_) | (rw [if_neg (by intro h; cases h)]; with_reducible refine hK _ ?_)); clear hK K)
    | ((with_reducible refine wpOrd_heavy (fun K L hK hL => ?_)); go_simp; (first | (with_reducible refine hL _ ?_) | (rw [if_neg (by intro h; cases h)]; with_reducible refine hL _ ?_)); clear hK hL K L)
    | ((with_reducible refine wpOrd_heavy (fun K L hK hL => ?_)); go_simp; (with_reducible refine hK _ _ ?_ ?_); (focus (exact ⟨_, (later_of (by repeat (first | (with_reducible exact below_later _ _) | (with_reducible exact Below.refl _ _) | (with_reducible assumption) | (with_reducible refine Below.drew ?_) | (with_reducible refine Below.alloc ?_ (by (first | (with_reducible exact Nat.le_refl _) | (with_reducible exact (below_later _ _).size) | omega | (simp; done) | (simp; omega))) _)))).symm⟩)); clear hK hL K L)
    | ((with_reducible refine wpOrd_heavy (fun K L hK hL => ?_)); go_simp; go_at_call 40; (with_reducible refine (EF.out _ _ (row5.2 ⟨by go_cell, by go_cell, by go_cell, by go_cell, by go_cell, trivial⟩)).mono ?_); rintro e w' ⟨rfl, hbl⟩; obtain ⟨nx, rfl⟩ := later1 (lat (wz := wz) (by repeat (first | (with_reducible exact below_later _ _) | (with_reducible exact Below.refl _ _) | (with_reducible assumption) | (with_reducible refine Below.drew ?_) | (with_reducible refine Below.alloc ?_ (by (first | (with_reducible exact Nat.le_refl _) | (with_reducible exact (below_later _ _).size) | omega | (simp; done) | (simp; omega))) _))) hbl); clear hbl; go_simp; (with_reducible refine hK _ _ ?_ ?_); (focus (exact ⟨_, (later_of (by repeat (first | (with_reducible exact below_later _ _) | (with_reducible exact Below.refl _ _) | (with_reducible assumption) | (with_reducible refine Below.drew ?_) | (with_reducible refine Below.alloc ?_ (by (first | (with_reducible exact Nat.le_refl _) | (with_reducible exact (below_later _ _).size) | omega | (simp; done) | (simp; omega))) _)))).symm⟩)); clear hK hL K L))
  refine wpOrd_nil ?_
  go_wp2_with fail
  go_ret
  exact ⟨rfl, HB.out.trans ((below_later _ _).mono HB.out.size)⟩
theorem walk (full : Bool) (a b c d x y : Nat) (ha : a < 18446744073709551616) (hb : b < 18446744073709551616) (hc : c < 18446744073709551616) (hd : d < 18446744073709551616) (hx : x < 18446744073709551616) (hy : y < 18446744073709551616) (w : World) :
    Calls Try.prog 11 #[.agg #[.bool full, .float .f64 a, .float .f64 b, .float .f64 c, .float .f64 d], .agg #[.float .f64 x, .float .f64 y]] w fun e w' => e = .returned (.bool true) ∧ Below w.heap.size w w' := by
  cases full with
  | false =>
    exact core false a b c d x y ha hb hc hd hx hy false false 0 0 0 0 rfl
      (fun w => envContains EV.none x y hx hy false a b c d (fun w => envelopeN a b c d w) w)
      (fun w => eMadeF a b c d w) (fun _ => rfl) (fun _ => rfl) w
  | true =>
    cases hF : fin4 a b c d with
    | false => exact unfit a b c d x y ha hb hc hd hF w
    | true =>
      exact core true a b c d x y ha hb hc hd hx hy (containsB (ev2 a b c d) x y) true _ _ _ _ (by rw [hF]; rfl)
        (fun w => envContains (ev2 a b c d) x y hx hy true a b c d (fun w => envelopeT a b c d w) w)
        (fun w => eMadeT a b c d w) (fun h => by rw [← has_eq a b c d x y hF h]; simp only [foldT, Bool.true_and]) (fun h => nofin a b c d x y hF h) w
set_option maxRecDepth 100000 in
theorem lifted (os : Os) (started : os.Started) (H : Type) (enc : TypeId × Value → H) :
    ReturnsInHanded {} Try.checked os 11 .any (Rows.fnEnvContainsSpec.pre6 enc Try.prog Try.f11 Rows.fnEnvContainsRow.domain false) (Rows.fnEnvContainsSpec.post enc Try.prog Try.f11 false true false false) := by
  refine returnsInHanded_of_change (C := Try.checked) own started (by kernel_rfl) Try.func11
    (ChangeSpec.witness6 (enc := enc) (C := Try.checked) false ⟨#[], #[.agg #[.bool false, .float .f64 0, .float .f64 0, .float .f64 0, .float .f64 0], .agg #[.float .f64 0, .float .f64 0]], []⟩ 16 (by kernel_rfl) (by kernel_rfl) (by kernel_rfl) (by kernel_rfl)) ?_
  intro W base args ds gs before hval0 hW hcnd _
  have hval : ∀ (j : Nat) t v, Try.f11.params[j]? = some t → args[j]? = some v → Value.okWide Try.prog W .any base t v := hval0
  have hW' := hW
  obtain ⟨p, q, hA0, hV, rfl, hfz, hnd⟩ := hW
  have hA : DataW.TrodAll enc Try.prog W 0 (fun _ => true) true Try.f11.params.toList args.toList ds p := hA0
  rw [Try.params11] at hA hval
  obtain ⟨v0, vs0, d0, ds0, p0, q0, hargs, rfl, rfl, h0, r0⟩ := trodAll_cons hA
  obtain ⟨v1, vs1, d1, ds1, p1, q1, rfl, rfl, rfl, h1, r1⟩ := trodAll_cons r0
  obtain ⟨rfl, rfl, rfl⟩ := trodAll_nil r1
  obtain rfl : args = #[v0, v1] := by cases args; simp_all
  obtain ⟨rfl, rfl⟩ := trodVars_none hV
  have lt0 : ∀ x ∈ p0, x.block < W.heap.size := by obtain ⟨m, hm⟩ := h0; exact DataW.trod_lt m _ _ _ hm
  have lt1 : ∀ x ∈ p1, x.block < W.heap.size := by obtain ⟨m, hm⟩ := h1; exact DataW.trod_lt m _ _ _ hm
  obtain ⟨ef, e1, e2, e3, e4, rfl, u1, u2, u3, u4⟩ := readEnv (hval 0 _ _ rfl rfl)
  obtain ⟨x, y, rfl, ux, uy⟩ := readXY (hval 1 _ _ rfl rfl) ⟨_, h1.choose_spec⟩
  clear hA0 hval0
  refine (walk ef e1 e2 e3 e4 x y u1 u2 u3 u4 ux uy W).mono fun e W' ⟨he, bel⟩ => ?_
  subst he
  exact ⟨_, rfl, _, _, _, [], _, [], hW', trodAll_mk1 (shut_bool Try.underlying4 _), (trodAll_cons_mk (Below.trod laidOut (by kernel_rfl) (of_decide_eq_true (by kernel_rfl)) h0 bel lt0) (trodAll_cons_mk (Below.trod laidOut (by kernel_rfl) (of_decide_eq_true (by kernel_rfl)) h1 bel lt1) trodAll_mk0)), rfl, bel.frame _, fun h => by cases h⟩

theorem over : Rows.fnEnvContainsRow.holds Try.pinned (OpenSpec.ofChange Rows.fnEnvContainsSpec) :=
  OpenClaim.holds_of_wide 11 Try.f11 rfl rfl rfl rfl rfl rfl rfl ⟨rfl, rfl, rfl, rfl, rfl⟩ rfl rfl rfl rfl rfl (by kernel_rfl) Try.func11 (by kernel_rfl)
    (of_decide_eq_true (by kernel_rfl)) (by unfold Func.isWrapper; first | (rw [if_pos (by decide +kernel)]; kernel_rfl) | (rw [if_neg (by decide +kernel)]; exact ⟨rfl, rfl⟩))
    (fun os started H enc _ => lifted os started H enc)

theorem proved : Rows.FnEnvContainsSaid := over
end fnEnvContains
end Go.Proofs.Ytbcjlgkdmkehlaa
