/- The law FnXYScale holds of every place and factor: whole numbers from -2^20 to 2^20 are multiplied exactly. The call returns true and leaves memory as it was. Conditions: none. -/
import Derived.Test.YtbcjlgkdmkehlaaRows
import Derived.Test.YtbcjlgkdmkehlaaWhole
import Derived.Test.YtbcjlgkdmkehlaaRead
namespace Go.Proofs.Ytbcjlgkdmkehlaa
open Go.ChangeShapes Go.WideShapes Go.ChangeAt Go.RowKit Fl
set_option maxRecDepth 100000
namespace fnXYScale
theorem vWhole1 (b c x y : Nat) (w : World) (h0 : w.cell? ⟨b, 0, none⟩ = some (.float .f64 x)) (h1 : w.cell? ⟨b, 1, none⟩ = some (.float .f64 y)) :
    Calls Try.prog 25 #[.slice (some ⟨b, 0, none⟩) 1 c] w fun e w' => e = .returned (.bool (wholeB x && wholeB y)) ∧ Below w.heap.size w w' := by
  cases ex : wholeB x <;> cases ey : wholeB y
  all_goals
    have EX := hid ex
    have EY := hid ey
    clear ex ey
    go_enter Try.func25, Try.ntmps25
    go_wp2_with fail
    refine wp_loop_rounds 2 ?_
    rw [rounds_succ]
    go_wp2_with (first | (go_at_call_of 26 x; refine (gWhole x _).mono ?_; rw [EX.out]; rintro e w1 ⟨rfl, hbl⟩; have k1 := (hbl.cell (p := ⟨w.heap.size, 1, none⟩) (by simp)).trans (show _ = some (.float .f64 y) by go_cell)) | (go_at_call_of 26 y; refine (gWhole y _).mono ?_; rw [EY.out]; rintro e w2 ⟨rfl, hbl2⟩))
  · go_ret
    exact ⟨rfl, ((Below.refl _ _).alloc (Nat.le_refl _) _).trans (hbl.mono (by simp))⟩
  · go_ret
    exact ⟨rfl, ((Below.refl _ _).alloc (Nat.le_refl _) _).trans (hbl.mono (by simp))⟩
  · go_ret
    exact ⟨rfl, ((Below.refl _ _).alloc (Nat.le_refl _) _).trans ((hbl.mono (by simp)).trans (hbl2.mono (by have := hbl.size; simp at this; omega)))⟩
  · rw [rounds_succ]
    go_wp2_with fail
    go_ret
    exact ⟨rfl, ((Below.refl _ _).alloc (Nat.le_refl _) _).trans ((hbl.mono (by simp)).trans (hbl2.mono (by have := hbl.size; simp at this; omega)))⟩
theorem scale {ax ay s : Nat} {AX AY S : Int} (iax : IsI ax AX) (iay : IsI ay AY) (is : IsI s S) (h1 : -9007199254740992 ≤ AX * S) (h2 : AX * S ≤ 9007199254740992) (h3 : -9007199254740992 ≤ AY * S) (h4 : AY * S ≤ 9007199254740992) :
    ∃ rx ry, IsI rx (AX * S) ∧ IsI ry (AY * S) ∧ ∀ w, Calls Try.prog 65 #[.agg #[.float .f64 ax, .float .f64 ay], .float .f64 s] w fun e w' => e = .returned (.agg #[.float .f64 rx, .float .f64 ry]) ∧ Below w.heap.size w w' := by
  obtain ⟨rx, q1, i1⟩ := mulI iax is h1 h2
  obtain ⟨ry, q2, i2⟩ := mulI iay is h3 h4
  refine ⟨rx, ry, i1, i2, fun w => ?_⟩
  have k1 := fMul (P := Try.prog) 29 q1
  have k2 := fMul (P := Try.prog) 29 q2
  clear iax iay is q1 q2 i1 i2 h1 h2 h3 h4
  go_enter Try.func65, Try.ntmps65
  go_wp2
  go_returns
  exact ⟨rfl, by go_grown⟩
theorem plainXY (x y : Nat) (w : World) : Calls Try.prog 64 #[.agg #[.float .f64 x, .float .f64 y]] w fun e w' => e = .returned (.agg #[.float .f64 x, .float .f64 y]) ∧ Below w.heap.size w w' := by
  go_enter Try.func64, Try.ntmps64
  go_wp2
  go_returns
  exact ⟨rfl, by go_grown⟩
theorem vAt (x y : Int) (w : World) : Calls Try.prog 28 #[.int .i64 x, .int .i64 y] w fun e w' => e = .returned (.agg #[.float .f64 (floatOfInt .f64 x), .float .f64 (floatOfInt .f64 y)]) ∧ Below w.heap.size w w' := by
  go_enter Try.func28, Try.ntmps28
  go_wp2
  go_returns
  exact ⟨rfl, by go_grown⟩
theorem implScale {ax ay s rx ry : Nat} (h : ∀ w, Calls Try.prog 65 #[.agg #[.float .f64 ax, .float .f64 ay], .float .f64 s] w fun e w' => e = .returned (.agg #[.float .f64 rx, .float .f64 ry]) ∧ Below w.heap.size w w') (w : World) :
    Calls Try.prog 27 #[.agg #[.float .f64 ax, .float .f64 ay], .float .f64 s] w fun e w' => e = .returned (.agg #[.float .f64 rx, .float .f64 ry]) ∧ Below w.heap.size w w' := by
  have H := hid h
  clear h
  go_enter Try.func27, Try.ntmps27
  go_wp2_with fail
  refine lettered (R := fun wz => Calls _ _ _ wz _) (fun wz => wz.cell? ⟨w.heap.size, 0, none⟩ = some (.float .f64 ax) ∧ wz.cell? ⟨w.heap.size, 1, none⟩ = some (.float .f64 ay) ∧ wz.cell? ⟨w.heap.size + 1, 0, none⟩ = some (.float .f64 0) ∧ wz.cell? ⟨w.heap.size + 1, 1, none⟩ = some (.float .f64 0) ∧ wz.frozen? ⟨w.heap.size + 1, 0, none⟩ = false ∧ wz.frozen? ⟨w.heap.size + 1, 1, none⟩ = false ∧ w.heap.size + 2 ≤ wz.heap.size ∧ Below w.heap.size w wz) ⟨by go_cell, by go_cell, by go_cell, by go_cell, by go_cell, by go_cell, by simp, by go_grown⟩ ?_
  rintro wz ⟨c00, c01, c10, c11, z10, z11, hsz, hb⟩
  have HB := hid hb
  clear hb
  go_wp2_with (first | (go_at_call 59; (with_reducible refine (implXY _ _ _).mono ?_); rintro e w' ⟨rfl, hbl⟩; obtain ⟨x, rfl⟩ := (by first | exact later2 hbl | exact later1 hbl : ∃ x, w' = later wz x); clear hbl) | (go_at_call 65; (with_reducible refine (H.out _).mono ?_); rintro e w' ⟨rfl, hbl⟩; obtain ⟨x, rfl⟩ := (by first | exact later2 hbl | exact later1 hbl : ∃ x, w' = later wz x); clear hbl) | (go_at_call 64; (with_reducible refine (plainXY _ _ _).mono ?_); rintro e w' ⟨rfl, hbl⟩; obtain ⟨x, rfl⟩ := (by first | exact later2 hbl | exact later1 hbl : ∃ x, w' = later wz x); clear hbl))
  refine bodyPost_ret (v := .agg #[.float .f64 rx, .float .f64 ry]) (by simp [results, Try.results27, go_sem, *]) rfl ?_
  exact ⟨rfl, ((HB.out.trans ((below_later _ _).mono HB.out.size)).setCell (by simp) _).setCell (by simp) _⟩
theorem fToI {P : Program} (t : TypeId) (t' : TypeId) {x : Nat} {n : Int} (ht : (P.underlying t).isSome = true) (ht' : P.underlying t' = some (.int .i64)) (h : IsI x n) (h1 : -9223372036854775808 ≤ n) (h2 : n ≤ 9223372036854775807) : ∀ w, (convert t t' (.float .f64 x)).run P w = .ok (.int .i64 n) w := fun w => by
  refine run_convert_float_int w t t' .f64 .i64 x n ht ht' ?_
  unfold floatToIntVal
  have e : (FloatKind.f64.decode x).toInt .zero = some n := toInt_isI h
  rw [e]
  have e1 : IntKind.i64.min = -9223372036854775808 := by rfl
  have e2 : IntKind.i64.max = 9223372036854775807 := by rfl
  simp only [e1, e2]
  rw [if_pos ⟨h1, h2⟩]
theorem oeq_of {a b : Nat} {n : Int} (ha : IsI a n) (hb : IsI b n) : (FloatKind.f64.format.order a b == some .eq) = true := by
  show (Ieee.double.order a b == _) = true
  rw [orderI ha hb, if_neg (Int.lt_irrefl _), if_pos rfl]; rfl
theorem walkA (x y s : Nat) (h : (wholeB x && wholeB y) = false) (w : World) :
    Calls Try.prog 7 #[.agg #[.float .f64 x, .float .f64 y], .float .f64 s] w fun e w' => e = .returned (.bool true) ∧ Below w.heap.size w w' := by
  have H := hid h
  clear h
  go_enter Try.func7, Try.ntmps7
  go_wp2_with fail
  refine lettered (R := fun wz => Code.wp _ _ _ _ wz) (fun wz => wz.cell? ⟨w.heap.size, 0, none⟩ = some (.float .f64 x) ∧ wz.cell? ⟨w.heap.size, 1, none⟩ = some (.float .f64 y) ∧ w.heap.size + 1 ≤ wz.heap.size ∧ Below w.heap.size w wz) ⟨by go_cell, by go_cell, by simp, by go_grown⟩ ?_
  rintro wz ⟨c00, c01, hsz, hb⟩
  have HB := hid hb
  clear hb
  have hw : Below wz.heap.size wz wz := Below.refl _ _
  refine wp_region_ord (S := fun w' => ∃ e, w' = later wz e) [(0, false), (1, true), (2, true), (3, false), (4, false), (5, false), (6, true), (7, false), (8, false), (9, false), (10, false), (11, false), (13, false), (14, false), (15, false), (16, false), (17, false), (18, false), (19, false), (20, false), (21, false), (22, false), (23, false), (24, false), (12, true), (25, true), (26, false), (27, false), (28, false)] (by kernel_rfl) (by kernel_rfl) (fun _ _ d _ _ h => by cases d <;> exact h) ⟨_, (later_of (Below.drew (Below.refl _ _))).symm⟩ ?_
  simp only [pickO, List.filterMap_cons, List.filterMap_nil, List.getElem?_cons_succ, List.getElem?_cons_zero, Option.map_some]
  repeat (first
    | ((with_reducible refine wpOrd_light (fun K hK => ?_)); go_simp; (with_reducible refine hK _ ?_); clear hK K)
    | ((with_reducible refine wpOrd_heavy (fun K L hK hL => ?_)); go_simp; (with_reducible refine hL _ ?_); clear hK hL K L)
    | ((with_reducible refine wpOrd_heavy (fun K L hK hL => ?_)); go_simp; (with_reducible refine hK _ _ ?_ ?_); (focus (exact ⟨_, (later_of (by go_grown)).symm⟩)); clear hK hL K L)
    | ((with_reducible refine wpOrd_heavy (fun K L hK hL => ?_)); go_simp; go_at_call 25; refine (vWhole1 _ 1 x y _ (by go_cell) (by go_cell)).mono ?_; rw [H.out]; rintro e w' ⟨rfl, hbl⟩; replace hw := lat (wz := wz) (by go_grown) hbl; clear hbl; go_simp; (with_reducible refine hK _ _ ?_ ?_); (focus (exact ⟨_, (later_of hw).symm⟩)); clear hK hL K L))
  refine wpOrd_nil ?_
  go_wp2_with fail
  go_ret
  exact ⟨rfl, HB.out.trans (hw.mono HB.out.size)⟩
theorem walkB' (x y s : Nat) (h : (wholeB x && wholeB y) = true) (k : wholeB s = false) (w : World) :
    Calls Try.prog 7 #[.agg #[.float .f64 x, .float .f64 y], .float .f64 s] w fun e w' => e = .returned (.bool true) ∧ Below w.heap.size w w' := by
  have H := hid h
  have K' := hid k
  clear h k
  go_enter Try.func7, Try.ntmps7
  go_wp2_with fail
  refine lettered (R := fun wz => Code.wp _ _ _ _ wz) (fun wz => wz.cell? ⟨w.heap.size, 0, none⟩ = some (.float .f64 x) ∧ wz.cell? ⟨w.heap.size, 1, none⟩ = some (.float .f64 y) ∧ w.heap.size + 1 ≤ wz.heap.size ∧ Below w.heap.size w wz) ⟨by go_cell, by go_cell, by simp, by go_grown⟩ ?_
  rintro wz ⟨c00, c01, hsz, hb⟩
  have HB := hid hb
  clear hb
  have hw : Below wz.heap.size wz wz := Below.refl _ _
  refine wp_region_ord (S := fun w' => ∃ e, w' = later wz e) [(0, false), (1, true), (2, true), (3, false), (4, false), (5, false), (6, true), (7, false), (8, false), (9, false), (10, false), (11, false), (13, false), (14, false), (15, false), (16, false), (17, false), (18, false), (19, false), (20, false), (21, false), (22, false), (23, false), (24, false), (12, true), (25, true), (26, false), (27, false), (28, false)] (by kernel_rfl) (by kernel_rfl) (fun _ _ d _ _ h => by cases d <;> exact h) ⟨_, (later_of (Below.drew (Below.refl _ _))).symm⟩ ?_
  simp only [pickO, List.filterMap_cons, List.filterMap_nil, List.getElem?_cons_succ, List.getElem?_cons_zero, Option.map_some]
  repeat (first
    | ((with_reducible refine wpOrd_light (fun K hK => ?_)); go_simp; (with_reducible refine hK _ ?_); clear hK K)
    | ((with_reducible refine wpOrd_heavy (fun K L hK hL => ?_)); go_simp; (with_reducible refine hL _ ?_); clear hK hL K L)
    | ((with_reducible refine wpOrd_heavy (fun K L hK hL => ?_)); go_simp; (with_reducible refine hK _ _ ?_ ?_); (focus (exact ⟨_, (later_of (by go_grown)).symm⟩)); clear hK hL K L)
    | ((with_reducible refine wpOrd_heavy (fun K L hK hL => ?_)); go_simp; go_at_call 25; refine (vWhole1 _ 1 x y _ (by go_cell) (by go_cell)).mono ?_; rw [H.out]; rintro e w' ⟨rfl, hbl⟩; replace hw := lat (wz := wz) (by go_grown) hbl; clear hbl; go_simp; (with_reducible refine hK _ _ ?_ ?_); (focus (exact ⟨_, (later_of hw).symm⟩)); clear hK hL K L)
    | ((with_reducible refine wpOrd_heavy (fun K L hK hL => ?_)); go_simp; go_at_call 26; refine (gWhole _ _).mono ?_; rw [K'.out]; rintro e w' ⟨rfl, hbl⟩; replace hw := lat (wz := wz) (by go_grown) hbl; clear hbl; go_simp; (with_reducible refine hK _ _ ?_ ?_); (focus (exact ⟨_, (later_of hw).symm⟩)); clear hK hL K L))
  refine wpOrd_nil ?_
  go_wp2_with fail
  go_ret
  exact ⟨rfl, HB.out.trans (hw.mono HB.out.size)⟩
theorem walkC' (x y s : Nat) (h : (wholeB x && wholeB y) = true) (k : wholeB s = true) (w : World) :
    Calls Try.prog 7 #[.agg #[.float .f64 x, .float .f64 y], .float .f64 s] w fun e w' => e = .returned (.bool true) ∧ Below w.heap.size w w' := by
  have h0 : wholeB x = true ∧ wholeB y = true := by simpa using h
  obtain ⟨X, ix, x1, x2⟩ := (wholeB_iff x).1 h0.1
  obtain ⟨Y, iy, y1, y2⟩ := (wholeB_iff y).1 h0.2
  obtain ⟨S, is, s1, s2⟩ := (wholeB_iff s).1 k
  have m1 := mul_bound X S 1048576 1048576 (by omega) (by omega) (by omega) (by omega)
  have m2 := mul_bound Y S 1048576 1048576 (by omega) (by omega) (by omega) (by omega)
  obtain ⟨m1, m1'⟩ := m1
  obtain ⟨m2, m2'⟩ := m2
  have c1 := fToI (P := Try.prog) 29 3 (by kernel_rfl) Try.underlying3 ix (by omega) (by omega)
  have c2 := fToI (P := Try.prog) 29 3 (by kernel_rfl) Try.underlying3 iy (by omega) (by omega)
  have c3 := fToI (P := Try.prog) 29 3 (by kernel_rfl) Try.underlying3 is (by omega) (by omega)
  obtain ⟨rx, ry, irx, iry, sc⟩ := scale ix iy is (by omega) (by omega) (by omega) (by omega)
  have E1 := oeq_of irx (isI_ofInt (X * S) (by omega) (by omega))
  have E2 := oeq_of iry (isI_ofInt (Y * S) (by omega) (by omega))
  have SC := hid (implScale sc)
  have W1 : IntKind.i64.wrap (X * S) = X * S := IntWalk.i64_in _ (by omega)
  have W2 : IntKind.i64.wrap (Y * S) = Y * S := IntWalk.i64_in _ (by omega)
  have H := hid h
  have K' := hid k
  clear h k h0 ix iy is irx iry sc x1 x2 y1 y2 s1 s2
  go_enter Try.func7, Try.ntmps7
  go_wp2_with fail
  refine lettered (R := fun wz => Code.wp _ _ _ _ wz) (fun wz => wz.cell? ⟨w.heap.size, 0, none⟩ = some (.float .f64 x) ∧ wz.cell? ⟨w.heap.size, 1, none⟩ = some (.float .f64 y) ∧ w.heap.size + 1 ≤ wz.heap.size ∧ Below w.heap.size w wz) ⟨by go_cell, by go_cell, by simp, by go_grown⟩ ?_
  rintro wz ⟨c00, c01, hsz, hb⟩
  have HB := hid hb
  clear hb
  have hw : Below wz.heap.size wz wz := Below.refl _ _
  refine wp_region_ord (S := fun w' => ∃ e, w' = later wz e) [(0, false), (1, true), (2, true), (3, false), (4, false), (5, false), (6, true), (7, false), (8, false), (9, false), (10, false), (11, false), (13, false), (14, false), (15, false), (16, false), (17, false), (18, false), (19, false), (20, false), (21, false), (22, false), (23, false), (24, false), (12, true), (25, true), (26, false), (27, false), (28, false)] (by kernel_rfl) (by kernel_rfl) (fun _ _ d _ _ h => by cases d <;> exact h) ⟨_, (later_of (Below.drew (Below.refl _ _))).symm⟩ ?_
  simp only [pickO, List.filterMap_cons, List.filterMap_nil, List.getElem?_cons_succ, List.getElem?_cons_zero, Option.map_some]
  repeat (first
    | ((with_reducible refine wpOrd_light (fun K hK => ?_)); go_simp; (with_reducible refine hK _ ?_); clear hK K)
    | ((with_reducible refine wpOrd_heavy (fun K L hK hL => ?_)); go_simp; (with_reducible refine hL _ ?_); clear hK hL K L)
    | ((with_reducible refine wpOrd_heavy (fun K L hK hL => ?_)); go_simp; (with_reducible refine hK _ _ ?_ ?_); (focus (exact ⟨_, (later_of (by go_grown)).symm⟩)); clear hK hL K L)
    | ((with_reducible refine wpOrd_heavy (fun K L hK hL => ?_)); go_simp; go_at_call 25; refine (vWhole1 _ 1 x y _ (by go_cell) (by go_cell)).mono ?_; rw [H.out]; rintro e w' ⟨rfl, hbl⟩; replace hw := lat (wz := wz) (by go_grown) hbl; clear hbl; go_simp; (with_reducible refine hK _ _ ?_ ?_); (focus (exact ⟨_, (later_of hw).symm⟩)); clear hK hL K L)
    | ((with_reducible refine wpOrd_heavy (fun K L hK hL => ?_)); go_simp; go_at_call 26; refine (gWhole _ _).mono ?_; rw [K'.out]; rintro e w' ⟨rfl, hbl⟩; replace hw := lat (wz := wz) (by go_grown) hbl; clear hbl; go_simp; (with_reducible refine hK _ _ ?_ ?_); (focus (exact ⟨_, (later_of hw).symm⟩)); clear hK hL K L)
    | ((with_reducible refine wpOrd_heavy (fun K L hK hL => ?_)); go_simp; go_at_call 27; refine (SC.out _).mono ?_; rintro e w' ⟨rfl, hbl⟩; replace hw := lat (wz := wz) (by go_grown) hbl; clear hbl; go_simp; (with_reducible refine hK _ _ ?_ ?_); (focus (exact ⟨_, (later_of hw).symm⟩)); clear hK hL K L)
    | ((with_reducible refine wpOrd_heavy (fun K L hK hL => ?_)); go_simp; go_at_call 28; refine (vAt _ _ _).mono ?_; rintro e w' ⟨rfl, hbl⟩; replace hw := lat (wz := wz) (by go_grown) hbl; clear hbl; go_simp; (with_reducible refine hK _ _ ?_ ?_); (focus (exact ⟨_, (later_of hw).symm⟩)); clear hK hL K L))
  refine wpOrd_nil ?_
  go_wp2_with fail
  go_ret
  exact ⟨rfl, HB.out.trans (hw.mono HB.out.size)⟩
theorem walk (x y s : Nat) (w : World) :
    Calls Try.prog 7 #[.agg #[.float .f64 x, .float .f64 y], .float .f64 s] w fun e w' => e = .returned (.bool true) ∧ Below w.heap.size w w' := by
  cases h : (wholeB x && wholeB y)
  · exact walkA x y s h w
  · cases k : wholeB s
    · exact walkB' x y s h k w
    · exact walkC' x y s h k w
set_option maxRecDepth 100000 in
theorem lifted (os : Os) (started : os.Started) (H : Type) (enc : TypeId × Value → H) :
    ReturnsInHanded {} Try.checked os 7 .any (Rows.fnXYScaleSpec.pre6 enc Try.prog Try.f7 Rows.fnXYScaleRow.domain false) (Rows.fnXYScaleSpec.post enc Try.prog Try.f7 false true false false) := by
  refine returnsInHanded_of_change (C := Try.checked) own started (by kernel_rfl) Try.func7
    (ChangeSpec.witness6 (enc := enc) (C := Try.checked) false ⟨#[], #[.agg #[.float .f64 0, .float .f64 0], .float .f64 0], []⟩ 16 (by kernel_rfl) (by kernel_rfl) (by kernel_rfl) (by kernel_rfl)) ?_
  intro W base args ds gs before hval0 hW hcnd _
  have hval : ∀ (j : Nat) t v, Try.f7.params[j]? = some t → args[j]? = some v → Value.okWide Try.prog W .any base t v := hval0
  have hW' := hW
  obtain ⟨p, q, hA0, hV, rfl, hfz, hnd⟩ := hW
  have hA : DataW.TrodAll enc Try.prog W 0 (fun _ => true) true Try.f7.params.toList args.toList ds p := hA0
  rw [Try.params7] at hA hval
  obtain ⟨v0, vs0, d0, ds0, p0, q0, hargs, rfl, rfl, h0, r0⟩ := trodAll_cons hA
  obtain ⟨v1, vs1, d1, ds1, p1, q1, rfl, rfl, rfl, h1, r1⟩ := trodAll_cons r0
  obtain ⟨rfl, rfl, rfl⟩ := trodAll_nil r1
  obtain rfl : args = #[v0, v1] := by cases args; simp_all
  obtain ⟨rfl, rfl⟩ := trodVars_none hV
  have lt0 : ∀ x ∈ p0, x.block < W.heap.size := by obtain ⟨m, hm⟩ := h0; exact DataW.trod_lt m _ _ _ hm
  have lt1 : ∀ x ∈ p1, x.block < W.heap.size := by obtain ⟨m, hm⟩ := h1; exact DataW.trod_lt m _ _ _ hm
  obtain ⟨x0, y0, rfl, bx0, by0⟩ := readXY (hval 0 32 v0 rfl rfl) h0
  obtain ⟨x1, rfl, bx1⟩ := readF (hval 1 29 v1 rfl rfl) h1
  clear hA0 hval0
  refine (walk x0 y0 x1 W).mono fun e W' ⟨he, bel⟩ => ?_
  subst he
  exact ⟨_, rfl, _, _, _, [], _, [], hW', trodAll_mk1 (shut_bool Try.underlying4 _), (trodAll_cons_mk (Below.trod laidOut (by kernel_rfl) (of_decide_eq_true (by kernel_rfl)) h0 bel lt0) (trodAll_cons_mk (Below.trod laidOut (by kernel_rfl) (of_decide_eq_true (by kernel_rfl)) h1 bel lt1) trodAll_mk0)), rfl, bel.frame _, fun h => by cases h⟩

theorem over : Rows.fnXYScaleRow.holds Try.pinned (OpenSpec.ofChange Rows.fnXYScaleSpec) :=
  OpenClaim.holds_of_wide 7 Try.f7 rfl rfl rfl rfl rfl rfl rfl ⟨rfl, rfl, rfl, rfl, rfl⟩ rfl rfl rfl rfl rfl (by kernel_rfl) Try.func7 (by kernel_rfl)
    (of_decide_eq_true (by kernel_rfl)) (by unfold Func.isWrapper; first | (rw [if_pos (by decide +kernel)]; kernel_rfl) | (rw [if_neg (by decide +kernel)]; exact ⟨rfl, rfl⟩))
    (fun os started H enc _ => lifted os started H enc)

theorem proved : Rows.FnXYScaleSaid := over
#print axioms proved
end fnXYScale
end Go.Proofs.Ytbcjlgkdmkehlaa
