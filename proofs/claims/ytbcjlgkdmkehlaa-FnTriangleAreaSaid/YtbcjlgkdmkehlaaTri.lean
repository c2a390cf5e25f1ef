/- The law FnTriangleArea holds of any three places: twice the signed area of a triangle is what the cross product tells, for whole coordinates from -2^20 to 2^20. The call returns true and leaves memory as it was. Conditions: none. -/
import Derived.Test.YtbcjlgkdmkehlaaRows
import Derived.Test.YtbcjlgkdmkehlaaPlane
import Derived.Test.YtbcjlgkdmkehlaaRead
namespace Go.Proofs.Ytbcjlgkdmkehlaa
open Go.ChangeShapes Go.WideShapes Go.ChangeAt Go.RowKit Fl
namespace fnTriangleArea

theorem doorTri {ax ay bx by' cx cy r : Nat} (h : ∀ w, Calls Try.prog 96 #[.agg #[.float .f64 ax, .float .f64 ay], .agg #[.float .f64 bx, .float .f64 by'], .agg #[.float .f64 cx, .float .f64 cy]] w fun e w' => e = .returned (.float .f64 r) ∧ Below w.heap.size w w') (w : World) :
    Calls Try.prog 58 #[.agg #[.float .f64 ax, .float .f64 ay], .agg #[.float .f64 bx, .float .f64 by'], .agg #[.float .f64 cx, .float .f64 cy]] w fun e w' => e = .returned (.float .f64 r) ∧ Below w.heap.size w w' := by
  have H := hid h
  clear h
  go_enter Try.func58, Try.ntmps58
  go_wp2_with (go_at_call 96; refine (H.out _).mono ?_; rintro e w' ⟨rfl, hbl⟩)
  go_ret
  exact ⟨rfl, ((((Below.refl _ _).alloc (Nat.le_refl _) _).alloc (by simp) _).alloc (by simp; omega) _).trans (hbl.mono (by simp; omega))⟩
theorem implTri {ax ay bx by' cx cy r : Nat} (h : ∀ w, Calls Try.prog 96 #[.agg #[.float .f64 ax, .float .f64 ay], .agg #[.float .f64 bx, .float .f64 by'], .agg #[.float .f64 cx, .float .f64 cy]] w fun e w' => e = .returned (.float .f64 r) ∧ Below w.heap.size w w') (w : World) :
    Calls Try.prog 17 #[.agg #[.float .f64 ax, .float .f64 ay], .agg #[.float .f64 bx, .float .f64 by'], .agg #[.float .f64 cx, .float .f64 cy]] w fun e w' => e = .returned (.float .f64 r) ∧ Below w.heap.size w w' := by
  have H := hid (doorTri h)
  clear h
  go_enter Try.func17, Try.ntmps17
  go_wp2_with fail
  refine lettered (R := fun wz => Code.wp _ _ _ _ wz) (fun wz => (wz.cell? ⟨w.heap.size, 0, none⟩ = some (.float .f64 ax) ∧ wz.cell? ⟨w.heap.size, 1, none⟩ = some (.float .f64 ay)) ∧ (wz.cell? ⟨w.heap.size + 1, 0, none⟩ = some (.float .f64 bx) ∧ wz.cell? ⟨w.heap.size + 1, 1, none⟩ = some (.float .f64 by')) ∧ (wz.cell? ⟨w.heap.size + 1 + 1, 0, none⟩ = some (.float .f64 cx) ∧ wz.cell? ⟨w.heap.size + 1 + 1, 1, none⟩ = some (.float .f64 cy)) ∧ Below w.heap.size w wz) ⟨by simp [go_sem], by simp [go_sem], by simp [go_sem], by go_grown⟩ ?_
  rintro wz ⟨⟨a0, a1⟩, ⟨b0, b1⟩, ⟨c0, c1⟩, hb⟩
  have HB := hid hb
  clear hb
  refine wp_region_calm (by kernel_rfl) (by kernel_rfl) ?_
  repeat (go_big_quiet_step (first | (go_at_call 59; exact calm_of (implXY _ _ _)) | (go_at_call 58; exact calm_of (H.out _))))
  refine wpQuiet_nil ?_
  rintro _ ⟨nq, rfl⟩
  go_wp2_with fail
  go_ret
  exact ⟨rfl, HB.out.trans ((below_later _ _).mono HB.out.size)⟩

/-- three numbers by their place -/
def three (a b c : Int) : Nat → Int | 0 => a | 1 => b | _ => c
theorem threePts (w : World) (ax ay bx by' cx cy : Int) (t : TypeId) : PtsAt (w.alloc (.cells #[.int .i64 ax, .int .i64 ay, .int .i64 bx, .int .i64 by', .int .i64 cx, .int .i64 cy] t)).drew w.heap.size 0 3 (three ax bx cx) (three ay by' cy) := by
  intro i hi
  have : i = 0 ∨ i = 1 ∨ i = 2 := by omega
  rcases this with rfl | rfl | rfl <;> simp [go_sem, three]
set_option maxRecDepth 100000 in
set_option maxHeartbeats 2000000 in
theorem walk (ax ay bx by' cx cy : Int) (w : World) :
    Calls Try.prog 4 #[.agg #[.int .i64 ax, .int .i64 ay], .agg #[.int .i64 bx, .int .i64 by'], .agg #[.int .i64 cx, .int .i64 cy]] w fun e w' => e = .returned (.bool true) ∧ Below w.heap.size w w' := by
  by_cases hin : walkB 3 3 1048576 (three ax bx cx) (three ay by' cy) = true
  · have hb : inBox 1048576 3 (three ax bx cx) (three ay by' cy) := by
      simp only [walkB, decide_eq_true_eq] at hin
      exact hin.2.2
    have hin' := hid hin
    clear hin
    have h0 : -1048576 ≤ ax ∧ ax ≤ 1048576 ∧ -1048576 ≤ ay ∧ ay ≤ 1048576 := hb 0 (by omega)
    have h1 : -1048576 ≤ bx ∧ bx ≤ 1048576 ∧ -1048576 ≤ by' ∧ by' ≤ 1048576 := hb 1 (by omega)
    have h2 : -1048576 ≤ cx ∧ cx ≤ 1048576 ∧ -1048576 ≤ cy ∧ cy ≤ 1048576 := hb 2 (by omega)
    clear hb
    obtain ⟨r, ir, hr⟩ := tri (isI_ofInt ax (by omega) (by omega)) (isI_ofInt ay (by omega) (by omega)) (isI_ofInt bx (by omega) (by omega)) (isI_ofInt by' (by omega) (by omega)) (isI_ofInt cx (by omega) (by omega)) (isI_ofInt cy (by omega) (by omega)) (by omega) (by omega) (by omega) (by omega) (by omega) (by omega)
    have m1 := mul_bound (bx - ax) (cy - ay) 2097152 2097152 (by omega) (by omega) (by omega) (by omega)
    have m2 := mul_bound (by' - ay) (cx - ax) 2097152 2097152 (by omega) (by omega) (by omega) (by omega)
    have q := orderI ir (isI_ofInt ((bx - ax) * (cy - ay) - (by' - ay) * (cx - ax)) (by omega) (by omega))
    rw [if_neg (Int.lt_irrefl _), if_pos rfl] at q
    have Q : (FloatKind.f64.format.order r (floatOfInt .f64 ((bx - ax) * (cy - ay) - (by' - ay) * (cx - ax))) == some .eq) = true := by
      show (Ieee.double.order _ _ == _) = true
      rw [q]; rfl
    clear q
    have T := hid (fun w => turn ax ay bx by' cx cy 1048576 (by omega) (by omega) (by omega) (by omega) (by omega) (by omega) (by omega) w)
    have R := hid (implTri hr)
    clear ir hr m1 m2 h0 h1 h2
    go_enter Try.func4, Try.ntmps4
    go_wp2_with fail
    refine lettered (R := fun wz => Code.wp _ _ _ _ wz) (fun wz => (wz.cell? ⟨w.heap.size, 0, none⟩ = some (.int .i64 ax) ∧ wz.cell? ⟨w.heap.size, 1, none⟩ = some (.int .i64 ay)) ∧ (wz.cell? ⟨w.heap.size + 1, 0, none⟩ = some (.int .i64 bx) ∧ wz.cell? ⟨w.heap.size + 1, 1, none⟩ = some (.int .i64 by')) ∧ (wz.cell? ⟨w.heap.size + 1 + 1, 0, none⟩ = some (.int .i64 cx) ∧ wz.cell? ⟨w.heap.size + 1 + 1, 1, none⟩ = some (.int .i64 cy)) ∧ Below w.heap.size w wz) ⟨by simp [go_sem], by simp [go_sem], by simp [go_sem], by go_grown⟩ ?_
    rintro wz ⟨⟨a0, a1⟩, ⟨b0, b1⟩, ⟨c0, c1⟩, hb⟩
    have HB := hid hb
    clear hb
    refine wp_region_ord (S := fun w' => ∃ e, w' = later wz e) [(0, false), (1, false), (2, false), (3, true), (4, true), (5, false), (6, false), (7, false), (9, false), (11, false), (14, false), (15, false), (16, false), (8, true), (10, true), (12, true), (13, true), (17, true), (18, false), (19, false), (20, false), (21, false)] (by kernel_rfl) (by kernel_rfl) (fun _ _ d _ _ h => by cases d <;> exact h) ⟨_, (later_of (Below.drew (Below.refl _ _))).symm⟩ ?_
    simp only [pickO, List.filterMap_cons, List.filterMap_nil, List.getElem?_cons_succ, List.getElem?_cons_zero, Option.map_some]
    repeat (first
      | ((with_reducible refine wpOrd_light (fun K hK => ?_)); go_simp; (with_reducible refine hK _ ?_); clear hK K)
      | ((with_reducible refine wpOrd_heavy (fun K L hK hL => ?_)); go_simp; (with_reducible refine hL _ ?_); clear hK hL K L)
      | ((with_reducible refine wpOrd_heavy (fun K L hK hL => ?_)); go_simp; (with_reducible refine hK _ _ ?_ ?_); (focus (exact ⟨_, (later_of (by go_grown)).symm⟩)); clear hK hL K L)
      | ((with_reducible refine wpOrd_heavy (fun K L hK hL => ?_)); go_simp; go_at_call 16; refine (walkC _ 0 3 3 (three ax bx cx) (three ay by' cy) 3 1048576 (by omega) (by omega) (by omega) _ (threePts _ ax ay bx by' cx cy 26) (by simp)).mono ?_; rw [hin'.out]; rintro e w' ⟨rfl, hbl⟩; have hw := lat (wz := wz) (by go_grown) hbl; clear hbl; go_simp; (with_reducible refine hK _ _ ?_ ?_); (focus (exact ⟨_, (later_of hw).symm⟩)); clear hK hL K L)
      | ((with_reducible refine wpOrd_heavy (fun K L hK hL => ?_)); go_simp; go_at_call 18; refine (xyOf _ _ _).mono ?_; rintro e w' ⟨rfl, hbl⟩; replace hw := lat (wz := wz) hw hbl; clear hbl; go_simp; (with_reducible refine hK _ _ ?_ ?_); (focus (exact ⟨_, (later_of hw).symm⟩)); clear hK hL K L)
      | ((with_reducible refine wpOrd_heavy (fun K L hK hL => ?_)); go_simp; go_at_call 17; refine (R.out _).mono ?_; rintro e w' ⟨rfl, hbl⟩; replace hw := lat (wz := wz) hw hbl; clear hbl; go_simp; (with_reducible refine hK _ _ ?_ ?_); (focus (exact ⟨_, (later_of hw).symm⟩)); clear hK hL K L)
      | ((with_reducible refine wpOrd_heavy (fun K L hK hL => ?_)); go_simp; go_at_call 19; refine (T.out _).mono ?_; rintro e w' ⟨rfl, hbl⟩; replace hw := lat (wz := wz) hw hbl; clear hbl; go_simp; (with_reducible refine hK _ _ ?_ ?_); (focus (exact ⟨_, (later_of hw).symm⟩)); clear hK hL K L))
    refine wpOrd_nil ?_
    go_wp2_with fail
    go_ret
    exact ⟨rfl, HB.out.trans (hw.mono HB.out.size)⟩
  · have hin' : walkB 3 3 1048576 (three ax bx cx) (three ay by' cy) = false := by simpa using hin
    have HN := hid hin'
    clear hin hin'
    go_enter Try.func4, Try.ntmps4
    go_wp2_with fail
    refine lettered (R := fun wz => Code.wp _ _ _ _ wz) (fun wz => (wz.cell? ⟨w.heap.size, 0, none⟩ = some (.int .i64 ax) ∧ wz.cell? ⟨w.heap.size, 1, none⟩ = some (.int .i64 ay)) ∧ (wz.cell? ⟨w.heap.size + 1, 0, none⟩ = some (.int .i64 bx) ∧ wz.cell? ⟨w.heap.size + 1, 1, none⟩ = some (.int .i64 by')) ∧ (wz.cell? ⟨w.heap.size + 1 + 1, 0, none⟩ = some (.int .i64 cx) ∧ wz.cell? ⟨w.heap.size + 1 + 1, 1, none⟩ = some (.int .i64 cy)) ∧ Below w.heap.size w wz) ⟨by simp [go_sem], by simp [go_sem], by simp [go_sem], by go_grown⟩ ?_
    rintro wz ⟨⟨a0, a1⟩, ⟨b0, b1⟩, ⟨c0, c1⟩, hb⟩
    have HB := hid hb
    clear hb
    refine wp_region_ord (S := fun w' => ∃ e, w' = later wz e) [(0, false), (1, false), (2, false), (3, true), (4, true), (5, false), (6, false), (7, false), (9, false), (11, false), (14, false), (15, false), (16, false), (8, true), (10, true), (12, true), (13, true), (17, true), (18, false), (19, false), (20, false), (21, false)] (by kernel_rfl) (by kernel_rfl) (fun _ _ d _ _ h => by cases d <;> exact h) ⟨_, (later_of (Below.drew (Below.refl _ _))).symm⟩ ?_
    simp only [pickO, List.filterMap_cons, List.filterMap_nil, List.getElem?_cons_succ, List.getElem?_cons_zero, Option.map_some]
    repeat (first
      | ((with_reducible refine wpOrd_light (fun K hK => ?_)); go_simp; (with_reducible refine hK _ ?_); clear hK K)
      | ((with_reducible refine wpOrd_heavy (fun K L hK hL => ?_)); go_simp; (with_reducible refine hL _ ?_); clear hK hL K L)
      | ((with_reducible refine wpOrd_heavy (fun K L hK hL => ?_)); go_simp; (with_reducible refine hK _ _ ?_ ?_); (focus (exact ⟨_, (later_of (by go_grown)).symm⟩)); clear hK hL K L)
      | ((with_reducible refine wpOrd_heavy (fun K L hK hL => ?_)); go_simp; go_at_call 16; refine (walkC _ 0 3 3 (three ax bx cx) (three ay by' cy) 3 1048576 (by omega) (by omega) (by omega) _ (threePts _ ax ay bx by' cx cy 26) (by simp)).mono ?_; rw [HN.out]; rintro e w' ⟨rfl, hbl⟩; have hw := lat (wz := wz) (by go_grown) hbl; clear hbl; go_simp; (with_reducible refine hK _ _ ?_ ?_); (focus (exact ⟨_, (later_of hw).symm⟩)); clear hK hL K L))
    refine wpOrd_nil ?_
    go_wp2_with fail
    go_ret
    exact ⟨rfl, HB.out.trans (hw.mono HB.out.size)⟩
set_option maxRecDepth 100000 in
theorem lifted (os : Os) (started : os.Started) (H : Type) (enc : TypeId × Value → H) :
    ReturnsInHanded {} Try.checked os 4 .any (Rows.fnTriangleAreaSpec.pre6 enc Try.prog Try.f4 Rows.fnTriangleAreaRow.domain false) (Rows.fnTriangleAreaSpec.post enc Try.prog Try.f4 false true false false) := by
  refine returnsInHanded_of_change (C := Try.checked) own started (by kernel_rfl) Try.func4
    (ChangeSpec.witness6 (enc := enc) (C := Try.checked) false ⟨#[], #[.agg #[.int .i64 0, .int .i64 0], .agg #[.int .i64 0, .int .i64 0], .agg #[.int .i64 0, .int .i64 0]], []⟩ 16 (by kernel_rfl) (by kernel_rfl) (by kernel_rfl) (by kernel_rfl)) ?_
  intro W base args ds gs before hval0 hW hcnd _
  have hval : ∀ (j : Nat) t v, Try.f4.params[j]? = some t → args[j]? = some v → Value.okWide Try.prog W .any base t v := hval0
  have hW' := hW
  obtain ⟨p, q, hA0, hV, rfl, hfz, hnd⟩ := hW
  have hA : DataW.TrodAll enc Try.prog W 0 (fun _ => true) true Try.f4.params.toList args.toList ds p := hA0
  rw [Try.params4] at hA hval
  obtain ⟨v0, vs0, d0, ds0, p0, q0, hargs, rfl, rfl, h0, r0⟩ := trodAll_cons hA
  obtain ⟨v1, vs1, d1, ds1, p1, q1, rfl, rfl, rfl, h1, r1⟩ := trodAll_cons r0
  obtain ⟨v2, vs2, d2, ds2, p2, q2, rfl, rfl, rfl, h2, r2⟩ := trodAll_cons r1
  obtain ⟨rfl, rfl, rfl⟩ := trodAll_nil r2
  obtain rfl : args = #[v0, v1, v2] := by cases args; simp_all
  obtain ⟨rfl, rfl⟩ := trodVars_none hV
  have lt0 : ∀ x ∈ p0, x.block < W.heap.size := by obtain ⟨m, hm⟩ := h0; exact DataW.trod_lt m _ _ _ hm
  have lt1 : ∀ x ∈ p1, x.block < W.heap.size := by obtain ⟨m, hm⟩ := h1; exact DataW.trod_lt m _ _ _ hm
  have lt2 : ∀ x ∈ p2, x.block < W.heap.size := by obtain ⟨m, hm⟩ := h2; exact DataW.trod_lt m _ _ _ hm
  obtain ⟨x0, y0, rfl, bx0, by0⟩ := readPt (hval 0 26 v0 rfl rfl) h0
  obtain ⟨x1, y1, rfl, bx1, by1⟩ := readPt (hval 1 26 v1 rfl rfl) h1
  obtain ⟨x2, y2, rfl, bx2, by2⟩ := readPt (hval 2 26 v2 rfl rfl) h2
  clear hA0 hval0
  refine (walk x0 y0 x1 y1 x2 y2 W).mono fun e W' ⟨he, bel⟩ => ?_
  subst he
  exact ⟨_, rfl, _, _, _, [], _, [], hW', trodAll_mk1 (shut_bool Try.underlying4 _), (trodAll_cons_mk (Below.trod laidOut (by kernel_rfl) (of_decide_eq_true (by kernel_rfl)) h0 bel lt0) (trodAll_cons_mk (Below.trod laidOut (by kernel_rfl) (of_decide_eq_true (by kernel_rfl)) h1 bel lt1) (trodAll_cons_mk (Below.trod laidOut (by kernel_rfl) (of_decide_eq_true (by kernel_rfl)) h2 bel lt2) trodAll_mk0))), rfl, bel.frame _, fun h => by cases h⟩

theorem over : Rows.fnTriangleAreaRow.holds Try.pinned (OpenSpec.ofChange Rows.fnTriangleAreaSpec) :=
  OpenClaim.holds_of_wide 4 Try.f4 rfl rfl rfl rfl rfl rfl rfl ⟨rfl, rfl, rfl, rfl, rfl⟩ rfl rfl rfl rfl rfl (by kernel_rfl) Try.func4 (by kernel_rfl)
    (of_decide_eq_true (by kernel_rfl)) (by unfold Func.isWrapper; first | (rw [if_pos (by decide +kernel)]; kernel_rfl) | (rw [if_neg (by decide +kernel)]; exact ⟨rfl, rfl⟩))
    (fun os started H enc _ => lifted os started H enc)

theorem proved : Rows.FnTriangleAreaSaid := over
#print axioms proved
end fnTriangleArea
end Go.Proofs.Ytbcjlgkdmkehlaa
