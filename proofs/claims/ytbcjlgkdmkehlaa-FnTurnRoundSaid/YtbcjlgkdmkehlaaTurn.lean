/- The law FnTurnRound holds of any three places: the orientation is 0 just if they lie on one line, stays as it is if they are named round about, and turns about if two are exchanged (whole coordinates from -2^20 to 2^20). The call returns true and leaves memory as it was. Conditions: none. -/
import Derived.Test.YtbcjlgkdmkehlaaOrient
import Derived.Test.YtbcjlgkdmkehlaaRead
namespace Go.Proofs.Ytbcjlgkdmkehlaa
open Go.ChangeShapes Go.WideShapes Go.ChangeAt Go.RowKit Fl
namespace fnTurnRound
def placesB (most : Int) (n : Nat) (px py : Nat → Int) : Bool := decide (n ≤ 200 ∧ inBox most n px py)
theorem dPlaces (b off n c : Nat) (px py : Nat → Int) (most : Int) (h0 : 0 ≤ most) (h1 : most ≤ 1000000000) (hn : n ≤ 9223372036854775807) (w : World) (hp : PtsAt w b off n px py) (hb : b < w.heap.size) :
    Calls Try.prog 20 #[.int .i64 most, .slice (some ⟨b, off, none⟩) n c] w fun e w' => e = .returned (.bool (placesB most n px py)) ∧ Below w.heap.size w w' := by
  have H := hid hp
  clear hp
  by_cases c2 : n ≤ 200
  · have c2' : (n : Int) ≤ 200 := by omega
    have e : placesB most n px py = decide (inBox most n px py) := by simp [placesB, c2]
    have E := hid e
    clear e
    go_enter Try.func20, Try.ntmps20
    go_wp2_with (go_at_call 57; refine (formedL b off n c px py most h0 h1 hn _ H.out hb).mono ?_; rintro e w' ⟨rfl, hbl⟩)
    go_ret
    exact ⟨ret_bool E.out.symm, hbl⟩
  · have c2' : ¬ (n : Int) ≤ 200 := by omega
    have e : placesB most n px py = false := by simp [placesB, c2]
    have E := hid e
    clear e
    go_enter Try.func20, Try.ntmps20
    go_wp2_with fail
    go_ret
    exact ⟨ret_bool E.out.symm, Below.refl _ _⟩

/-- three numbers by their place -/
def three (a b c : Int) : Nat → Int | 0 => a | 1 => b | _ => c
theorem threePts (w : World) (b : Nat) (hb : w.heap.size = b) (ax ay bx by' cx cy : Int) (t : TypeId) : PtsAt (w.alloc (.cells #[.int .i64 ax, .int .i64 ay, .int .i64 bx, .int .i64 by', .int .i64 cx, .int .i64 cy] t)) b 0 3 (three ax bx cx) (three ay by' cy) := by
  intro i hi
  subst hb
  have : i = 0 ∨ i = 1 ∨ i = 2 := by omega
  rcases this with rfl | rfl | rfl <;> simp [go_sem, three]
theorem sgn_neg (a b : Int) (h : a = -b) : sgn a = -sgn b := by
  subst h; unfold sgn
  by_cases h1 : 0 < b
  · rw [if_neg (by omega), if_pos (by omega), if_pos h1]
  · by_cases h2 : b < 0
    · rw [if_pos (by omega), if_neg h1, if_pos h2]; rfl
    · rw [if_neg (by omega), if_neg (by omega), if_neg h1, if_neg h2]; rfl
theorem sgn_zero (a : Int) : sgn a = 0 ↔ a = 0 := by
  unfold sgn
  by_cases h1 : 0 < a
  · rw [if_pos h1]; constructor <;> intro h <;> omega
  · by_cases h2 : a < 0
    · rw [if_neg h1, if_pos h2]; constructor <;> intro h <;> omega
    · rw [if_neg h1, if_neg h2]; constructor <;> intro h <;> omega
theorem round2 (px py qx qy sx sy : Int) : ((sx - qx) * (py - sy) - (sy - qy) * (px - sx)) = ((qx - px) * (sy - qy) - (qy - py) * (sx - qx)) := by grind
theorem round3 (px py qx qy sx sy : Int) : ((px - qx) * (sy - py) - (py - qy) * (sx - px)) = -((qx - px) * (sy - qy) - (qy - py) * (sx - qx)) := by grind
theorem round4 (px py qx qy sx sy : Int) : ((qx - px) * (sy - py) - (qy - py) * (sx - px)) = ((qx - px) * (sy - qy) - (qy - py) * (sx - qx)) := by grind

set_option maxHeartbeats 1000000 in
set_option maxRecDepth 100000 in
theorem walk (px py qx qy sx sy : Int) (w : World) :
    Calls Try.prog 5 #[.agg #[.int .i64 px, .int .i64 py], .agg #[.int .i64 qx, .int .i64 qy], .agg #[.int .i64 sx, .int .i64 sy]] w fun e w' => e = .returned (.bool true) ∧ Below w.heap.size w w' := by
  by_cases hin : placesB 1048576 3 (three px qx sx) (three py qy sy) = true
  · have hb : inBox 1048576 3 (three px qx sx) (three py qy sy) := by
      simp only [placesB, decide_eq_true_eq] at hin
      exact hin.2
    have hin' := hid hin
    clear hin
    have h0 : -1048576 ≤ px ∧ px ≤ 1048576 ∧ -1048576 ≤ py ∧ py ≤ 1048576 := hb 0 (by omega)
    have h1 : -1048576 ≤ qx ∧ qx ≤ 1048576 ∧ -1048576 ≤ qy ∧ qy ≤ 1048576 := hb 1 (by omega)
    have h2 : -1048576 ≤ sx ∧ sx ≤ 1048576 ∧ -1048576 ≤ sy ∧ sy ≤ 1048576 := hb 2 (by omega)
    clear hb
    have i1 := isI_ofInt px (by omega) (by omega)
    have i2 := isI_ofInt py (by omega) (by omega)
    have i3 := isI_ofInt qx (by omega) (by omega)
    have i4 := isI_ofInt qy (by omega) (by omega)
    have i5 := isI_ofInt sx (by omega) (by omega)
    have i6 := isI_ofInt sy (by omega) (by omega)
    have O1 := hid (orient i1 i2 i3 i4 i5 i6 (by omega) (by omega) (by omega) (by omega) (by omega) (by omega))
    have O2 := hid (orient i3 i4 i5 i6 i1 i2 (by omega) (by omega) (by omega) (by omega) (by omega) (by omega))
    have O3 := hid (orient i3 i4 i1 i2 i5 i6 (by omega) (by omega) (by omega) (by omega) (by omega) (by omega))
    rw [round2] at O2
    rw [round3] at O3
    have T := fun w => turn px py qx qy sx sy 1048576 (by omega) (by omega) (by omega) (by omega) (by omega) (by omega) (by omega) w
    rw [round4] at T
    replace T := hid T
    rw [sgn_neg _ _ rfl] at O3
    clear i1 i2 i3 i4 i5 i6 h0 h1 h2
    generalize ((qx - px) * (sy - qy) - (qy - py) * (sx - qx)) = c at *
    have Z : ((sgn c == 0) == (c == 0)) = true := by
      have h : (sgn c == 0) = (c == 0) := by rw [Bool.eq_iff_iff]; simp [sgn_zero]
      rw [h]; simp
    obtain ⟨r1, r2⟩ := sgn_range c
    generalize hs : sgn c = s at *
    clear hs
    go_enter Try.func5, Try.ntmps5
    go_wp2_with (go_at_call 20; refine (dPlaces _ 0 3 3 (three px qx sx) (three py qy sy) 1048576 (by omega) (by omega) (by omega) _ (threePts _ _ (by simp) px py qx qy sx sy 26) (by simp)).mono ?_; rw [hin'.out]; rintro e w1 ⟨rfl, hbl⟩)
    refine lettered (R := fun wz => Code.wp _ _ _ _ wz) (fun wz => wz.cell? ⟨w.heap.size, 0, none⟩ = some (.int .i64 px) ∧ wz.cell? ⟨w.heap.size, 1, none⟩ = some (.int .i64 py) ∧ wz.cell? ⟨w.heap.size + 1, 0, none⟩ = some (.int .i64 qx) ∧ wz.cell? ⟨w.heap.size + 1, 1, none⟩ = some (.int .i64 qy) ∧ wz.cell? ⟨w.heap.size + 1 + 1, 0, none⟩ = some (.int .i64 sx) ∧ wz.cell? ⟨w.heap.size + 1 + 1, 1, none⟩ = some (.int .i64 sy) ∧ w.heap.size + 3 ≤ wz.heap.size ∧ Below w.heap.size w wz) ⟨(hbl.cell (by simp only [World.size_alloc]; omega)).trans (by go_cell), (hbl.cell (by simp only [World.size_alloc]; omega)).trans (by go_cell), (hbl.cell (by simp only [World.size_alloc]; omega)).trans (by go_cell), (hbl.cell (by simp only [World.size_alloc]; omega)).trans (by go_cell), (hbl.cell (by simp only [World.size_alloc]; omega)).trans (by go_cell), (hbl.cell (by simp only [World.size_alloc]; omega)).trans (by go_cell), by have := hbl.size; simp at this; omega, ((((Below.refl _ _).alloc (Nat.le_refl _) _).alloc (by simp) _).alloc (by simp; omega) _).alloc (by simp; omega) _ |>.trans (hbl.mono (by simp; omega))⟩ ?_
    rintro wz ⟨c00, c01, c10, c11, c20, c21, hsz, hb⟩
    have HB := hid hb
    clear hb
    clear hbl
    refine wp_region_calm (by kernel_rfl) (by kernel_rfl) ?_
    repeat (go_big_quiet_step (first | (go_at_call 18; (with_reducible exact calm_of (xyOf _ _ _))) | (go_at_call 21; (with_reducible exact calm_of (O1.out _)))))
    refine wpQuiet_nil ?_
    rintro _ ⟨n1, rfl⟩
    go_wp2_with fail
    refine wp_region_calm (by kernel_rfl) (by kernel_rfl) ?_
    repeat (go_big_quiet_step (first | (go_at_call 18; (with_reducible exact calm_of (xyOf _ _ _))) | (go_at_call 21; (with_reducible exact calm_of (O2.out _))) | (go_at_call 21; (with_reducible exact calm_of (O3.out _))) | (go_at_call 19; (with_reducible exact calm_of (T.out _)))))
    refine wpQuiet_nil ?_
    rintro _ ⟨n2, rfl⟩
    go_wp2_with fail
    go_ret
    exact ⟨rfl, HB.out.trans (((below_later _ _).mono HB.out.size).trans ((below_later _ _).mono (Nat.le_trans HB.out.size (below_later _ _).size)))⟩
  · have hin' : placesB 1048576 3 (three px qx sx) (three py qy sy) = false := by simpa using hin
    have HN := hid hin'
    clear hin hin'
    go_enter Try.func5, Try.ntmps5
    go_wp2_with (go_at_call 20; refine (dPlaces _ 0 3 3 (three px qx sx) (three py qy sy) 1048576 (by omega) (by omega) (by omega) _ (threePts _ _ (by simp) px py qx qy sx sy 26) (by simp)).mono ?_; rw [HN.out]; rintro e w1 ⟨rfl, hbl⟩)
    go_ret
    exact ⟨rfl, ((((Below.refl _ _).alloc (Nat.le_refl _) _).alloc (by simp) _).alloc (by simp; omega) _).alloc (by simp; omega) _ |>.trans (hbl.mono (by simp; omega))⟩
set_option maxRecDepth 100000 in
theorem lifted (os : Os) (started : os.Started) (H : Type) (enc : TypeId × Value → H) :
    ReturnsInHanded {} Try.checked os 5 .any (Rows.fnTurnRoundSpec.pre6 enc Try.prog Try.f5 Rows.fnTurnRoundRow.domain false) (Rows.fnTurnRoundSpec.post enc Try.prog Try.f5 false true false false) := by
  refine returnsInHanded_of_change (C := Try.checked) own started (by kernel_rfl) Try.func5
    (ChangeSpec.witness6 (enc := enc) (C := Try.checked) false ⟨#[], #[.agg #[.int .i64 0, .int .i64 0], .agg #[.int .i64 0, .int .i64 0], .agg #[.int .i64 0, .int .i64 0]], []⟩ 16 (by kernel_rfl) (by kernel_rfl) (by kernel_rfl) (by kernel_rfl)) ?_
  intro W base args ds gs before hval0 hW hcnd _
  have hval : ∀ (j : Nat) t v, Try.f5.params[j]? = some t → args[j]? = some v → Value.okWide Try.prog W .any base t v := hval0
  have hW' := hW
  obtain ⟨p, q, hA0, hV, rfl, hfz, hnd⟩ := hW
  have hA : DataW.TrodAll enc Try.prog W 0 (fun _ => true) true Try.f5.params.toList args.toList ds p := hA0
  rw [Try.params5] at hA hval
  obtain ⟨v0, vs0, d0, ds0, p0, q0, hargs, rfl, rfl, h0, r0⟩ := trodAll_cons hA
  obtain ⟨v1, vs1, d1, ds1, p1, q1, rfl, rfl, rfl, h1, r1⟩ := trodAll_cons r0
  obtain ⟨v2, vs2, d2, ds2, p2, q2, rfl, rfl, rfl, h2, r2⟩ := trodAll_cons r1
  obtain ⟨rfl, rfl, rfl⟩ := trodAll_nil r2
  obtain rfl : args = #[v0, v1, v2] := by cases args; simp_all
  obtain ⟨rfl, rfl⟩ := trodVars_none hV
  have lt0 : ∀ x ∈ p0, x.block < W.heap.size := by obtain ⟨m, hm⟩ := h0; exact DataW.trod_lt m _ _ _ hm
  have lt1 : ∀ x ∈ p1, x.block < W.heap.size := by obtain ⟨m, hm⟩ := h1; exact DataW.trod_lt m _ _ _ hm
  have lt2 : ∀ x ∈ p2, x.block < W.heap.size := by obtain ⟨m, hm⟩ := h2; exact DataW.trod_lt m _ _ _ hm
  obtain ⟨x0, y0, rfl, bx0, by0⟩ := readPt (hval 0 26 v0 rfl rfl) h0
  obtain ⟨x1, y1, rfl, bx1, by1⟩ := readPt (hval 1 26 v1 rfl rfl) h1
  obtain ⟨x2, y2, rfl, bx2, by2⟩ := readPt (hval 2 26 v2 rfl rfl) h2
  clear hA0 hval0
  refine (walk x0 y0 x1 y1 x2 y2 W).mono fun e W' ⟨he, bel⟩ => ?_
  subst he
  exact ⟨_, rfl, _, _, _, [], _, [], hW', trodAll_mk1 (shut_bool Try.underlying4 _), (trodAll_cons_mk (Below.trod laidOut (by kernel_rfl) (of_decide_eq_true (by kernel_rfl)) h0 bel lt0) (trodAll_cons_mk (Below.trod laidOut (by kernel_rfl) (of_decide_eq_true (by kernel_rfl)) h1 bel lt1) (trodAll_cons_mk (Below.trod laidOut (by kernel_rfl) (of_decide_eq_true (by kernel_rfl)) h2 bel lt2) trodAll_mk0))), rfl, bel.frame _, fun h => by cases h⟩

theorem over : Rows.fnTurnRoundRow.holds Try.pinned (OpenSpec.ofChange Rows.fnTurnRoundSpec) :=
  OpenClaim.holds_of_wide 5 Try.f5 rfl rfl rfl rfl rfl rfl rfl ⟨rfl, rfl, rfl, rfl, rfl⟩ rfl rfl rfl rfl rfl (by kernel_rfl) Try.func5 (by kernel_rfl)
    (of_decide_eq_true (by kernel_rfl)) (by unfold Func.isWrapper; first | (rw [if_pos (by decide +kernel)]; kernel_rfl) | (rw [if_neg (by decide +kernel)]; exact ⟨rfl, rfl⟩))
    (fun os started H enc _ => lifted os started H enc)

theorem proved : Rows.FnTurnRoundSaid := over
#print axioms proved
end fnTurnRound
end Go.Proofs.Ytbcjlgkdmkehlaa
