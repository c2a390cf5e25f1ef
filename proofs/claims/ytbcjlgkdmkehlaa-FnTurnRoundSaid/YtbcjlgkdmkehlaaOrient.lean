/- Orientation of three places: which way the turn goes. -/
import Derived.Test.YtbcjlgkdmkehlaaRows
import Derived.Test.YtbcjlgkdmkehlaaPlane
namespace Go.Proofs.Ytbcjlgkdmkehlaa
open Go.ChangeShapes Go.WideShapes Go.ChangeAt Go.RowKit Fl

/-- the sign of a whole number -/
def sgn (n : Int) : Int := if 0 < n then 1 else if n < 0 then -1 else 0
theorem sgn_range (n : Int) : -1 ≤ sgn n ∧ sgn n ≤ 1 := by unfold sgn; split <;> (try split) <;> omega
theorem isI_zero : IsI 0 0 := by
  refine ⟨false, 0, -1074, by decide +kernel, ?_⟩
  rw [val_zero]; rfl
theorem sub {ax ay bx by' : Nat} {AX AY BX BY : Int} (iax : IsI ax AX) (iay : IsI ay AY) (ibx : IsI bx BX) (iby : IsI by' BY)
    (h1 : -9007199254740992 ≤ AX - BX) (h2 : AX - BX ≤ 9007199254740992) (h3 : -9007199254740992 ≤ AY - BY) (h4 : AY - BY ≤ 9007199254740992) :
    ∃ rx ry, IsI rx (AX - BX) ∧ IsI ry (AY - BY) ∧ ∀ w, Calls Try.prog 123 #[.agg #[.float .f64 ax, .float .f64 ay], .agg #[.float .f64 bx, .float .f64 by']] w fun e w' => e = .returned (.agg #[.float .f64 rx, .float .f64 ry]) ∧ Below w.heap.size w w' := by
  obtain ⟨rx, q1, i1⟩ := subI iax ibx h1 h2
  obtain ⟨ry, q2, i2⟩ := subI iay iby h3 h4
  refine ⟨rx, ry, i1, i2, fun w => ?_⟩
  have k1 := fSub (P := Try.prog) 29 q1
  have k2 := fSub (P := Try.prog) 29 q2
  clear iax iay ibx iby q1 q2 i1 i2 h1 h2 h3 h4
  go_enter Try.func123, Try.ntmps123
  go_wp2
  go_returns
  exact ⟨rfl, by go_grown⟩
theorem cross {ax ay bx by' : Nat} {AX AY BX BY : Int} (iax : IsI ax AX) (iay : IsI ay AY) (ibx : IsI bx BX) (iby : IsI by' BY)
    (h1 : -9007199254740992 ≤ AX * BY) (h2 : AX * BY ≤ 9007199254740992) (h3 : -9007199254740992 ≤ AY * BX) (h4 : AY * BX ≤ 9007199254740992)
    (h5 : -9007199254740992 ≤ AX * BY - AY * BX) (h6 : AX * BY - AY * BX ≤ 9007199254740992) :
    ∃ r, IsI r (AX * BY - AY * BX) ∧ ∀ w, Calls Try.prog 124 #[.agg #[.float .f64 ax, .float .f64 ay], .agg #[.float .f64 bx, .float .f64 by']] w fun e w' => e = .returned (.float .f64 r) ∧ Below w.heap.size w w' := by
  obtain ⟨p1, q1, i1⟩ := mulI iax iby h1 h2
  obtain ⟨p2, q2, i2⟩ := mulI iay ibx h3 h4
  obtain ⟨r, q3, i3⟩ := subI i1 i2 h5 h6
  refine ⟨r, i3, fun w => ?_⟩
  have k1 := fMul (P := Try.prog) 29 q1
  have k2 := fMul (P := Try.prog) 29 q2
  have k3 := fSub (P := Try.prog) 29 q3
  clear iax iay ibx iby q1 q2 q3 i1 i2 i3 h1 h2 h3 h4 h5 h6
  go_enter Try.func124, Try.ntmps124
  go_wp2
  go_ret
  exact ⟨rfl, by go_grown⟩
theorem orient97 {px py qx qy sx sy : Nat} {PX PY QX QY SX SY : Int} (ipx : IsI px PX) (ipy : IsI py PY) (iqx : IsI qx QX) (iqy : IsI qy QY) (isx : IsI sx SX) (isy : IsI sy SY)
    (h1 : -1048576 ≤ PX ∧ PX ≤ 1048576) (h2 : -1048576 ≤ PY ∧ PY ≤ 1048576) (h3 : -1048576 ≤ QX ∧ QX ≤ 1048576) (h4 : -1048576 ≤ QY ∧ QY ≤ 1048576) (h5 : -1048576 ≤ SX ∧ SX ≤ 1048576) (h6 : -1048576 ≤ SY ∧ SY ≤ 1048576) (w : World) :
    Calls Try.prog 97 #[.agg #[.float .f64 px, .float .f64 py], .agg #[.float .f64 qx, .float .f64 qy], .agg #[.float .f64 sx, .float .f64 sy]] w fun e w' => e = .returned (.int .i64 (sgn ((QX - PX) * (SY - QY) - (QY - PY) * (SX - QX)) + 2)) ∧ Below w.heap.size w w' := by
  obtain ⟨ax, ay, iax, iay, A⟩ := sub iqx iqy ipx ipy (by omega) (by omega) (by omega) (by omega)
  obtain ⟨bx, by', ibx, iby, B⟩ := sub isx isy iqx iqy (by omega) (by omega) (by omega) (by omega)
  have m1 := mul_bound (QX - PX) (SY - QY) 2097152 2097152 (by omega) (by omega) (by omega) (by omega)
  have m2 := mul_bound (QY - PY) (SX - QX) 2097152 2097152 (by omega) (by omega) (by omega) (by omega)
  obtain ⟨r, ir, X⟩ := cross iax iay ibx iby (by omega) (by omega) (by omega) (by omega) (by omega) (by omega)
  have ho := orderI ir isI_zero
  generalize ((QX - PX) * (SY - QY) - (QY - PY) * (SX - QX)) = c at *
  replace A := hid A
  replace B := hid B
  replace X := hid X
  clear iax iay ibx iby ir m1 m2 ipx ipy iqx iqy isx isy h1 h2 h3 h4 h5 h6
  by_cases g1 : 0 < c
  · have E : Hid (sgn c + 2 = 3) := by unfold sgn Hid; rw [if_pos g1]; rfl
    rw [if_neg (by omega), if_neg (by omega)] at ho
    have o1 : (FloatKind.f64.format.order r 0 == some .gt) = true := by show (Ieee.double.order _ _ == _) = true; rw [ho]; rfl
    clear ho g1
    go_enter Try.func97, Try.ntmps97
    go_wp2_with fail
    refine lettered (R := fun wz => Code.wp _ _ _ _ wz) (fun wz => wz.cell? ⟨w.heap.size, 0, none⟩ = some (.float .f64 px) ∧ wz.cell? ⟨w.heap.size, 1, none⟩ = some (.float .f64 py) ∧ wz.cell? ⟨w.heap.size + 1, 0, none⟩ = some (.float .f64 qx) ∧ wz.cell? ⟨w.heap.size + 1, 1, none⟩ = some (.float .f64 qy) ∧ wz.cell? ⟨w.heap.size + 1 + 1, 0, none⟩ = some (.float .f64 sx) ∧ wz.cell? ⟨w.heap.size + 1 + 1, 1, none⟩ = some (.float .f64 sy) ∧ w.heap.size + 3 ≤ wz.heap.size ∧ Below w.heap.size w wz) ⟨by simp [go_sem], by simp [go_sem], by simp [go_sem], by simp [go_sem], by simp [go_sem], by simp [go_sem], by simp, by go_grown⟩ ?_
    rintro wz ⟨c00, c01, c10, c11, c20, c21, hsz, hb⟩
    have HB := hid hb
    clear hb
    refine wp_region_calm (by kernel_rfl) (by kernel_rfl) ?_
    repeat (go_big_quiet_step (first | (go_at_call_of 123 px; exact calm_of (A.out _)) | (go_at_call_of 123 sx; exact calm_of (B.out _)) | (go_at_call 124; exact calm_of (X.out _))))
    refine wpQuiet_nil ?_
    rintro _ ⟨nq, rfl⟩
    go_wp2_with fail
    go_ret
    exact ⟨ret_i64 E.out.symm, HB.out.trans ((below_later _ _).mono HB.out.size)⟩
  · by_cases g2 : c < 0
    · have E : Hid (sgn c + 2 = 1) := by unfold sgn Hid; rw [if_neg g1, if_pos g2]; rfl
      rw [if_pos g2] at ho
      have o1 : (FloatKind.f64.format.order r 0 == some .gt) = false := by show (Ieee.double.order _ _ == _) = false; rw [ho]; rfl
      have o2 : (FloatKind.f64.format.order r 0 == some .lt) = true := by show (Ieee.double.order _ _ == _) = true; rw [ho]; rfl
      clear ho g1 g2
      go_enter Try.func97, Try.ntmps97
      go_wp2_with fail
      refine lettered (R := fun wz => Code.wp _ _ _ _ wz) (fun wz => wz.cell? ⟨w.heap.size, 0, none⟩ = some (.float .f64 px) ∧ wz.cell? ⟨w.heap.size, 1, none⟩ = some (.float .f64 py) ∧ wz.cell? ⟨w.heap.size + 1, 0, none⟩ = some (.float .f64 qx) ∧ wz.cell? ⟨w.heap.size + 1, 1, none⟩ = some (.float .f64 qy) ∧ wz.cell? ⟨w.heap.size + 1 + 1, 0, none⟩ = some (.float .f64 sx) ∧ wz.cell? ⟨w.heap.size + 1 + 1, 1, none⟩ = some (.float .f64 sy) ∧ w.heap.size + 3 ≤ wz.heap.size ∧ Below w.heap.size w wz) ⟨by simp [go_sem], by simp [go_sem], by simp [go_sem], by simp [go_sem], by simp [go_sem], by simp [go_sem], by simp, by go_grown⟩ ?_
      rintro wz ⟨c00, c01, c10, c11, c20, c21, hsz, hb⟩
      have HB := hid hb
      clear hb
      refine wp_region_calm (by kernel_rfl) (by kernel_rfl) ?_
      repeat (go_big_quiet_step (first | (go_at_call_of 123 px; exact calm_of (A.out _)) | (go_at_call_of 123 sx; exact calm_of (B.out _)) | (go_at_call 124; exact calm_of (X.out _))))
      refine wpQuiet_nil ?_
      rintro _ ⟨nq, rfl⟩
      go_wp2_with fail
      go_ret
      exact ⟨ret_i64 E.out.symm, HB.out.trans ((below_later _ _).mono HB.out.size)⟩
    · have E : Hid (sgn c + 2 = 2) := by unfold sgn Hid; rw [if_neg g1, if_neg g2]; rfl
      rw [if_neg (by omega), if_pos (by omega)] at ho
      have o1 : (FloatKind.f64.format.order r 0 == some .gt) = false := by show (Ieee.double.order _ _ == _) = false; rw [ho]; rfl
      have o2 : (FloatKind.f64.format.order r 0 == some .lt) = false := by show (Ieee.double.order _ _ == _) = false; rw [ho]; rfl
      clear ho g1 g2
      go_enter Try.func97, Try.ntmps97
      go_wp2_with fail
      refine lettered (R := fun wz => Code.wp _ _ _ _ wz) (fun wz => wz.cell? ⟨w.heap.size, 0, none⟩ = some (.float .f64 px) ∧ wz.cell? ⟨w.heap.size, 1, none⟩ = some (.float .f64 py) ∧ wz.cell? ⟨w.heap.size + 1, 0, none⟩ = some (.float .f64 qx) ∧ wz.cell? ⟨w.heap.size + 1, 1, none⟩ = some (.float .f64 qy) ∧ wz.cell? ⟨w.heap.size + 1 + 1, 0, none⟩ = some (.float .f64 sx) ∧ wz.cell? ⟨w.heap.size + 1 + 1, 1, none⟩ = some (.float .f64 sy) ∧ w.heap.size + 3 ≤ wz.heap.size ∧ Below w.heap.size w wz) ⟨by simp [go_sem], by simp [go_sem], by simp [go_sem], by simp [go_sem], by simp [go_sem], by simp [go_sem], by simp, by go_grown⟩ ?_
      rintro wz ⟨c00, c01, c10, c11, c20, c21, hsz, hb⟩
      have HB := hid hb
      clear hb
      refine wp_region_calm (by kernel_rfl) (by kernel_rfl) ?_
      repeat (go_big_quiet_step (first | (go_at_call_of 123 px; exact calm_of (A.out _)) | (go_at_call_of 123 sx; exact calm_of (B.out _)) | (go_at_call 124; exact calm_of (X.out _))))
      refine wpQuiet_nil ?_
      rintro _ ⟨nq, rfl⟩
      go_wp2_with fail
      go_ret
      exact ⟨ret_i64 E.out.symm, HB.out.trans ((below_later _ _).mono HB.out.size)⟩
theorem orient60 {px py qx qy sx sy : Nat} {PX PY QX QY SX SY : Int} (ipx : IsI px PX) (ipy : IsI py PY) (iqx : IsI qx QX) (iqy : IsI qy QY) (isx : IsI sx SX) (isy : IsI sy SY)
    (h1 : -1048576 ≤ PX ∧ PX ≤ 1048576) (h2 : -1048576 ≤ PY ∧ PY ≤ 1048576) (h3 : -1048576 ≤ QX ∧ QX ≤ 1048576) (h4 : -1048576 ≤ QY ∧ QY ≤ 1048576) (h5 : -1048576 ≤ SX ∧ SX ≤ 1048576) (h6 : -1048576 ≤ SY ∧ SY ≤ 1048576) (w : World) :
    Calls Try.prog 60 #[.agg #[.float .f64 px, .float .f64 py], .agg #[.float .f64 qx, .float .f64 qy], .agg #[.float .f64 sx, .float .f64 sy]] w fun e w' => e = .returned (.int .i64 (sgn ((QX - PX) * (SY - QY) - (QY - PY) * (SX - QX)) + 2)) ∧ Below w.heap.size w w' := by
  have O := hid (orient97 ipx ipy iqx iqy isx isy h1 h2 h3 h4 h5 h6)
  clear ipx ipy iqx iqy isx isy h1 h2 h3 h4 h5 h6
  generalize ((QX - PX) * (SY - QY) - (QY - PY) * (SX - QX)) = c at *
  go_enter Try.func60, Try.ntmps60
  go_wp2_with (go_at_call 97; refine (O.out _).mono ?_; rintro e w' ⟨rfl, hbl⟩)
  go_ret
  exact ⟨rfl, ((((Below.refl _ _).alloc (Nat.le_refl _) _).alloc (by simp) _).alloc (by simp; omega) _).trans (hbl.mono (by simp; omega))⟩
theorem orient {px py qx qy sx sy : Nat} {PX PY QX QY SX SY : Int} (ipx : IsI px PX) (ipy : IsI py PY) (iqx : IsI qx QX) (iqy : IsI qy QY) (isx : IsI sx SX) (isy : IsI sy SY)
    (h1 : -1048576 ≤ PX ∧ PX ≤ 1048576) (h2 : -1048576 ≤ PY ∧ PY ≤ 1048576) (h3 : -1048576 ≤ QX ∧ QX ≤ 1048576) (h4 : -1048576 ≤ QY ∧ QY ≤ 1048576) (h5 : -1048576 ≤ SX ∧ SX ≤ 1048576) (h6 : -1048576 ≤ SY ∧ SY ≤ 1048576) (w : World) :
    Calls Try.prog 21 #[.agg #[.float .f64 px, .float .f64 py], .agg #[.float .f64 qx, .float .f64 qy], .agg #[.float .f64 sx, .float .f64 sy]] w fun e w' => e = .returned (.int .i64 (sgn ((QX - PX) * (SY - QY) - (QY - PY) * (SX - QX)))) ∧ Below w.heap.size w w' := by
  have O := hid (orient60 ipx ipy iqx iqy isx isy h1 h2 h3 h4 h5 h6)
  clear ipx ipy iqx iqy isx isy h1 h2 h3 h4 h5 h6
  generalize ((QX - PX) * (SY - QY) - (QY - PY) * (SX - QX)) = c at *
  obtain ⟨b1, b2⟩ := sgn_range c
  go_enter Try.func21, Try.ntmps21
  go_wp2_with fail
  refine lettered (R := fun wz => Code.wp _ _ _ _ wz) (fun wz => wz.cell? ⟨w.heap.size, 0, none⟩ = some (.float .f64 px) ∧ wz.cell? ⟨w.heap.size, 1, none⟩ = some (.float .f64 py) ∧ wz.cell? ⟨w.heap.size + 1, 0, none⟩ = some (.float .f64 qx) ∧ wz.cell? ⟨w.heap.size + 1, 1, none⟩ = some (.float .f64 qy) ∧ wz.cell? ⟨w.heap.size + 1 + 1, 0, none⟩ = some (.float .f64 sx) ∧ wz.cell? ⟨w.heap.size + 1 + 1, 1, none⟩ = some (.float .f64 sy) ∧ w.heap.size + 3 ≤ wz.heap.size ∧ Below w.heap.size w wz) ⟨by simp [go_sem], by simp [go_sem], by simp [go_sem], by simp [go_sem], by simp [go_sem], by simp [go_sem], by simp, by go_grown⟩ ?_
  rintro wz ⟨c00, c01, c10, c11, c20, c21, hsz, hb⟩
  have HB := hid hb
  clear hb
  refine wp_region_calm (by kernel_rfl) (by kernel_rfl) ?_
  repeat (go_big_quiet_step (first | (go_at_call 59; exact calm_of (implXY _ _ _)) | (go_at_call 60; exact calm_of (O.out _))))
  refine wpQuiet_nil ?_
  rintro _ ⟨nq, rfl⟩
  go_wp2_with fail
  go_ret
  exact ⟨ret_i64 (by omega), HB.out.trans ((below_later _ _).mono HB.out.size)⟩
end Go.Proofs.Ytbcjlgkdmkehlaa
