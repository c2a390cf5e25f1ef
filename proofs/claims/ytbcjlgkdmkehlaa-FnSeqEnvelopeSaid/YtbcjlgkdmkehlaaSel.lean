/- The law FnSeqEnvelope holds of every geometry: the envelope of a sequence of finite numbers is that of its places. The call returns true and leaves memory as it was. Conditions: none. -/
import Derived.Test.YtbcjlgkdmkehlaaRows
import Derived.Test.YtbcjlgkdmkehlaaGpf
import Derived.Test.YtbcjlgkdmkehlaaGaf
namespace Go.Proofs.Ytbcjlgkdmkehlaa
open Go.ChangeShapes Go.WideShapes Go.ChangeAt Go.RowKit Fl
set_option maxRecDepth 100000
set_option linter.unusedSimpArgs false
namespace fnSeqEnvelope
theorem finAt (d : Int) (xs : List Nat) (h : ∀ x, x ∈ xs → nfB x = false) (i : Nat) (hi : i < xs.length / widthN d) : finB (sX d xs i) = true ∧ finB (sY d xs i) = true := by
  have hml := Nat.div_mul_le_self xs.length (widthN d)
  have h1 : (i + 1) * widthN d ≤ xs.length / widthN d * widthN d := Nat.mul_le_mul_right _ hi
  have := widthN_pos d
  rw [Nat.succ_mul] at h1
  have key : ∀ j, j < xs.length → finB (xs.getD j 0) = true := fun j hj => by
    rw [List.getD_eq_getElem?_getD, List.getElem?_eq_getElem hj]
    have := h _ (List.getElem_mem hj)
    unfold nfB at this
    simpa using this
  exact ⟨key _ (by omega), key _ (by omega)⟩
set_option maxHeartbeats 2000000 in
theorem walk (n : Nat) (k d : Int) (nad : Option Addr) (ncp : Nat) (xs : List Nat) (kad : Option Addr) (kcp : Nat) (ks : List Value) (w : World) (ho : Own w k d nad ncp xs kad kcp ks) (hk : ∀ u ∈ ks, GeoAt w n u) :
    Calls Try.prog 13 #[gv k d nad xs.length ncp kad ks.length kcp] w fun e w' => e = .returned (.bool true) ∧ Below w.heap.size w w' := by
  have Z := hid (fun w => zzFits2 k d nad ncp xs kad kcp ks w)
  have GL := hid (fun w' (hb : Below w.heap.size w w') => gLine n k d nad ncp xs kad kcp ks w' (ho.below hb) (fun u hu => (hk u hu).below hb))
  have GA := hid (fun w' (hb : Below w.heap.size w w') => gAllF n k d nad ncp xs kad kcp ks w' (ho.below hb) (fun u hu => (hk u hu).below hb))
  have SE := hid (fun (hxl : xs.length < 2000) w' (hb : Below w.heap.size w w') => seqEnvelope d nad ncp xs kad ks.length kcp hxl w' (ho.nums.below hb))
  have NL := hid (fun (hxl : xs.length < 2000) w' (hb : Below w.heap.size w w') => newLine2 d nad ncp xs kad ks.length kcp hxl ho.nCap ho.nMax ho.nNil w' (ho.nums.below hb))
  have GP := hid (gPlacesL d)
  unfold gv at *
  clear ho hk
  go_enter Try.func13, Try.ntmps13
  go_wp2_with fail
  refine lettered (R := fun wz => Calls _ _ _ wz _) (fun wz => wz.cell? ⟨w.heap.size, 0, none⟩ = some (.int .i64 k) ∧ wz.cell? ⟨w.heap.size, 1, none⟩ = some (.int .i64 d) ∧ wz.cell? ⟨w.heap.size, 2, none⟩ = some (.slice nad xs.length ncp) ∧ wz.cell? ⟨w.heap.size, 3, none⟩ = some (.slice kad ks.length kcp) ∧ w.heap.size + 1 ≤ wz.heap.size ∧ Below w.heap.size w wz) ⟨by go_cell, by go_cell, by go_cell, by go_cell, by simp, by go_grown⟩ ?_
  rintro wz ⟨c00, c01, c02, c03, hsz, hb⟩
  have HB := hid hb
  clear hb
  go_wp2_with (first | (go_at_call 29; (with_reducible refine (Z.out _).mono ?_); rintro e w' ⟨r, rfl, -, hbl⟩; obtain ⟨nx, rfl⟩ := later1 (lat (wz := wz) (by repeat (first | (with_reducible exact below_later _ _) | (with_reducible exact Below.refl _ _) | (with_reducible assumption) | (with_reducible refine Below.drew ?_) | (with_reducible refine Below.alloc ?_ (by (first | (with_reducible exact Nat.le_refl _) | (with_reducible exact (below_later _ _).size) | omega | (simp; done) | (simp; omega))) _))) hbl); clear hbl; cases r) | (go_at_call 30; (with_reducible refine (GL.out _ (by first | exact HB.out | exact HB.out.trans ((below_later wz nx).mono HB.out.size))).mono ?_); rintro e w' ⟨a, q, c, b, rfl, hsay, hbl⟩; obtain ⟨nx, rfl⟩ := later1 (lat (wz := wz) (by repeat (first | (with_reducible exact below_later _ _) | (with_reducible exact Below.refl _ _) | (with_reducible assumption) | (with_reducible refine Below.drew ?_) | (with_reducible refine Below.alloc ?_ (by (first | (with_reducible exact Nat.le_refl _) | (with_reducible exact (below_later _ _).size) | omega | (simp; done) | (simp; omega))) _))) hbl); clear hbl; replace hsay := hid hsay; cases b) | (go_at_call 34; (with_reducible refine (GA.out _ (by first | exact HB.out | exact HB.out.trans ((below_later wz nx).mono HB.out.size))).mono ?_); rintro e w' ⟨r1, rfl, hm1, hbl⟩; obtain ⟨nx, rfl⟩ := later1 (lat (wz := wz) (by repeat (first | (with_reducible exact below_later _ _) | (with_reducible exact Below.refl _ _) | (with_reducible assumption) | (with_reducible refine Below.drew ?_) | (with_reducible refine Below.alloc ?_ (by (first | (with_reducible exact Nat.le_refl _) | (with_reducible exact (below_later _ _).size) | omega | (simp; done) | (simp; omega))) _))) hbl); clear hbl; replace hm1 := hid hm1; cases r1))
  all_goals first
  | (go_ret; exact ⟨rfl, HB.out.trans ((below_later _ _).mono HB.out.size)⟩)
  | skip
  obtain ⟨rfl, hxl, -, -⟩ := hsay.out trivial
  have EE := hid (eEqualOf (xs.length / widthN d) (sX d xs) (sY d xs) (fun i hi => finAt d xs (hm1.out trivial) i hi))
  have SE2 := hid (SE.out hxl)
  have NL2 := hid (NL.out hxl)
  have GP2 := hid (fun ad cp w' hF h0 => GP.out ad cp xs hxl w' hF h0)
  have EO := hid (fun B v w' h => eOfRow B (xs.length / widthN d) v (sX d xs) (sY d xs) (by have := Nat.div_le_self xs.length (widthN d); omega) w' h)
  clear hsay hm1 SE NL GP GL GA Z
  generalize xs.length / widthN d * widthN d = m at *
  generalize xs.take m = ys at *
  generalize flatXY (sX d xs) (sY d xs) (xs.length / widthN d) = fl at *
  generalize EV.fold (sX d xs) (sY d xs) (xs.length / widthN d) = ev1 at *
  generalize EV.foldO (sX d xs) (sY d xs) (xs.length / widthN d) = ev2' at *
  generalize xs.length / widthN d = q at *
  generalize d % 4 = dm at *
  generalize xs.length = nl at *
  refine lettered (R := fun wz2 => Code.wp _ _ _ _ wz2) (fun wz2 => wz2.cell? ⟨w.heap.size, 0, none⟩ = some (.int .i64 2) ∧ wz2.cell? ⟨w.heap.size, 1, none⟩ = some (.int .i64 d) ∧ wz2.cell? ⟨w.heap.size, 2, none⟩ = some (.slice nad nl ncp) ∧ wz2.cell? ⟨w.heap.size, 3, none⟩ = some (.slice kad ks.length kcp) ∧ w.heap.size < wz2.heap.size ∧ Below w.heap.size w wz2) ⟨by go_cell, by go_cell, by go_cell, by go_cell, by have := (below_later wz nx).size; omega, HB.out.trans ((below_later _ _).mono HB.out.size)⟩ ?_
  rintro wz2 ⟨c2_0_0, c2_0_1, c2_0_2, c2_0_3, hs2_0, hb⟩
  clear HB
  have HB := hid hb
  clear hb
  refine wp_region_ord (S := (fun w' => ∃ e, w' = later wz2 e)) [(0, false), (2, false), (1, true), (3, true), (4, true), (5, true), (6, true), (7, false)] (by kernel_rfl) (by kernel_rfl) (fun _ _ d _ _ h => by cases d <;> exact h) ⟨_, (later_of (by repeat (first | (with_reducible exact below_later _ _) | (with_reducible exact Below.refl _ _) | (with_reducible assumption) | (with_reducible refine Below.drew ?_) | (with_reducible refine Below.alloc ?_ (by (first | (with_reducible exact Nat.le_refl _) | (with_reducible exact (below_later _ _).size) | omega | (simp; done) | (simp; omega))) _)))).symm⟩ ?_
  simp only [pickO, List.filterMap_cons, List.filterMap_nil, List.getElem?_cons_succ, List.getElem?_cons_zero, Option.map_some]
  repeat (first
    | ((with_reducible refine wpOrd_light (fun K hK => ?_)); go_simp; (first | (with_reducible refine hK _ ?_) | (rw [if_neg (by intro h; cases h)]; with_reducible refine hK _ ?_)); clear hK K)
    | ((with_reducible refine wpOrd_heavy (fun K L hK hL => ?_)); go_simp; (first | (with_reducible refine hL _ ?_) | (rw [if_neg (by intro h; cases h)]; with_reducible refine hL _ ?_)); clear hK hL K L)
    | ((with_reducible refine wpOrd_heavy (fun K L hK hL => ?_)); go_simp; (with_reducible refine hK _ _ ?_ ?_); (focus (exact ⟨_, (later_of (by repeat (first | (with_reducible exact below_later _ _) | (with_reducible exact Below.refl _ _) | (with_reducible assumption) | (with_reducible refine Below.drew ?_) | (with_reducible refine Below.alloc ?_ (by (first | (with_reducible exact Nat.le_refl _) | (with_reducible exact (below_later _ _).size) | omega | (simp; done) | (simp; omega))) _)))).symm⟩)); clear hK hL K L)
    | ((with_reducible refine wpOrd_heavy (fun K L hK hL => ?_)); go_simp; go_at_call 50; (with_reducible refine (SE2.out _ (by first | exact HB.out.drew | exact HB.out | exact HB.out.trans ((below_later wz2 nx).mono HB.out.size))).mono ?_); rintro e w' ⟨rfl, hbl⟩; obtain ⟨nx, rfl⟩ := later1 (lat (wz := wz2) (by repeat (first | (with_reducible exact below_later _ _) | (with_reducible exact Below.refl _ _) | (with_reducible assumption) | (with_reducible refine Below.drew ?_) | (with_reducible refine Below.alloc ?_ (by (first | (with_reducible exact Nat.le_refl _) | (with_reducible exact (below_later _ _).size) | omega | (simp; done) | (simp; omega))) _))) hbl); clear hbl; go_simp; (with_reducible refine hK _ _ ?_ ?_); (focus (exact ⟨_, (later_of (by repeat (first | (with_reducible exact below_later _ _) | (with_reducible exact Below.refl _ _) | (with_reducible assumption) | (with_reducible refine Below.drew ?_) | (with_reducible refine Below.alloc ?_ (by (first | (with_reducible exact Nat.le_refl _) | (with_reducible exact (below_later _ _).size) | omega | (simp; done) | (simp; omega))) _)))).symm⟩)); clear hK hL K L)
    | ((with_reducible refine wpOrd_heavy (fun K L hK hL => ?_)); go_simp; go_at_call 37; (with_reducible refine (NL2.out _ (by first | exact HB.out.drew | exact HB.out | exact HB.out.trans ((below_later wz2 nx).mono HB.out.size))).mono ?_); rintro e w' ⟨ad, cp, rfl, hf, hz0, hbl⟩; have HF := hid hf; have HZ := hid hz0; clear hf hz0; obtain ⟨nx, rfl⟩ := later1 (lat (wz := wz2) (by repeat (first | (with_reducible exact below_later _ _) | (with_reducible exact Below.refl _ _) | (with_reducible assumption) | (with_reducible refine Below.drew ?_) | (with_reducible refine Below.alloc ?_ (by (first | (with_reducible exact Nat.le_refl _) | (with_reducible exact (below_later _ _).size) | omega | (simp; done) | (simp; omega))) _))) hbl); clear hbl; go_simp; (with_reducible refine hK _ _ ?_ ?_); (focus (exact ⟨_, (later_of (by repeat (first | (with_reducible exact below_later _ _) | (with_reducible exact Below.refl _ _) | (with_reducible assumption) | (with_reducible refine Below.drew ?_) | (with_reducible refine Below.alloc ?_ (by (first | (with_reducible exact Nat.le_refl _) | (with_reducible exact (below_later _ _).size) | omega | (simp; done) | (simp; omega))) _)))).symm⟩)); clear hK hL K L)
    | ((with_reducible refine wpOrd_heavy (fun K L hK hL => ?_)); go_simp; go_at_call 52; (with_reducible refine (GP2.out _ _ _ HF.out HZ.out).mono ?_); rintro e w' ⟨v, B, rfl, -, hown, hbl⟩; have HO := hid hown; clear hown; obtain ⟨nx, rfl⟩ := later1 (lat (wz := wz2) (by repeat (first | (with_reducible exact below_later _ _) | (with_reducible exact Below.refl _ _) | (with_reducible assumption) | (with_reducible refine Below.drew ?_) | (with_reducible refine Below.alloc ?_ (by (first | (with_reducible exact Nat.le_refl _) | (with_reducible exact (below_later _ _).size) | omega | (simp; done) | (simp; omega))) _))) hbl); clear hbl; go_simp; (with_reducible refine hK _ _ ?_ ?_); (focus (exact ⟨_, (later_of (by repeat (first | (with_reducible exact below_later _ _) | (with_reducible exact Below.refl _ _) | (with_reducible assumption) | (with_reducible refine Below.drew ?_) | (with_reducible refine Below.alloc ?_ (by (first | (with_reducible exact Nat.le_refl _) | (with_reducible exact (below_later _ _).size) | omega | (simp; done) | (simp; omega))) _)))).symm⟩)); clear hK hL K L)
    | ((with_reducible refine wpOrd_heavy (fun K L hK hL => ?_)); go_simp; go_at_call 51; (with_reducible refine (EO.out _ _ _ HO.out).mono ?_); rintro e w' ⟨rfl, hbl⟩; obtain ⟨nx, rfl⟩ := later1 (lat (wz := wz2) (by repeat (first | (with_reducible exact below_later _ _) | (with_reducible exact Below.refl _ _) | (with_reducible assumption) | (with_reducible refine Below.drew ?_) | (with_reducible refine Below.alloc ?_ (by (first | (with_reducible exact Nat.le_refl _) | (with_reducible exact (below_later _ _).size) | omega | (simp; done) | (simp; omega))) _))) hbl); clear hbl; go_simp; (with_reducible refine hK _ _ ?_ ?_); (focus (exact ⟨_, (later_of (by repeat (first | (with_reducible exact below_later _ _) | (with_reducible exact Below.refl _ _) | (with_reducible assumption) | (with_reducible refine Below.drew ?_) | (with_reducible refine Below.alloc ?_ (by (first | (with_reducible exact Nat.le_refl _) | (with_reducible exact (below_later _ _).size) | omega | (simp; done) | (simp; omega))) _)))).symm⟩)); clear hK hL K L)
    | ((with_reducible refine wpOrd_heavy (fun K L hK hL => ?_)); go_simp; go_at_call 49; (with_reducible refine (EE.out _).mono ?_); rintro e w' ⟨rfl, hbl⟩; obtain ⟨nx, rfl⟩ := later1 (lat (wz := wz2) (by repeat (first | (with_reducible exact below_later _ _) | (with_reducible exact Below.refl _ _) | (with_reducible assumption) | (with_reducible refine Below.drew ?_) | (with_reducible refine Below.alloc ?_ (by (first | (with_reducible exact Nat.le_refl _) | (with_reducible exact (below_later _ _).size) | omega | (simp; done) | (simp; omega))) _))) hbl); clear hbl; go_simp; (with_reducible refine hK _ _ ?_ ?_); (focus (exact ⟨_, (later_of (by repeat (first | (with_reducible exact below_later _ _) | (with_reducible exact Below.refl _ _) | (with_reducible assumption) | (with_reducible refine Below.drew ?_) | (with_reducible refine Below.alloc ?_ (by (first | (with_reducible exact Nat.le_refl _) | (with_reducible exact (below_later _ _).size) | omega | (simp; done) | (simp; omega))) _)))).symm⟩)); clear hK hL K L))
  refine wpOrd_nil ?_
  go_wp2_with fail
  go_ret
  exact ⟨rfl, HB.out.trans ((below_later _ _).mono HB.out.size)⟩
set_option maxRecDepth 100000 in
theorem lifted (os : Os) (started : os.Started) (H : Type) (enc : TypeId × Value → H) :
    ReturnsInHanded {} Try.checked os 13 .any (Rows.fnSeqEnvelopeSpec.pre6 enc Try.prog Try.f13 Rows.fnSeqEnvelopeRow.domain false) (Rows.fnSeqEnvelopeSpec.post enc Try.prog Try.f13 false true false false) := by
  refine returnsInHanded_of_change (C := Try.checked) own started (by kernel_rfl) Try.func13
    (ChangeSpec.witness6 (enc := enc) (C := Try.checked) false ⟨#[], #[.agg #[.int .i64 0, .int .i64 0, .slice none 0 0, .slice none 0 0]], []⟩ 16 (by kernel_rfl) (by kernel_rfl) (by kernel_rfl) (by kernel_rfl)) ?_
  intro W base args ds gs before hval0 hW hcnd _
  have hval : ∀ (j : Nat) t v, Try.f13.params[j]? = some t → args[j]? = some v → Value.okWide Try.prog W .any base t v := hval0
  have hW' := hW
  obtain ⟨p, q, hA0, hV, rfl, hfz, hnd⟩ := hW
  have hA : DataW.TrodAll enc Try.prog W 0 (fun _ => true) true Try.f13.params.toList args.toList ds p := hA0
  rw [Try.params13] at hA hval
  obtain ⟨v0, vs0, d0, ds0, p0, q0, hargs, rfl, rfl, h0, r0⟩ := trodAll_cons hA
  obtain ⟨rfl, rfl, rfl⟩ := trodAll_nil r0
  obtain rfl : args = #[v0] := by cases args; simp_all
  obtain ⟨rfl, rfl⟩ := trodVars_none hV
  have lt0 : ∀ x ∈ p0, x.block < W.heap.size := by obtain ⟨m, hm⟩ := h0; exact DataW.trod_lt m _ _ _ hm
  obtain ⟨n, hg⟩ := readGeom (hval 0 _ _ rfl rfl) h0
  cases n with
  | zero => exact hg.elim
  | succ n =>
  obtain ⟨gk, gd, nad, ncp, xs, kad, kcp, ks, rfl, ho, hk⟩ := hg
  clear hA0 hval0
  refine (walk n gk gd nad ncp xs kad kcp ks W ho hk).mono fun e W' ⟨he, bel⟩ => ?_
  subst he
  exact ⟨_, rfl, _, _, _, [], _, [], hW', trodAll_mk1 (shut_bool Try.underlying4 _), (trodAll_cons_mk (Below.trod laidOut (by kernel_rfl) (of_decide_eq_true (by kernel_rfl)) h0 bel lt0) trodAll_mk0), rfl, bel.frame _, fun h => by cases h⟩

theorem over : Rows.fnSeqEnvelopeRow.holds Try.pinned (OpenSpec.ofChange Rows.fnSeqEnvelopeSpec) :=
  OpenClaim.holds_of_wide 13 Try.f13 rfl rfl rfl rfl rfl rfl rfl ⟨rfl, rfl, rfl, rfl, rfl⟩ rfl rfl rfl rfl rfl (by kernel_rfl) Try.func13 (by kernel_rfl)
    (of_decide_eq_true (by kernel_rfl)) (by unfold Func.isWrapper; first | (rw [if_pos (by decide +kernel)]; kernel_rfl) | (rw [if_neg (by decide +kernel)]; exact ⟨rfl, rfl⟩))
    (fun os started H enc _ => lifted os started H enc)

theorem proved : Rows.FnSeqEnvelopeSaid := over
end fnSeqEnvelope
end Go.Proofs.Ytbcjlgkdmkehlaa
