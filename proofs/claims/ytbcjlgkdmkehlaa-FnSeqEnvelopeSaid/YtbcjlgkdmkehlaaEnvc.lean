/- Envelopes given as plain data: the package's envelope of them, whether it has a place; the laws' own eFinite, eFits, eCorners, eHas. -/
import Derived.Test.YtbcjlgkdmkehlaaRows
import Derived.Test.YtbcjlgkdmkehlaaEnv
namespace Go.Proofs.Ytbcjlgkdmkehlaa
open Go.ChangeShapes Go.WideShapes Go.ChangeAt Go.RowKit Fl
set_option maxRecDepth 100000
theorem envelopeN (ax ay cx cy : Nat) (w : World) : Calls Try.prog 80 #[.agg #[.bool false, .float .f64 ax, .float .f64 ay, .float .f64 cx, .float .f64 cy]] w fun e w' => e = .returned (.agg #[.float .f64 0, .float .f64 0, .float .f64 0, .float .f64 0, .bool false]) ∧ Below w.heap.size w w' := by
  go_enter Try.func80, Try.ntmps80
  go_wp2
  go_returns
  exact ⟨rfl, by go_grown⟩
/-- the envelope of two corners -/
def ev2 (ax ay cx cy : Nat) : EV := (EV.none.step ax ay).step cx cy
def two (a b : Nat) : Nat → Nat | 0 => a | _ => b
theorem ev2_fold (ax ay cx cy : Nat) : EV.fold (two ax cx) (two ay cy) 2 = ev2 ax ay cx cy := rfl
theorem twoPts (w : World) (b : Nat) (hb : w.heap.size = b) (ax ay cx cy : Nat) (t : TypeId) : XYsAt (w.alloc (.cells #[.float .f64 ax, .float .f64 ay, .float .f64 cx, .float .f64 cy] t)) b 0 2 (two ax cx) (two ay cy) := by
  intro i hi
  subst hb
  have : i = 0 ∨ i = 1 := by omega
  rcases this with rfl | rfl <;> simp [go_sem, two]
theorem envelopeT (ax ay cx cy : Nat) (w : World) : Calls Try.prog 80 #[.agg #[.bool true, .float .f64 ax, .float .f64 ay, .float .f64 cx, .float .f64 cy]] w fun e w' => e = .returned (ev2 ax ay cx cy).v ∧ Below w.heap.size w w' := by
  obtain ⟨a1, a2, a3, a4, hE⟩ := expandV (EV.none.step ax ay) cx cy
  have E : ev2 ax ay cx cy = ⟨a1, a2, a3, a4, true⟩ := hE
  have NE := fun (b c : Nat) (w : World) hp hb => newEnvelope b 0 2 c (two ax cx) (two ay cy) (by omega) w hp hb
  simp only [ev2_fold, E, EV.v] at NE
  rw [E]
  simp only [EV.v]
  replace NE := hid NE
  clear E hE
  go_enter Try.func80, Try.ntmps80
  go_wp2_with fail
  refine lettered (R := fun wz => Calls _ _ _ wz _) (fun wz => wz.cell? ⟨w.heap.size, 0, none⟩ = some (.bool true) ∧ wz.cell? ⟨w.heap.size, 1, none⟩ = some (.float .f64 ax) ∧ wz.cell? ⟨w.heap.size, 2, none⟩ = some (.float .f64 ay) ∧ wz.cell? ⟨w.heap.size, 3, none⟩ = some (.float .f64 cx) ∧ wz.cell? ⟨w.heap.size, 4, none⟩ = some (.float .f64 cy) ∧ wz.cell? ⟨w.heap.size + 1, 0, none⟩ = some (.float .f64 0) ∧ wz.cell? ⟨w.heap.size + 1, 1, none⟩ = some (.float .f64 0) ∧ wz.cell? ⟨w.heap.size + 1, 2, none⟩ = some (.float .f64 0) ∧ wz.cell? ⟨w.heap.size + 1, 3, none⟩ = some (.float .f64 0) ∧ wz.cell? ⟨w.heap.size + 1, 4, none⟩ = some (.bool false) ∧ wz.frozen? ⟨w.heap.size + 1, 0, none⟩ = false ∧ wz.frozen? ⟨w.heap.size + 1, 1, none⟩ = false ∧ wz.frozen? ⟨w.heap.size + 1, 2, none⟩ = false ∧ wz.frozen? ⟨w.heap.size + 1, 3, none⟩ = false ∧ wz.frozen? ⟨w.heap.size + 1, 4, none⟩ = false ∧ XYsAt wz (w.heap.size + 1 + 1) 0 2 (two ax cx) (two ay cy) ∧ w.heap.size + 3 ≤ wz.heap.size ∧ Below w.heap.size w wz) ⟨by go_cell, by go_cell, by go_cell, by go_cell, by go_cell, by go_cell, by go_cell, by go_cell, by go_cell, by go_cell, by go_cell, by go_cell, by go_cell, by go_cell, by go_cell, twoPts _ _ (by simp) ax ay cx cy 85, by simp, by go_grown⟩ ?_
  rintro wz ⟨c00, c01, c02, c03, c04, c10, c11, c12, c13, c14, z10, z11, z12, z13, z14, hp, hsz, hb⟩
  have HB := hid hb
  clear hb
  have hq : w.heap.size + 1 + 1 < wz.heap.size := by omega
  have NE2 := hid (NE.out _ 2 _ hp hq)
  clear hp
  go_wp2_with (first | (go_at_call 108; (with_reducible refine (NE2.out).mono ?_); rintro e w' ⟨rfl, hbl⟩; obtain ⟨nx, rfl⟩ := later1 (lat (wz := wz) (by repeat (first | (with_reducible exact below_later _ _) | (with_reducible exact Below.refl _ _) | (with_reducible assumption) | (with_reducible refine Below.drew ?_) | (with_reducible refine Below.alloc ?_ (by (first | (with_reducible exact Nat.le_refl _) | (with_reducible exact (below_later _ _).size) | omega | (simp; done) | (simp; omega))) _))) hbl); clear hbl))
  refine bodyPost_ret (ret1 (b := w.heap.size + 1) (cs := [.float .f64 a1, .float .f64 a2, .float .f64 a3, .float .f64 a4, .bool true]) Try.results80 rfl Try.underlying110 rfl (by kernel_rfl) ⟨by go_cell, by go_cell, by go_cell, by go_cell, by go_cell, trivial⟩) rfl ?_
  exact ⟨rfl, by
    have hB := HB.out.trans ((below_later wz nx).mono HB.out.size)
    repeat' (first | (with_reducible exact hB) | (with_reducible refine Below.setCell ?_ ?_ _) | (with_reducible refine Below.alloc ?_ ?_ _) | (with_reducible refine Below.drew ?_) | omega | (simp; done) | (simp; omega))⟩
theorem errAtXY (s : ByteArray) (x y : Nat) (w : World) : Calls Try.prog 132 #[.string s, .agg #[.float .f64 x, .float .f64 y]] w fun e w' => e = .returned (.iface 164 (.agg #[.string s, .bool true, .float .f64 x, .float .f64 y])) ∧ Below w.heap.size w w' := by
  go_enter Try.func132, Try.ntmps132
  go_wp2
  go_ret
  exact ⟨rfl, by go_grown⟩
def OkOrErr (b : Bool) (w : World) (e : Ending) (w' : World) : Prop := (b = true → e = .returned .nilIface) ∧ (b = false → ∃ u, e = .returned (.iface 164 (.agg u))) ∧ Below w.heap.size w w'
theorem validate (x y : Nat) (hx : x < 18446744073709551616) (hy : y < 18446744073709551616) (w : World) : Calls Try.prog 110 #[.agg #[.float .f64 x, .float .f64 y]] w (OkOrErr (finB x && finB y) w) := by
  have N1 := hid (fun w => quiet_below (isNaN x w))
  have N2 := hid (fun w => quiet_below (isNaN y w))
  have I1 := hid (fun w => quiet_below (isInf0 x hx w))
  have I2 := hid (fun w => quiet_below (isInf0 y hy w))
  rw [finB_eq, finB_eq]
  clear hx hy
  generalize nanB x = a at *
  generalize nanB y = b at *
  generalize infB x = c at *
  generalize infB y = d at *
  cases a <;> cases b <;> cases c <;> cases d
  all_goals
    go_enter Try.func110, Try.ntmps110
    go_wp2_with fail
    refine lettered (R := fun wz => Calls _ _ _ wz _) (fun wz => wz.cell? ⟨w.heap.size, 0, none⟩ = some (.float .f64 x) ∧ wz.cell? ⟨w.heap.size, 1, none⟩ = some (.float .f64 y) ∧ w.heap.size + 1 ≤ wz.heap.size ∧ Below w.heap.size w wz) ⟨by go_cell, by go_cell, by simp, by go_grown⟩ ?_
    rintro wz ⟨c00, c01, hsz, hb⟩
    have HB := hid hb
    clear hb
    go_wp2_with (first | (go_at_call 72; (with_reducible refine (N1.out _).mono ?_); rintro e w' ⟨rfl, hbl⟩; obtain ⟨nx, rfl⟩ := later1 (lat (wz := wz) (by repeat (first | (with_reducible exact below_later _ _) | (with_reducible exact Below.refl _ _) | (with_reducible assumption) | (with_reducible refine Below.drew ?_) | (with_reducible refine Below.alloc ?_ (by (first | (with_reducible exact Nat.le_refl _) | (with_reducible exact (below_later _ _).size) | omega | (simp; done) | (simp; omega))) _))) hbl); clear hbl) | (go_at_call 72; (with_reducible refine (N2.out _).mono ?_); rintro e w' ⟨rfl, hbl⟩; obtain ⟨nx, rfl⟩ := later1 (lat (wz := wz) (by repeat (first | (with_reducible exact below_later _ _) | (with_reducible exact Below.refl _ _) | (with_reducible assumption) | (with_reducible refine Below.drew ?_) | (with_reducible refine Below.alloc ?_ (by (first | (with_reducible exact Nat.le_refl _) | (with_reducible exact (below_later _ _).size) | omega | (simp; done) | (simp; omega))) _))) hbl); clear hbl) | (go_at_call 82; (with_reducible refine (I1.out _).mono ?_); rintro e w' ⟨rfl, hbl⟩; obtain ⟨nx, rfl⟩ := later1 (lat (wz := wz) (by repeat (first | (with_reducible exact below_later _ _) | (with_reducible exact Below.refl _ _) | (with_reducible assumption) | (with_reducible refine Below.drew ?_) | (with_reducible refine Below.alloc ?_ (by (first | (with_reducible exact Nat.le_refl _) | (with_reducible exact (below_later _ _).size) | omega | (simp; done) | (simp; omega))) _))) hbl); clear hbl) | (go_at_call 82; (with_reducible refine (I2.out _).mono ?_); rintro e w' ⟨rfl, hbl⟩; obtain ⟨nx, rfl⟩ := later1 (lat (wz := wz) (by repeat (first | (with_reducible exact below_later _ _) | (with_reducible exact Below.refl _ _) | (with_reducible assumption) | (with_reducible refine Below.drew ?_) | (with_reducible refine Below.alloc ?_ (by (first | (with_reducible exact Nat.le_refl _) | (with_reducible exact (below_later _ _).size) | omega | (simp; done) | (simp; omega))) _))) hbl); clear hbl) | (go_at_call 132; (with_reducible refine (errAtXY _ _ _ _).mono ?_); rintro e w' ⟨rfl, hbl⟩; obtain ⟨nx, rfl⟩ := later1 (lat (wz := wz) (by repeat (first | (with_reducible exact below_later _ _) | (with_reducible exact Below.refl _ _) | (with_reducible assumption) | (with_reducible refine Below.drew ?_) | (with_reducible refine Below.alloc ?_ (by (first | (with_reducible exact Nat.le_refl _) | (with_reducible exact (below_later _ _).size) | omega | (simp; done) | (simp; omega))) _))) hbl); clear hbl))
    go_ret
    exact ⟨by first | (intro _; rfl) | (intro h; cases h), by first | (intro h; exact ⟨_, rfl⟩) | (intro h; cases h), HB.out.trans ((below_later _ _).mono HB.out.size)⟩
abbrev geV (a b : Nat) : Bool := FloatKind.f64.format.order a b == some .gt || FloatKind.f64.format.order a b == some .eq
abbrev leV (a b : Nat) : Bool := FloatKind.f64.format.order a b == some .lt || FloatKind.f64.format.order a b == some .eq
/-- whether an envelope has a place -/
def containsB (e : EV) (x y : Nat) : Bool := e.full && (finB x && finB y) && geV x e.lx && leV x e.hx && geV y e.ly && leV y e.hy
theorem contains (e : EV) (x y : Nat) (hx : x < 18446744073709551616) (hy : y < 18446744073709551616) (w : World) : Calls Try.prog 81 #[e.v, .agg #[.float .f64 x, .float .f64 y]] w fun e' w' => e' = .returned (.bool (containsB e x y)) ∧ Below w.heap.size w w' := by
  obtain ⟨lx, ly, hx', hy', b⟩ := e
  have V := hid (validate x y hx hy)
  unfold containsB
  clear hx hy
  simp only [EV.v]
  generalize hk : (finB x && finB y) = ok at *
  generalize h1 : geV x lx = g1 at *
  generalize h2 : leV x hx' = g2 at *
  generalize h3 : geV y ly = g3 at *
  generalize h4 : leV y hy' = g4 at *
  unfold geV at h1 h3
  unfold leV at h2 h4
  clear hk
  cases b
  · go_enter Try.func81, Try.ntmps81
    go_wp2_with fail
    refine lettered (R := fun wz => Calls _ _ _ wz _) (fun wz => wz.cell? ⟨w.heap.size, 0, none⟩ = some (.float .f64 lx) ∧ wz.cell? ⟨w.heap.size, 1, none⟩ = some (.float .f64 ly) ∧ wz.cell? ⟨w.heap.size, 2, none⟩ = some (.float .f64 hx') ∧ wz.cell? ⟨w.heap.size, 3, none⟩ = some (.float .f64 hy') ∧ wz.cell? ⟨w.heap.size, 4, none⟩ = some (.bool false) ∧ wz.cell? ⟨w.heap.size + 1, 0, none⟩ = some (.float .f64 x) ∧ wz.cell? ⟨w.heap.size + 1, 1, none⟩ = some (.float .f64 y) ∧ w.heap.size + 2 ≤ wz.heap.size ∧ Below w.heap.size w wz) ⟨by go_cell, by go_cell, by go_cell, by go_cell, by go_cell, by go_cell, by go_cell, by simp, by go_grown⟩ ?_
    rintro wz ⟨c00, c01, c02, c03, c04, c10, c11, hsz, hb⟩
    have HB := hid hb
    clear hb
    have IE := hid (envIsEmpty lx ly hx' hy')
    go_wp2_with (first | (go_at_call 109; (with_reducible refine (IE.out _ _).mono ?_); rintro e w' ⟨rfl, hbl⟩; obtain ⟨nx, rfl⟩ := later1 (lat (wz := wz) (by repeat (first | (with_reducible exact below_later _ _) | (with_reducible exact Below.refl _ _) | (with_reducible assumption) | (with_reducible refine Below.drew ?_) | (with_reducible refine Below.alloc ?_ (by (first | (with_reducible exact Nat.le_refl _) | (with_reducible exact (below_later _ _).size) | omega | (simp; done) | (simp; omega))) _))) hbl); clear hbl) | (go_at_call 110; (with_reducible refine (V.out _).mono ?_); rintro e w' ⟨v1, v2, hbl⟩; obtain ⟨nx, rfl⟩ := later1 (lat (wz := wz) (by repeat (first | (with_reducible exact below_later _ _) | (with_reducible exact Below.refl _ _) | (with_reducible assumption) | (with_reducible refine Below.drew ?_) | (with_reducible refine Below.alloc ?_ (by (first | (with_reducible exact Nat.le_refl _) | (with_reducible exact (below_later _ _).size) | omega | (simp; done) | (simp; omega))) _))) hbl); clear hbl; first | (obtain rfl := v1 rfl; clear v1 v2) | (obtain ⟨u, rfl⟩ := v2 rfl; clear v1 v2)))
    go_ret
    exact ⟨ret_bool (by simp), HB.out.trans ((below_later _ _).mono HB.out.size)⟩
  · skip
    cases ok
    · go_enter Try.func81, Try.ntmps81
      go_wp2_with fail
      refine lettered (R := fun wz => Calls _ _ _ wz _) (fun wz => wz.cell? ⟨w.heap.size, 0, none⟩ = some (.float .f64 lx) ∧ wz.cell? ⟨w.heap.size, 1, none⟩ = some (.float .f64 ly) ∧ wz.cell? ⟨w.heap.size, 2, none⟩ = some (.float .f64 hx') ∧ wz.cell? ⟨w.heap.size, 3, none⟩ = some (.float .f64 hy') ∧ wz.cell? ⟨w.heap.size, 4, none⟩ = some (.bool true) ∧ wz.cell? ⟨w.heap.size + 1, 0, none⟩ = some (.float .f64 x) ∧ wz.cell? ⟨w.heap.size + 1, 1, none⟩ = some (.float .f64 y) ∧ w.heap.size + 2 ≤ wz.heap.size ∧ Below w.heap.size w wz) ⟨by go_cell, by go_cell, by go_cell, by go_cell, by go_cell, by go_cell, by go_cell, by simp, by go_grown⟩ ?_
      rintro wz ⟨c00, c01, c02, c03, c04, c10, c11, hsz, hb⟩
      have HB := hid hb
      clear hb
      have IE := hid (envIsEmpty lx ly hx' hy')
      go_wp2_with (first | (go_at_call 109; (with_reducible refine (IE.out _ _).mono ?_); rintro e w' ⟨rfl, hbl⟩; obtain ⟨nx, rfl⟩ := later1 (lat (wz := wz) (by repeat (first | (with_reducible exact below_later _ _) | (with_reducible exact Below.refl _ _) | (with_reducible assumption) | (with_reducible refine Below.drew ?_) | (with_reducible refine Below.alloc ?_ (by (first | (with_reducible exact Nat.le_refl _) | (with_reducible exact (below_later _ _).size) | omega | (simp; done) | (simp; omega))) _))) hbl); clear hbl) | (go_at_call 110; (with_reducible refine (V.out _).mono ?_); rintro e w' ⟨v1, v2, hbl⟩; obtain ⟨nx, rfl⟩ := later1 (lat (wz := wz) (by repeat (first | (with_reducible exact below_later _ _) | (with_reducible exact Below.refl _ _) | (with_reducible assumption) | (with_reducible refine Below.drew ?_) | (with_reducible refine Below.alloc ?_ (by (first | (with_reducible exact Nat.le_refl _) | (with_reducible exact (below_later _ _).size) | omega | (simp; done) | (simp; omega))) _))) hbl); clear hbl; first | (obtain rfl := v1 rfl; clear v1 v2) | (obtain ⟨u, rfl⟩ := v2 rfl; clear v1 v2)))
      go_ret
      exact ⟨ret_bool (by simp), HB.out.trans ((below_later _ _).mono HB.out.size)⟩
    · skip
      cases g1
      · go_enter Try.func81, Try.ntmps81
        go_wp2_with fail
        refine lettered (R := fun wz => Calls _ _ _ wz _) (fun wz => wz.cell? ⟨w.heap.size, 0, none⟩ = some (.float .f64 lx) ∧ wz.cell? ⟨w.heap.size, 1, none⟩ = some (.float .f64 ly) ∧ wz.cell? ⟨w.heap.size, 2, none⟩ = some (.float .f64 hx') ∧ wz.cell? ⟨w.heap.size, 3, none⟩ = some (.float .f64 hy') ∧ wz.cell? ⟨w.heap.size, 4, none⟩ = some (.bool true) ∧ wz.cell? ⟨w.heap.size + 1, 0, none⟩ = some (.float .f64 x) ∧ wz.cell? ⟨w.heap.size + 1, 1, none⟩ = some (.float .f64 y) ∧ w.heap.size + 2 ≤ wz.heap.size ∧ Below w.heap.size w wz) ⟨by go_cell, by go_cell, by go_cell, by go_cell, by go_cell, by go_cell, by go_cell, by simp, by go_grown⟩ ?_
        rintro wz ⟨c00, c01, c02, c03, c04, c10, c11, hsz, hb⟩
        have HB := hid hb
        clear hb
        have IE := hid (envIsEmpty lx ly hx' hy')
        go_wp2_with (first | (go_at_call 109; (with_reducible refine (IE.out _ _).mono ?_); rintro e w' ⟨rfl, hbl⟩; obtain ⟨nx, rfl⟩ := later1 (lat (wz := wz) (by repeat (first | (with_reducible exact below_later _ _) | (with_reducible exact Below.refl _ _) | (with_reducible assumption) | (with_reducible refine Below.drew ?_) | (with_reducible refine Below.alloc ?_ (by (first | (with_reducible exact Nat.le_refl _) | (with_reducible exact (below_later _ _).size) | omega | (simp; done) | (simp; omega))) _))) hbl); clear hbl) | (go_at_call 110; (with_reducible refine (V.out _).mono ?_); rintro e w' ⟨v1, v2, hbl⟩; obtain ⟨nx, rfl⟩ := later1 (lat (wz := wz) (by repeat (first | (with_reducible exact below_later _ _) | (with_reducible exact Below.refl _ _) | (with_reducible assumption) | (with_reducible refine Below.drew ?_) | (with_reducible refine Below.alloc ?_ (by (first | (with_reducible exact Nat.le_refl _) | (with_reducible exact (below_later _ _).size) | omega | (simp; done) | (simp; omega))) _))) hbl); clear hbl; first | (obtain rfl := v1 rfl; clear v1 v2) | (obtain ⟨u, rfl⟩ := v2 rfl; clear v1 v2)))
        go_ret
        exact ⟨ret_bool (by simp), HB.out.trans ((below_later _ _).mono HB.out.size)⟩
      · skip
        cases g2
        · go_enter Try.func81, Try.ntmps81
          go_wp2_with fail
          refine lettered (R := fun wz => Calls _ _ _ wz _) (fun wz => wz.cell? ⟨w.heap.size, 0, none⟩ = some (.float .f64 lx) ∧ wz.cell? ⟨w.heap.size, 1, none⟩ = some (.float .f64 ly) ∧ wz.cell? ⟨w.heap.size, 2, none⟩ = some (.float .f64 hx') ∧ wz.cell? ⟨w.heap.size, 3, none⟩ = some (.float .f64 hy') ∧ wz.cell? ⟨w.heap.size, 4, none⟩ = some (.bool true) ∧ wz.cell? ⟨w.heap.size + 1, 0, none⟩ = some (.float .f64 x) ∧ wz.cell? ⟨w.heap.size + 1, 1, none⟩ = some (.float .f64 y) ∧ w.heap.size + 2 ≤ wz.heap.size ∧ Below w.heap.size w wz) ⟨by go_cell, by go_cell, by go_cell, by go_cell, by go_cell, by go_cell, by go_cell, by simp, by go_grown⟩ ?_
          rintro wz ⟨c00, c01, c02, c03, c04, c10, c11, hsz, hb⟩
          have HB := hid hb
          clear hb
          have IE := hid (envIsEmpty lx ly hx' hy')
          go_wp2_with (first | (go_at_call 109; (with_reducible refine (IE.out _ _).mono ?_); rintro e w' ⟨rfl, hbl⟩; obtain ⟨nx, rfl⟩ := later1 (lat (wz := wz) (by repeat (first | (with_reducible exact below_later _ _) | (with_reducible exact Below.refl _ _) | (with_reducible assumption) | (with_reducible refine Below.drew ?_) | (with_reducible refine Below.alloc ?_ (by (first | (with_reducible exact Nat.le_refl _) | (with_reducible exact (below_later _ _).size) | omega | (simp; done) | (simp; omega))) _))) hbl); clear hbl) | (go_at_call 110; (with_reducible refine (V.out _).mono ?_); rintro e w' ⟨v1, v2, hbl⟩; obtain ⟨nx, rfl⟩ := later1 (lat (wz := wz) (by repeat (first | (with_reducible exact below_later _ _) | (with_reducible exact Below.refl _ _) | (with_reducible assumption) | (with_reducible refine Below.drew ?_) | (with_reducible refine Below.alloc ?_ (by (first | (with_reducible exact Nat.le_refl _) | (with_reducible exact (below_later _ _).size) | omega | (simp; done) | (simp; omega))) _))) hbl); clear hbl; first | (obtain rfl := v1 rfl; clear v1 v2) | (obtain ⟨u, rfl⟩ := v2 rfl; clear v1 v2)))
          go_ret
          exact ⟨ret_bool (by simp), HB.out.trans ((below_later _ _).mono HB.out.size)⟩
        · skip
          cases g3
          · go_enter Try.func81, Try.ntmps81
            go_wp2_with fail
            refine lettered (R := fun wz => Calls _ _ _ wz _) (fun wz => wz.cell? ⟨w.heap.size, 0, none⟩ = some (.float .f64 lx) ∧ wz.cell? ⟨w.heap.size, 1, none⟩ = some (.float .f64 ly) ∧ wz.cell? ⟨w.heap.size, 2, none⟩ = some (.float .f64 hx') ∧ wz.cell? ⟨w.heap.size, 3, none⟩ = some (.float .f64 hy') ∧ wz.cell? ⟨w.heap.size, 4, none⟩ = some (.bool true) ∧ wz.cell? ⟨w.heap.size + 1, 0, none⟩ = some (.float .f64 x) ∧ wz.cell? ⟨w.heap.size + 1, 1, none⟩ = some (.float .f64 y) ∧ w.heap.size + 2 ≤ wz.heap.size ∧ Below w.heap.size w wz) ⟨by go_cell, by go_cell, by go_cell, by go_cell, by go_cell, by go_cell, by go_cell, by simp, by go_grown⟩ ?_
            rintro wz ⟨c00, c01, c02, c03, c04, c10, c11, hsz, hb⟩
            have HB := hid hb
            clear hb
            have IE := hid (envIsEmpty lx ly hx' hy')
            go_wp2_with (first | (go_at_call 109; (with_reducible refine (IE.out _ _).mono ?_); rintro e w' ⟨rfl, hbl⟩; obtain ⟨nx, rfl⟩ := later1 (lat (wz := wz) (by repeat (first | (with_reducible exact below_later _ _) | (with_reducible exact Below.refl _ _) | (with_reducible assumption) | (with_reducible refine Below.drew ?_) | (with_reducible refine Below.alloc ?_ (by (first | (with_reducible exact Nat.le_refl _) | (with_reducible exact (below_later _ _).size) | omega | (simp; done) | (simp; omega))) _))) hbl); clear hbl) | (go_at_call 110; (with_reducible refine (V.out _).mono ?_); rintro e w' ⟨v1, v2, hbl⟩; obtain ⟨nx, rfl⟩ := later1 (lat (wz := wz) (by repeat (first | (with_reducible exact below_later _ _) | (with_reducible exact Below.refl _ _) | (with_reducible assumption) | (with_reducible refine Below.drew ?_) | (with_reducible refine Below.alloc ?_ (by (first | (with_reducible exact Nat.le_refl _) | (with_reducible exact (below_later _ _).size) | omega | (simp; done) | (simp; omega))) _))) hbl); clear hbl; first | (obtain rfl := v1 rfl; clear v1 v2) | (obtain ⟨u, rfl⟩ := v2 rfl; clear v1 v2)))
            go_ret
            exact ⟨ret_bool (by simp), HB.out.trans ((below_later _ _).mono HB.out.size)⟩
          · skip
            cases g4
            · go_enter Try.func81, Try.ntmps81
              go_wp2_with fail
              refine lettered (R := fun wz => Calls _ _ _ wz _) (fun wz => wz.cell? ⟨w.heap.size, 0, none⟩ = some (.float .f64 lx) ∧ wz.cell? ⟨w.heap.size, 1, none⟩ = some (.float .f64 ly) ∧ wz.cell? ⟨w.heap.size, 2, none⟩ = some (.float .f64 hx') ∧ wz.cell? ⟨w.heap.size, 3, none⟩ = some (.float .f64 hy') ∧ wz.cell? ⟨w.heap.size, 4, none⟩ = some (.bool true) ∧ wz.cell? ⟨w.heap.size + 1, 0, none⟩ = some (.float .f64 x) ∧ wz.cell? ⟨w.heap.size + 1, 1, none⟩ = some (.float .f64 y) ∧ w.heap.size + 2 ≤ wz.heap.size ∧ Below w.heap.size w wz) ⟨by go_cell, by go_cell, by go_cell, by go_cell, by go_cell, by go_cell, by go_cell, by simp, by go_grown⟩ ?_
              rintro wz ⟨c00, c01, c02, c03, c04, c10, c11, hsz, hb⟩
              have HB := hid hb
              clear hb
              have IE := hid (envIsEmpty lx ly hx' hy')
              go_wp2_with (first | (go_at_call 109; (with_reducible refine (IE.out _ _).mono ?_); rintro e w' ⟨rfl, hbl⟩; obtain ⟨nx, rfl⟩ := later1 (lat (wz := wz) (by repeat (first | (with_reducible exact below_later _ _) | (with_reducible exact Below.refl _ _) | (with_reducible assumption) | (with_reducible refine Below.drew ?_) | (with_reducible refine Below.alloc ?_ (by (first | (with_reducible exact Nat.le_refl _) | (with_reducible exact (below_later _ _).size) | omega | (simp; done) | (simp; omega))) _))) hbl); clear hbl) | (go_at_call 110; (with_reducible refine (V.out _).mono ?_); rintro e w' ⟨v1, v2, hbl⟩; obtain ⟨nx, rfl⟩ := later1 (lat (wz := wz) (by repeat (first | (with_reducible exact below_later _ _) | (with_reducible exact Below.refl _ _) | (with_reducible assumption) | (with_reducible refine Below.drew ?_) | (with_reducible refine Below.alloc ?_ (by (first | (with_reducible exact Nat.le_refl _) | (with_reducible exact (below_later _ _).size) | omega | (simp; done) | (simp; omega))) _))) hbl); clear hbl; first | (obtain rfl := v1 rfl; clear v1 v2) | (obtain ⟨u, rfl⟩ := v2 rfl; clear v1 v2)))
              go_ret
              exact ⟨ret_bool (by simp), HB.out.trans ((below_later _ _).mono HB.out.size)⟩
            · skip
              go_enter Try.func81, Try.ntmps81
              go_wp2_with fail
              refine lettered (R := fun wz => Calls _ _ _ wz _) (fun wz => wz.cell? ⟨w.heap.size, 0, none⟩ = some (.float .f64 lx) ∧ wz.cell? ⟨w.heap.size, 1, none⟩ = some (.float .f64 ly) ∧ wz.cell? ⟨w.heap.size, 2, none⟩ = some (.float .f64 hx') ∧ wz.cell? ⟨w.heap.size, 3, none⟩ = some (.float .f64 hy') ∧ wz.cell? ⟨w.heap.size, 4, none⟩ = some (.bool true) ∧ wz.cell? ⟨w.heap.size + 1, 0, none⟩ = some (.float .f64 x) ∧ wz.cell? ⟨w.heap.size + 1, 1, none⟩ = some (.float .f64 y) ∧ w.heap.size + 2 ≤ wz.heap.size ∧ Below w.heap.size w wz) ⟨by go_cell, by go_cell, by go_cell, by go_cell, by go_cell, by go_cell, by go_cell, by simp, by go_grown⟩ ?_
              rintro wz ⟨c00, c01, c02, c03, c04, c10, c11, hsz, hb⟩
              have HB := hid hb
              clear hb
              have IE := hid (envIsEmpty lx ly hx' hy')
              go_wp2_with (first | (go_at_call 109; (with_reducible refine (IE.out _ _).mono ?_); rintro e w' ⟨rfl, hbl⟩; obtain ⟨nx, rfl⟩ := later1 (lat (wz := wz) (by repeat (first | (with_reducible exact below_later _ _) | (with_reducible exact Below.refl _ _) | (with_reducible assumption) | (with_reducible refine Below.drew ?_) | (with_reducible refine Below.alloc ?_ (by (first | (with_reducible exact Nat.le_refl _) | (with_reducible exact (below_later _ _).size) | omega | (simp; done) | (simp; omega))) _))) hbl); clear hbl) | (go_at_call 110; (with_reducible refine (V.out _).mono ?_); rintro e w' ⟨v1, v2, hbl⟩; obtain ⟨nx, rfl⟩ := later1 (lat (wz := wz) (by repeat (first | (with_reducible exact below_later _ _) | (with_reducible exact Below.refl _ _) | (with_reducible assumption) | (with_reducible refine Below.drew ?_) | (with_reducible refine Below.alloc ?_ (by (first | (with_reducible exact Nat.le_refl _) | (with_reducible exact (below_later _ _).size) | omega | (simp; done) | (simp; omega))) _))) hbl); clear hbl; first | (obtain rfl := v1 rfl; clear v1 v2) | (obtain ⟨u, rfl⟩ := v2 rfl; clear v1 v2)))
              go_ret
              exact ⟨ret_bool (by simp), HB.out.trans ((below_later _ _).mono HB.out.size)⟩
def fin4 (a b c d : Nat) : Bool := finB a && finB b && finB c && finB d
theorem eFinite (a b c d : Nat) (ha : a < 18446744073709551616) (hb : b < 18446744073709551616) (hc : c < 18446744073709551616) (hd : d < 18446744073709551616) (w : World) : Calls Try.prog 79 #[.agg #[.float .f64 a, .float .f64 b, .float .f64 c, .float .f64 d]] w fun e w' => e = .returned (.bool (fin4 a b c d)) ∧ Below w.heap.size w w' := by
  have G1 := hid (fun w => quiet_below (gFinite a ha w))
  have G2 := hid (fun w => quiet_below (gFinite b hb w))
  have G3 := hid (fun w => quiet_below (gFinite c hc w))
  have G4 := hid (fun w => quiet_below (gFinite d hd w))
  clear ha hb hc hd
  unfold fin4
  generalize finB a = f1 at *
  generalize finB b = f2 at *
  generalize finB c = f3 at *
  generalize finB d = f4 at *
  cases f1
  · go_enter Try.func79, Try.ntmps79
    go_wp2_with fail
    refine lettered (R := fun wz => Calls _ _ _ wz _) (fun wz => wz.cell? ⟨w.heap.size, 0, none⟩ = some (.float .f64 a) ∧ wz.cell? ⟨w.heap.size, 1, none⟩ = some (.float .f64 b) ∧ wz.cell? ⟨w.heap.size, 2, none⟩ = some (.float .f64 c) ∧ wz.cell? ⟨w.heap.size, 3, none⟩ = some (.float .f64 d) ∧ w.heap.size + 1 ≤ wz.heap.size ∧ Below w.heap.size w wz) ⟨by go_cell, by go_cell, by go_cell, by go_cell, by simp, by go_grown⟩ ?_
    rintro wz ⟨c00, c01, c02, c03, hsz, hb⟩
    have HB := hid hb
    clear hb
    go_wp2_with (first | (go_at_call 42; (with_reducible refine (G1.out _).mono ?_); rintro e w' ⟨rfl, hbl⟩; obtain ⟨nx, rfl⟩ := later1 (lat (wz := wz) (by repeat (first | (with_reducible exact below_later _ _) | (with_reducible exact Below.refl _ _) | (with_reducible assumption) | (with_reducible refine Below.drew ?_) | (with_reducible refine Below.alloc ?_ (by (first | (with_reducible exact Nat.le_refl _) | (with_reducible exact (below_later _ _).size) | omega | (simp; done) | (simp; omega))) _))) hbl); clear hbl) | (go_at_call 42; (with_reducible refine (G2.out _).mono ?_); rintro e w' ⟨rfl, hbl⟩; obtain ⟨nx, rfl⟩ := later1 (lat (wz := wz) (by repeat (first | (with_reducible exact below_later _ _) | (with_reducible exact Below.refl _ _) | (with_reducible assumption) | (with_reducible refine Below.drew ?_) | (with_reducible refine Below.alloc ?_ (by (first | (with_reducible exact Nat.le_refl _) | (with_reducible exact (below_later _ _).size) | omega | (simp; done) | (simp; omega))) _))) hbl); clear hbl) | (go_at_call 42; (with_reducible refine (G3.out _).mono ?_); rintro e w' ⟨rfl, hbl⟩; obtain ⟨nx, rfl⟩ := later1 (lat (wz := wz) (by repeat (first | (with_reducible exact below_later _ _) | (with_reducible exact Below.refl _ _) | (with_reducible assumption) | (with_reducible refine Below.drew ?_) | (with_reducible refine Below.alloc ?_ (by (first | (with_reducible exact Nat.le_refl _) | (with_reducible exact (below_later _ _).size) | omega | (simp; done) | (simp; omega))) _))) hbl); clear hbl) | (go_at_call 42; (with_reducible refine (G4.out _).mono ?_); rintro e w' ⟨rfl, hbl⟩; obtain ⟨nx, rfl⟩ := later1 (lat (wz := wz) (by repeat (first | (with_reducible exact below_later _ _) | (with_reducible exact Below.refl _ _) | (with_reducible assumption) | (with_reducible refine Below.drew ?_) | (with_reducible refine Below.alloc ?_ (by (first | (with_reducible exact Nat.le_refl _) | (with_reducible exact (below_later _ _).size) | omega | (simp; done) | (simp; omega))) _))) hbl); clear hbl))
    go_ret
    exact ⟨ret_bool (by simp), HB.out.trans ((below_later _ _).mono HB.out.size)⟩
  · skip
    cases f2
    · go_enter Try.func79, Try.ntmps79
      go_wp2_with fail
      refine lettered (R := fun wz => Calls _ _ _ wz _) (fun wz => wz.cell? ⟨w.heap.size, 0, none⟩ = some (.float .f64 a) ∧ wz.cell? ⟨w.heap.size, 1, none⟩ = some (.float .f64 b) ∧ wz.cell? ⟨w.heap.size, 2, none⟩ = some (.float .f64 c) ∧ wz.cell? ⟨w.heap.size, 3, none⟩ = some (.float .f64 d) ∧ w.heap.size + 1 ≤ wz.heap.size ∧ Below w.heap.size w wz) ⟨by go_cell, by go_cell, by go_cell, by go_cell, by simp, by go_grown⟩ ?_
      rintro wz ⟨c00, c01, c02, c03, hsz, hb⟩
      have HB := hid hb
      clear hb
      go_wp2_with (first | (go_at_call 42; (with_reducible refine (G1.out _).mono ?_); rintro e w' ⟨rfl, hbl⟩; obtain ⟨nx, rfl⟩ := later1 (lat (wz := wz) (by repeat (first | (with_reducible exact below_later _ _) | (with_reducible exact Below.refl _ _) | (with_reducible assumption) | (with_reducible refine Below.drew ?_) | (with_reducible refine Below.alloc ?_ (by (first | (with_reducible exact Nat.le_refl _) | (with_reducible exact (below_later _ _).size) | omega | (simp; done) | (simp; omega))) _))) hbl); clear hbl) | (go_at_call 42; (with_reducible refine (G2.out _).mono ?_); rintro e w' ⟨rfl, hbl⟩; obtain ⟨nx, rfl⟩ := later1 (lat (wz := wz) (by repeat (first | (with_reducible exact below_later _ _) | (with_reducible exact Below.refl _ _) | (with_reducible assumption) | (with_reducible refine Below.drew ?_) | (with_reducible refine Below.alloc ?_ (by (first | (with_reducible exact Nat.le_refl _) | (with_reducible exact (below_later _ _).size) | omega | (simp; done) | (simp; omega))) _))) hbl); clear hbl) | (go_at_call 42; (with_reducible refine (G3.out _).mono ?_); rintro e w' ⟨rfl, hbl⟩; obtain ⟨nx, rfl⟩ := later1 (lat (wz := wz) (by repeat (first | (with_reducible exact below_later _ _) | (with_reducible exact Below.refl _ _) | (with_reducible assumption) | (with_reducible refine Below.drew ?_) | (with_reducible refine Below.alloc ?_ (by (first | (with_reducible exact Nat.le_refl _) | (with_reducible exact (below_later _ _).size) | omega | (simp; done) | (simp; omega))) _))) hbl); clear hbl) | (go_at_call 42; (with_reducible refine (G4.out _).mono ?_); rintro e w' ⟨rfl, hbl⟩; obtain ⟨nx, rfl⟩ := later1 (lat (wz := wz) (by repeat (first | (with_reducible exact below_later _ _) | (with_reducible exact Below.refl _ _) | (with_reducible assumption) | (with_reducible refine Below.drew ?_) | (with_reducible refine Below.alloc ?_ (by (first | (with_reducible exact Nat.le_refl _) | (with_reducible exact (below_later _ _).size) | omega | (simp; done) | (simp; omega))) _))) hbl); clear hbl))
      go_ret
      exact ⟨ret_bool (by simp), HB.out.trans ((below_later _ _).mono HB.out.size)⟩
    · skip
      cases f3
      · go_enter Try.func79, Try.ntmps79
        go_wp2_with fail
        refine lettered (R := fun wz => Calls _ _ _ wz _) (fun wz => wz.cell? ⟨w.heap.size, 0, none⟩ = some (.float .f64 a) ∧ wz.cell? ⟨w.heap.size, 1, none⟩ = some (.float .f64 b) ∧ wz.cell? ⟨w.heap.size, 2, none⟩ = some (.float .f64 c) ∧ wz.cell? ⟨w.heap.size, 3, none⟩ = some (.float .f64 d) ∧ w.heap.size + 1 ≤ wz.heap.size ∧ Below w.heap.size w wz) ⟨by go_cell, by go_cell, by go_cell, by go_cell, by simp, by go_grown⟩ ?_
        rintro wz ⟨c00, c01, c02, c03, hsz, hb⟩
        have HB := hid hb
        clear hb
        go_wp2_with (first | (go_at_call 42; (with_reducible refine (G1.out _).mono ?_); rintro e w' ⟨rfl, hbl⟩; obtain ⟨nx, rfl⟩ := later1 (lat (wz := wz) (by repeat (first | (with_reducible exact below_later _ _) | (with_reducible exact Below.refl _ _) | (with_reducible assumption) | (with_reducible refine Below.drew ?_) | (with_reducible refine Below.alloc ?_ (by (first | (with_reducible exact Nat.le_refl _) | (with_reducible exact (below_later _ _).size) | omega | (simp; done) | (simp; omega))) _))) hbl); clear hbl) | (go_at_call 42; (with_reducible refine (G2.out _).mono ?_); rintro e w' ⟨rfl, hbl⟩; obtain ⟨nx, rfl⟩ := later1 (lat (wz := wz) (by repeat (first | (with_reducible exact below_later _ _) | (with_reducible exact Below.refl _ _) | (with_reducible assumption) | (with_reducible refine Below.drew ?_) | (with_reducible refine Below.alloc ?_ (by (first | (with_reducible exact Nat.le_refl _) | (with_reducible exact (below_later _ _).size) | omega | (simp; done) | (simp; omega))) _))) hbl); clear hbl) | (go_at_call 42; (with_reducible refine (G3.out _).mono ?_); rintro e w' ⟨rfl, hbl⟩; obtain ⟨nx, rfl⟩ := later1 (lat (wz := wz) (by repeat (first | (with_reducible exact below_later _ _) | (with_reducible exact Below.refl _ _) | (with_reducible assumption) | (with_reducible refine Below.drew ?_) | (with_reducible refine Below.alloc ?_ (by (first | (with_reducible exact Nat.le_refl _) | (with_reducible exact (below_later _ _).size) | omega | (simp; done) | (simp; omega))) _))) hbl); clear hbl) | (go_at_call 42; (with_reducible refine (G4.out _).mono ?_); rintro e w' ⟨rfl, hbl⟩; obtain ⟨nx, rfl⟩ := later1 (lat (wz := wz) (by repeat (first | (with_reducible exact below_later _ _) | (with_reducible exact Below.refl _ _) | (with_reducible assumption) | (with_reducible refine Below.drew ?_) | (with_reducible refine Below.alloc ?_ (by (first | (with_reducible exact Nat.le_refl _) | (with_reducible exact (below_later _ _).size) | omega | (simp; done) | (simp; omega))) _))) hbl); clear hbl))
        go_ret
        exact ⟨ret_bool (by simp), HB.out.trans ((below_later _ _).mono HB.out.size)⟩
      · skip
        cases f4
        · go_enter Try.func79, Try.ntmps79
          go_wp2_with fail
          refine lettered (R := fun wz => Calls _ _ _ wz _) (fun wz => wz.cell? ⟨w.heap.size, 0, none⟩ = some (.float .f64 a) ∧ wz.cell? ⟨w.heap.size, 1, none⟩ = some (.float .f64 b) ∧ wz.cell? ⟨w.heap.size, 2, none⟩ = some (.float .f64 c) ∧ wz.cell? ⟨w.heap.size, 3, none⟩ = some (.float .f64 d) ∧ w.heap.size + 1 ≤ wz.heap.size ∧ Below w.heap.size w wz) ⟨by go_cell, by go_cell, by go_cell, by go_cell, by simp, by go_grown⟩ ?_
          rintro wz ⟨c00, c01, c02, c03, hsz, hb⟩
          have HB := hid hb
          clear hb
          go_wp2_with (first | (go_at_call 42; (with_reducible refine (G1.out _).mono ?_); rintro e w' ⟨rfl, hbl⟩; obtain ⟨nx, rfl⟩ := later1 (lat (wz := wz) (by repeat (first | (with_reducible exact below_later _ _) | (with_reducible exact Below.refl _ _) | (with_reducible assumption) | (with_reducible refine Below.drew ?_) | (with_reducible refine Below.alloc ?_ (by (first | (with_reducible exact Nat.le_refl _) | (with_reducible exact (below_later _ _).size) | omega | (simp; done) | (simp; omega))) _))) hbl); clear hbl) | (go_at_call 42; (with_reducible refine (G2.out _).mono ?_); rintro e w' ⟨rfl, hbl⟩; obtain ⟨nx, rfl⟩ := later1 (lat (wz := wz) (by repeat (first | (with_reducible exact below_later _ _) | (with_reducible exact Below.refl _ _) | (with_reducible assumption) | (with_reducible refine Below.drew ?_) | (with_reducible refine Below.alloc ?_ (by (first | (with_reducible exact Nat.le_refl _) | (with_reducible exact (below_later _ _).size) | omega | (simp; done) | (simp; omega))) _))) hbl); clear hbl) | (go_at_call 42; (with_reducible refine (G3.out _).mono ?_); rintro e w' ⟨rfl, hbl⟩; obtain ⟨nx, rfl⟩ := later1 (lat (wz := wz) (by repeat (first | (with_reducible exact below_later _ _) | (with_reducible exact Below.refl _ _) | (with_reducible assumption) | (with_reducible refine Below.drew ?_) | (with_reducible refine Below.alloc ?_ (by (first | (with_reducible exact Nat.le_refl _) | (with_reducible exact (below_later _ _).size) | omega | (simp; done) | (simp; omega))) _))) hbl); clear hbl) | (go_at_call 42; (with_reducible refine (G4.out _).mono ?_); rintro e w' ⟨rfl, hbl⟩; obtain ⟨nx, rfl⟩ := later1 (lat (wz := wz) (by repeat (first | (with_reducible exact below_later _ _) | (with_reducible exact Below.refl _ _) | (with_reducible assumption) | (with_reducible refine Below.drew ?_) | (with_reducible refine Below.alloc ?_ (by (first | (with_reducible exact Nat.le_refl _) | (with_reducible exact (below_later _ _).size) | omega | (simp; done) | (simp; omega))) _))) hbl); clear hbl))
          go_ret
          exact ⟨ret_bool (by simp), HB.out.trans ((below_later _ _).mono HB.out.size)⟩
        · skip
          go_enter Try.func79, Try.ntmps79
          go_wp2_with fail
          refine lettered (R := fun wz => Calls _ _ _ wz _) (fun wz => wz.cell? ⟨w.heap.size, 0, none⟩ = some (.float .f64 a) ∧ wz.cell? ⟨w.heap.size, 1, none⟩ = some (.float .f64 b) ∧ wz.cell? ⟨w.heap.size, 2, none⟩ = some (.float .f64 c) ∧ wz.cell? ⟨w.heap.size, 3, none⟩ = some (.float .f64 d) ∧ w.heap.size + 1 ≤ wz.heap.size ∧ Below w.heap.size w wz) ⟨by go_cell, by go_cell, by go_cell, by go_cell, by simp, by go_grown⟩ ?_
          rintro wz ⟨c00, c01, c02, c03, hsz, hb⟩
          have HB := hid hb
          clear hb
          go_wp2_with (first | (go_at_call 42; (with_reducible refine (G1.out _).mono ?_); rintro e w' ⟨rfl, hbl⟩; obtain ⟨nx, rfl⟩ := later1 (lat (wz := wz) (by repeat (first | (with_reducible exact below_later _ _) | (with_reducible exact Below.refl _ _) | (with_reducible assumption) | (with_reducible refine Below.drew ?_) | (with_reducible refine Below.alloc ?_ (by (first | (with_reducible exact Nat.le_refl _) | (with_reducible exact (below_later _ _).size) | omega | (simp; done) | (simp; omega))) _))) hbl); clear hbl) | (go_at_call 42; (with_reducible refine (G2.out _).mono ?_); rintro e w' ⟨rfl, hbl⟩; obtain ⟨nx, rfl⟩ := later1 (lat (wz := wz) (by repeat (first | (with_reducible exact below_later _ _) | (with_reducible exact Below.refl _ _) | (with_reducible assumption) | (with_reducible refine Below.drew ?_) | (with_reducible refine Below.alloc ?_ (by (first | (with_reducible exact Nat.le_refl _) | (with_reducible exact (below_later _ _).size) | omega | (simp; done) | (simp; omega))) _))) hbl); clear hbl) | (go_at_call 42; (with_reducible refine (G3.out _).mono ?_); rintro e w' ⟨rfl, hbl⟩; obtain ⟨nx, rfl⟩ := later1 (lat (wz := wz) (by repeat (first | (with_reducible exact below_later _ _) | (with_reducible exact Below.refl _ _) | (with_reducible assumption) | (with_reducible refine Below.drew ?_) | (with_reducible refine Below.alloc ?_ (by (first | (with_reducible exact Nat.le_refl _) | (with_reducible exact (below_later _ _).size) | omega | (simp; done) | (simp; omega))) _))) hbl); clear hbl) | (go_at_call 42; (with_reducible refine (G4.out _).mono ?_); rintro e w' ⟨rfl, hbl⟩; obtain ⟨nx, rfl⟩ := later1 (lat (wz := wz) (by repeat (first | (with_reducible exact below_later _ _) | (with_reducible exact Below.refl _ _) | (with_reducible assumption) | (with_reducible refine Below.drew ?_) | (with_reducible refine Below.alloc ?_ (by (first | (with_reducible exact Nat.le_refl _) | (with_reducible exact (below_later _ _).size) | omega | (simp; done) | (simp; omega))) _))) hbl); clear hbl))
          go_ret
          exact ⟨ret_bool (by simp), HB.out.trans ((below_later _ _).mono HB.out.size)⟩
theorem eFits1 (p cp : Nat) (full : Bool) (a b c d : Nat) (ha : a < 18446744073709551616) (hb : b < 18446744073709551616) (hc : c < 18446744073709551616) (hd : d < 18446744073709551616) (w : World) (hr : RowAt w p 0 [.bool full, .float .f64 a, .float .f64 b, .float .f64 c, .float .f64 d]) :
    Calls Try.prog 40 #[.slice (some ⟨p, 0, none⟩) 1 cp] w fun e w' => e = .returned (.bool (!full || fin4 a b c d)) ∧ Below w.heap.size w w' := by
  obtain ⟨c0, c1, c2, c3, c4, -⟩ := row5.1 hr
  have E := hid (eFinite a b c d ha hb hc hd)
  clear ha hb hc hd hr
  generalize fin4 a b c d = f at *
  cases full <;> cases f
  all_goals
    go_enter Try.func40, Try.ntmps40
    go_wp2_with fail
    refine wp_loop_rounds 2 ?_
    rw [rounds_succ]
    go_wp2_with (go_at_call 79; refine (E.out _).mono ?_; rintro e w1 ⟨rfl, hbl⟩)
  · rw [rounds_succ]
    go_wp2_with fail
    go_ret
    exact ⟨rfl, by go_grown⟩
  · rw [rounds_succ]
    go_wp2_with fail
    go_ret
    exact ⟨rfl, by go_grown⟩
  · go_ret
    exact ⟨rfl, ((Below.refl _ _).alloc (Nat.le_refl _) _).trans (hbl.mono (by simp))⟩
  · rw [rounds_succ]
    go_wp2_with fail
    go_ret
    exact ⟨rfl, ((Below.refl _ _).alloc (Nat.le_refl _) _).trans (hbl.mono (by simp))⟩
theorem eHas (full : Bool) (a b c d x y : Nat) (w : World) : Calls Try.prog 43 #[.agg #[.bool full, .float .f64 a, .float .f64 b, .float .f64 c, .float .f64 d], .agg #[.float .f64 x, .float .f64 y]] w fun e w' => e = .returned (.bool (full && leV a x && leV x c && leV b y && leV y d)) ∧ Below w.heap.size w w' := by
  generalize h1 : leV a x = g1 at *
  generalize h2 : leV x c = g2 at *
  generalize h3 : leV b y = g3 at *
  generalize h4 : leV y d = g4 at *
  unfold leV at h1 h2 h3 h4
  cases full
  · go_enter Try.func43, Try.ntmps43
    go_wp2
    go_ret
    exact ⟨ret_bool (by simp), by go_grown⟩
  · skip
    cases g1
    · go_enter Try.func43, Try.ntmps43
      go_wp2
      go_ret
      exact ⟨ret_bool (by simp), by go_grown⟩
    · skip
      cases g2
      · go_enter Try.func43, Try.ntmps43
        go_wp2
        go_ret
        exact ⟨ret_bool (by simp), by go_grown⟩
      · skip
        cases g3
        · go_enter Try.func43, Try.ntmps43
          go_wp2
          go_ret
          exact ⟨ret_bool (by simp), by go_grown⟩
        · skip
          cases g4
          · go_enter Try.func43, Try.ntmps43
            go_wp2
            go_ret
            exact ⟨ret_bool (by simp), by go_grown⟩
          · skip
            go_enter Try.func43, Try.ntmps43
            go_wp2
            go_ret
            exact ⟨ret_bool (by simp), by go_grown⟩
end Go.Proofs.Ytbcjlgkdmkehlaa
