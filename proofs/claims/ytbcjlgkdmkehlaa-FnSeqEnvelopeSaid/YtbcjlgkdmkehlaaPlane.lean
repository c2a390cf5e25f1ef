/- Places of the plane: what the small functions on places and lines of places return. -/
import Derived.Test.YtbcjlgkdmkehlaaRows
import Derived.Test.YtbcjlgkdmkehlaaBase
namespace Go.Proofs.Ytbcjlgkdmkehlaa
open Go.ChangeShapes Go.WideShapes Go.ChangeAt Go.RowKit Fl

/-- the words of a place -/
abbrev fxy (x y : Nat) : Value := .agg #[.float .f64 x, .float .f64 y]
abbrev ixy (x y : Int) : Value := .agg #[.int .i64 x, .int .i64 y]
theorem xyOf (x y : Int) (w : World) : Calls Try.prog 18 #[.agg #[.int .i64 x, .int .i64 y]] w fun e w' => e = .returned (.agg #[.float .f64 (floatOfInt .f64 x), .float .f64 (floatOfInt .f64 y)]) ∧ Below w.heap.size w w' := by
  go_enter Try.func18, Try.ntmps18
  go_wp2
  go_returns
  exact ⟨rfl, by go_grown⟩
theorem implXY (x y : Nat) (w : World) : Calls Try.prog 59 #[.agg #[.float .f64 x, .float .f64 y]] w fun e w' => e = .returned (.agg #[.float .f64 x, .float .f64 y]) ∧ Below w.heap.size w w' := by
  go_enter Try.func59, Try.ntmps59
  go_wp2
  go_returns
  exact ⟨rfl, by go_grown⟩
theorem turn (ax ay bx by' cx cy : Int) (K : Int) (hK : K ≤ 1000000000) (h1 : -K ≤ ax ∧ ax ≤ K) (h2 : -K ≤ ay ∧ ay ≤ K) (h3 : -K ≤ bx ∧ bx ≤ K) (h4 : -K ≤ by' ∧ by' ≤ K) (h5 : -K ≤ cx ∧ cx ≤ K) (h6 : -K ≤ cy ∧ cy ≤ K) (w : World) :
    Calls Try.prog 19 #[.agg #[.int .i64 ax, .int .i64 ay], .agg #[.int .i64 bx, .int .i64 by'], .agg #[.int .i64 cx, .int .i64 cy]] w fun e w' => e = .returned (.int .i64 ((bx - ax) * (cy - ay) - (by' - ay) * (cx - ax))) ∧ Below w.heap.size w w' := by
  obtain ⟨a1, a2⟩ := h1
  obtain ⟨b1, b2⟩ := h2
  obtain ⟨c1, c2⟩ := h3
  obtain ⟨d1, d2⟩ := h4
  obtain ⟨e1, e2⟩ := h5
  obtain ⟨f1, f2⟩ := h6
  have m1 := mul_bound (bx - ax) (cy - ay) 2000000000 2000000000 (by omega) (by omega) (by omega) (by omega)
  have m2 := mul_bound (by' - ay) (cx - ax) 2000000000 2000000000 (by omega) (by omega) (by omega) (by omega)
  obtain ⟨m1, m1'⟩ := m1
  obtain ⟨m2, m2'⟩ := m2
  go_enter Try.func19, Try.ntmps19
  go_wp2
  go_ret
  exact ⟨rfl, by go_grown⟩
theorem tri {ax ay bx by' cx cy : Nat} {AX AY BX BY CX CY : Int} (iax : IsI ax AX) (iay : IsI ay AY) (ibx : IsI bx BX) (iby : IsI by' BY) (icx : IsI cx CX) (icy : IsI cy CY)
    (h1 : -1048576 ≤ AX ∧ AX ≤ 1048576) (h2 : -1048576 ≤ AY ∧ AY ≤ 1048576) (h3 : -1048576 ≤ BX ∧ BX ≤ 1048576) (h4 : -1048576 ≤ BY ∧ BY ≤ 1048576) (h5 : -1048576 ≤ CX ∧ CX ≤ 1048576) (h6 : -1048576 ≤ CY ∧ CY ≤ 1048576) :
    ∃ r, IsI r ((BX - AX) * (CY - AY) - (BY - AY) * (CX - AX)) ∧ ∀ w, Calls Try.prog 96 #[.agg #[.float .f64 ax, .float .f64 ay], .agg #[.float .f64 bx, .float .f64 by'], .agg #[.float .f64 cx, .float .f64 cy]] w fun e w' => e = .returned (.float .f64 r) ∧ Below w.heap.size w w' := by
  obtain ⟨s1, q1, i1⟩ := subI ibx iax (by omega) (by omega)
  obtain ⟨s2, q2, i2⟩ := subI icy iay (by omega) (by omega)
  obtain ⟨s3, q3, i3⟩ := subI icx iax (by omega) (by omega)
  obtain ⟨s4, q4, i4⟩ := subI iby iay (by omega) (by omega)
  have m1 := mul_bound (BX - AX) (CY - AY) 2097152 2097152 (by omega) (by omega) (by omega) (by omega)
  have m2 := mul_bound (CX - AX) (BY - AY) 2097152 2097152 (by omega) (by omega) (by omega) (by omega)
  obtain ⟨p1, r1, j1⟩ := mulI i1 i2 (by omega) (by omega)
  obtain ⟨p2, r2, j2⟩ := mulI i3 i4 (by omega) (by omega)
  obtain ⟨d, rd, jd⟩ := subI j1 j2 (by omega) (by omega)
  refine ⟨d, ?_, fun w => ?_⟩
  · rw [Int.mul_comm (BY - AY)]; exact jd
  · have k1 := fSub (P := Try.prog) 29 q1
    have k2 := fSub (P := Try.prog) 29 q2
    have k3 := fSub (P := Try.prog) 29 q3
    have k4 := fSub (P := Try.prog) 29 q4
    have k5 := fMul (P := Try.prog) 29 r1
    have k6 := fMul (P := Try.prog) 29 r2
    have k7 := fSub (P := Try.prog) 29 rd
    clear iax iay ibx iby icx icy q1 q2 q3 q4 i1 i2 i3 i4 m1 m2 r1 r2 rd j1 j2 jd
    go_enter Try.func96, Try.ntmps96
    go_wp2
    go_ret
    exact ⟨rfl, by go_grown⟩
/-- n places of two whole numbers lie behind an address -/
def PtsAt (w : World) (b off n : Nat) (px py : Nat → Int) : Prop :=
  ∀ i, i < n → w.cell? ⟨b, off + i * 2, none⟩ = some (.int .i64 (px i)) ∧ w.cell? ⟨b, off + i * 2 + 1, none⟩ = some (.int .i64 (py i))
def inBox (most : Int) (n : Nat) (px py : Nat → Int) : Prop := ∀ i, i < n → -most ≤ px i ∧ px i ≤ most ∧ -most ≤ py i ∧ py i ≤ most
instance (most : Int) (n : Nat) (px py : Nat → Int) : Decidable (inBox most n px py) := Nat.decidableBallLT n _
set_option maxHeartbeats 400000 in
theorem formedLine (b off n c : Nat) (px py : Nat → Int) (most : Int) (h0 : 0 ≤ most) (h1 : most ≤ 1000000000) (hn : n ≤ 9223372036854775807) (w : World) (hp : PtsAt w b off n px py) (hb : b < w.heap.size) :
    Calls Try.prog 95 #[.agg #[.int .i64 2, .slice (some ⟨b, off, none⟩) n c, .slice none 0 0], .int .i64 most, .int .i64 100] w fun e w' => e = .returned (.bool (decide (inBox most n px py))) ∧ Below w.heap.size w w' := by
  have hn' := hn
  unfold PtsAt at hp
  go_enter Try.func95, Try.ntmps95
  go_wp2_with fail
  go_loopw [17] (fun i wr => ∃ k : Nat, k ≤ n ∧ i = .int .i64 k ∧ inBox most k px py ∧ Below (w.heap.size + 1) (w.alloc (Obj.cells #[Value.int IntKind.i64 2, Value.slice (some { block := b, off := off }) n c, Value.slice none 0 0] 83)) wr) (fun i _ => n - (intOf i).toNat)
  case atStart => exact ⟨0, Nat.zero_le _, rfl, fun i hi => absurd hi (Nat.not_lt_zero i), Below.refl _ _⟩
  case round =>
    obtain ⟨k, hk, rfl, hin, hbl⟩ := hrel
    have hsz := hbl.size
    simp at hsz
    have hbox : ∀ o, wr.cell? ⟨w.heap.size, o, none⟩ = _ := fun o => hbl.cell (p := ⟨w.heap.size, o, none⟩) (by simp)
    by_cases hlt : k < n
    · have hx : wr.cell? ⟨b, off + k * 2, none⟩ = some (.int .i64 (px k)) := by
        rw [hbl.cell (p := ⟨b, off + k * 2, none⟩) (by simp; omega), World.cell?_alloc_lt _ _ _ (by simpa using hb)]; exact (hp k hlt).1
      have hy : wr.cell? ⟨b, off + k * 2 + 1, none⟩ = some (.int .i64 (py k)) := by
        rw [hbl.cell (p := ⟨b, off + k * 2 + 1, none⟩) (by simp; omega), World.cell?_alloc_lt _ _ _ (by simpa using hb)]; exact (hp k hlt).2
      have H : Hid (∀ i, i < n → _) := hid hp
      clear hp
      have B : Hid (Below _ _ _) := hid hbl
      clear hbl
      have I : Hid (inBox _ _ _ _) := hid hin
      clear hin
      have hneg : (-most : Int) ≤ 0 := by omega
      by_cases hg : -most ≤ px k ∧ px k ≤ most ∧ -most ≤ py k ∧ py k ≤ most
      · have G := hid hg
        obtain ⟨g1, g2, g3, g4⟩ := hg
        by_cases hxy : py k < px k
        all_goals
          go_wp2_with fail
          go_roundw
          case rel =>
            exact ⟨k + 1, by omega, by go_num, fun i hi => by
              by_cases e : i = k
              · rw [e]; exact G.out
              · exact I.out i (by omega), B.out.alloc (by omega) _⟩
          case measure => simp [intOf]; omega
      · have e : decide (inBox most n px py) = false := by
          simp only [decide_eq_false_iff_not]; intro h; exact hg (h k hlt)
        have R := hid e
        clear e
        have G := hid hg
        clear hg
        by_cases hxy : py k < px k
        all_goals
          go_wp2_with fail
          all_goals
            first
            | (go_ret
               rw [R.out]
               exact ⟨rfl, ((((Below.refl _ _).alloc (Nat.le_refl _) _).trans (B.out.mono (by omega))).alloc (by omega) _)⟩)
            | (exfalso; have := G.out; omega)
    · have e : k = n := by omega
      have R : Hid (inBox most n px py) := by rw [← e]; exact hin
      clear e hin
      have B := hid hbl
      clear hbl
      go_wp2_with fail
      go_ret
      rw [decide_eq_true R.out]
      exact ⟨rfl, ((Below.refl _ _).alloc (Nat.le_refl _) _).trans (B.out.mono (by omega))⟩
/-- a line's shape: formed of its places alone -/
theorem formedL (b off n c : Nat) (px py : Nat → Int) (most : Int) (h0 : 0 ≤ most) (h1 : most ≤ 1000000000) (hn : n ≤ 9223372036854775807) (w : World) (hp : PtsAt w b off n px py) (hb : b < w.heap.size) :
    Calls Try.prog 57 #[.agg #[.int .i64 2, .slice (some ⟨b, off, none⟩) n c, .slice none 0 0], .int .i64 most] w fun e w' => e = .returned (.bool (decide (inBox most n px py))) ∧ Below w.heap.size w w' := by
  have hp' : ∀ o, PtsAt (w.alloc o) b off n px py := fun o i hi => by
    rw [World.cell?_alloc_lt _ _ _ (by simpa using hb), World.cell?_alloc_lt _ _ _ (by simpa using hb)]; exact hp i hi
  have H := hid hp'
  clear hp'
  go_enter Try.func57, Try.ntmps57
  go_wp2_with (go_at_call 95; refine (formedLine b off n c px py most h0 h1 hn _ (H.out _) (by simp; omega)).mono ?_; rintro e w' ⟨rfl, hbl⟩)
  go_ret
  exact ⟨rfl, ((Below.refl _ _).alloc (Nat.le_refl _) _).trans (hbl.mono (by simp))⟩
def walkB (least : Int) (n : Nat) (most : Int) (px py : Nat → Int) : Bool := decide (least ≤ n ∧ n ≤ 100 ∧ inBox most n px py)
/-- walk: so many places, whole and small -/
theorem walkC (b off n c : Nat) (px py : Nat → Int) (least most : Int) (h0 : 0 ≤ most) (h1 : most ≤ 1000000000) (hn : n ≤ 9223372036854775807) (w : World) (hp : PtsAt w b off n px py) (hb : b < w.heap.size) :
    Calls Try.prog 16 #[.slice (some ⟨b, off, none⟩) n c, .int .i64 least, .int .i64 most] w fun e w' => e = .returned (.bool (walkB least n most px py)) ∧ Below w.heap.size w w' := by
  have H := hid hp
  clear hp
  by_cases c1 : least ≤ n
  · by_cases c2 : n ≤ 100
    · have c2' : (n : Int) ≤ 100 := by omega
      have e : walkB least n most px py = decide (inBox most n px py) := by simp [walkB, c1, c2]
      have E := hid e
      clear e
      go_enter Try.func16, Try.ntmps16
      go_wp2_with (go_at_call 57; refine (formedL b off n c px py most h0 h1 hn _ H.out hb).mono ?_; rintro e w' ⟨rfl, hbl⟩)
      go_ret
      exact ⟨ret_bool E.out.symm, hbl⟩
    · have c2' : ¬ (n : Int) ≤ 100 := by omega
      have e : walkB least n most px py = false := by simp [walkB, c2]
      have E := hid e
      clear e
      go_enter Try.func16, Try.ntmps16
      go_wp2_with fail
      go_ret
      exact ⟨ret_bool E.out.symm, Below.refl _ _⟩
  · have e : walkB least n most px py = false := by simp [walkB, c1]
    have E := hid e
    clear e
    go_enter Try.func16, Try.ntmps16
    go_wp2_with fail
    go_ret
    exact ⟨ret_bool E.out.symm, Below.refl _ _⟩
end Go.Proofs.Ytbcjlgkdmkehlaa
