/- The sequences' order: at the first place at which they differ. -/
import Derived.Test.YtbcjlgkdmkehlaaRows
import Derived.Test.YtbcjlgkdmkehlaaSgx
namespace Go.Proofs.Ytbcjlgkdmkehlaa
open Go.ChangeShapes Go.WideShapes Go.ChangeAt Go.RowKit
set_option maxRecDepth 100000
set_option linter.unusedSimpArgs false
def ltV (x y : Nat) : Bool := FloatKind.f64.format.order x y == some .lt
def ltXY (x y ox oy : Nat) : Bool := if sameV x ox then ltV y oy else ltV x ox
theorem xyLess (x y ox oy : Nat) (w : World) : Calls Try.prog 130 #[.agg #[.float .f64 x, .float .f64 y], .agg #[.float .f64 ox, .float .f64 oy]] w fun e w' => e = .returned (.bool (ltXY x y ox oy)) ∧ Below w.heap.size w w' := by
  unfold ltXY
  generalize hs : sameV x ox = s
  generalize hl : ltV y oy = l
  generalize hm : ltV x ox = m
  unfold sameV at hs
  unfold ltV at hl hm
  cases s
  · have hn : (FloatKind.f64.format.order x ox != some .eq) = true := by unfold bne; rw [hs]; rfl
    go_enter Try.func130, Try.ntmps130
    go_wp2_with fail
    go_ret
    exact ⟨rfl, by go_grown⟩
  · have hn : (FloatKind.f64.format.order x ox != some .eq) = false := by unfold bne; rw [hs]; rfl
    go_enter Try.func130, Try.ntmps130
    go_wp2_with fail
    go_ret
    exact ⟨rfl, by go_grown⟩
/-- what the order of two sequences tells -/
def LessR (q1 q2 : Nat) (X1 Y1 X2 Y2 : Nat → Nat) (r : Bool) : Prop := ∃ i, i ≤ q1 ∧ i ≤ q2 ∧ (∀ j, j < i → (sameV (X1 j) (X2 j) && sameV (Y1 j) (Y2 j)) = true) ∧ ((i = q1 ∧ r = false) ∨ (i < q1 ∧ i = q2 ∧ r = true) ∨ (i < q1 ∧ i < q2 ∧ (sameV (X1 i) (X2 i) && sameV (Y1 i) (Y2 i)) = false ∧ r = ltXY (X1 i) (Y1 i) (X2 i) (Y2 i)))
set_option maxHeartbeats 2000000 in
theorem less107 (d1 d2 : Int) (a1 a2 : Option Addr) (n1 c1 n2 c2 q1 q2 : Nat) (X1 Y1 X2 Y2 : Nat → Nat) (hq1 : q1 < 2000) (w : World)
    (L1 : ∀ w, Calls Try.prog 106 #[.agg #[.int .u8 d1, .slice a1 n1 c1]] w fun e w' => e = .returned (.int .i64 (q1 : Int)) ∧ Below w.heap.size w w')
    (L2 : ∀ w, Calls Try.prog 106 #[.agg #[.int .u8 d2, .slice a2 n2 c2]] w fun e w' => e = .returned (.int .i64 (q2 : Int)) ∧ Below w.heap.size w w')
    (G1 : ∀ (i : Nat) w', i < q1 → Below w.heap.size w w' → Calls Try.prog 69 #[.agg #[.int .u8 d1, .slice a1 n1 c1], .int .i64 (i : Int)] w' fun e w'' => e = .returned (.agg #[.float .f64 (X1 i), .float .f64 (Y1 i)]) ∧ Below w'.heap.size w' w'')
    (G2 : ∀ (i : Nat) w', i < q2 → Below w.heap.size w w' → Calls Try.prog 69 #[.agg #[.int .u8 d2, .slice a2 n2 c2], .int .i64 (i : Int)] w' fun e w'' => e = .returned (.agg #[.float .f64 (X2 i), .float .f64 (Y2 i)]) ∧ Below w'.heap.size w' w'') :
    Calls Try.prog 107 #[.agg #[.int .u8 d1, .slice a1 n1 c1], .agg #[.int .u8 d2, .slice a2 n2 c2]] w (Says (LessR q1 q2 X1 Y1 X2 Y2) w) := by
  have XL := hid xyLess
  replace L1 := hid L1
  replace L2 := hid L2
  replace G1 := hid G1
  replace G2 := hid G2
  go_enter Try.func107, Try.ntmps107
  go_wp2_with fail
  refine lettered (R := fun wz => Calls _ _ _ wz _) (fun wz => wz.cell? ⟨w.heap.size, 0, none⟩ = some (.int .u8 d1) ∧ wz.cell? ⟨w.heap.size, 1, none⟩ = some (.slice a1 n1 c1) ∧ wz.cell? ⟨w.heap.size + 1, 0, none⟩ = some (.int .u8 d2) ∧ wz.cell? ⟨w.heap.size + 1, 1, none⟩ = some (.slice a2 n2 c2) ∧ w.heap.size + 2 ≤ wz.heap.size ∧ Below w.heap.size w wz) ⟨by go_cell, by go_cell, by go_cell, by go_cell, by simp, by go_grown⟩ ?_
  rintro wz ⟨c00, c01, c10, c11, hsz, hb⟩
  have HB := hid hb
  clear hb
  go_wp2_with (first | (go_at_call 106; (with_reducible refine (L2.out _).mono ?_); rintro e w' ⟨rfl, hbl⟩; obtain ⟨nx, rfl⟩ := later1 (lat (wz := wz) (by repeat (first | (with_reducible exact below_later _ _) | (with_reducible exact Below.refl _ _) | (with_reducible assumption) | (with_reducible refine Below.drew ?_) | (with_reducible refine Below.alloc ?_ (by (first | (with_reducible exact Nat.le_refl _) | (with_reducible exact (below_later _ _).size) | omega | (simp; done) | (simp; omega))) _))) hbl); clear hbl))
  go_loopw [6] (fun iv wr => ∃ i : Nat, i ≤ q1 ∧ i ≤ q2 ∧ iv = .int .i64 i ∧ Hid (∀ j, j < i → (sameV (X1 j) (X2 j) && sameV (Y1 j) (Y2 j)) = true) ∧ w.heap.size + 2 ≤ wr.heap.size ∧ Below w.heap.size w wr ∧ RowAt wr w.heap.size 0 [.int .u8 d1, .slice a1 n1 c1] ∧ RowAt wr (w.heap.size + 1) 0 [.int .u8 d2, .slice a2 n2 c2])
    (fun iv _ => q1 - (intOf iv).toNat)
  case atStart => exact ⟨0, Nat.zero_le _, Nat.zero_le _, rfl, hid (fun j h => absurd h (by omega)), by have := (below_later wz nx).size; omega, HB.out.trans ((below_later _ _).mono HB.out.size), row2.2 ⟨by go_cell, by go_cell, trivial⟩, row2.2 ⟨by go_cell, by go_cell, trivial⟩⟩
  case round =>
    obtain ⟨i, hi1, hi2, rfl, hok, hsz2, hbl, hr1, hr2⟩ := hrel
    obtain ⟨e00, e01, -⟩ := row2.1 hr1
    obtain ⟨e10, e11, -⟩ := row2.1 hr2
    clear hr1 hr2 c00 c01 c10 c11 HB hsz
    have HB := hid hbl
    clear hbl
    by_cases hlt : i < q1
    · by_cases hlt2 : i < q2
      · have G1i := hid (fun w' hb => G1.out i w' hlt hb)
        have G2i := hid (fun w' hb => G2.out i w' hlt2 hb)
        have HF : Hid (∀ r, r = ltXY (X1 i) (Y1 i) (X2 i) (Y2 i) → (sameV (X1 i) (X2 i) && sameV (Y1 i) (Y2 i)) = false → LessR q1 q2 X1 Y1 X2 Y2 r) := hid (fun r hr hs => ⟨i, hi1, hi2, hok.out, .inr (.inr ⟨hlt, hlt2, hs, hr⟩)⟩)
        have HN : Hid ((sameV (X1 i) (X2 i) && sameV (Y1 i) (Y2 i)) = true → ∀ j, j < i + 1 → (sameV (X1 j) (X2 j) && sameV (Y1 j) (Y2 j)) = true) := hid (fun hs j hj => by
          rcases Nat.lt_succ_iff_lt_or_eq.1 hj with h | h
          · exact hok.out j h
          · rw [h]; exact hs)
        generalize X1 i = x at *
        generalize Y1 i = y at *
        generalize X2 i = ox at *
        generalize Y2 i = oy at *
        go_wp2_with (first | (go_at_call 106; (with_reducible refine (L1.out _).mono ?_); rintro e w' ⟨rfl, hbl⟩; obtain ⟨nx, rfl⟩ := later1 (lat (wz := wr) (by repeat (first | (with_reducible exact below_later _ _) | (with_reducible exact Below.refl _ _) | (with_reducible assumption) | (with_reducible refine Below.drew ?_) | (with_reducible refine Below.alloc ?_ (by (first | (with_reducible exact Nat.le_refl _) | (with_reducible exact (below_later _ _).size) | omega | (simp; done) | (simp; omega))) _))) hbl); clear hbl))
        have hs0 : w.heap.size < wr.heap.size := by omega
        have hs1 : w.heap.size + 1 < wr.heap.size := by omega
        refine wp_region_tree (S := (fun w' => ∃ e, w' = laterB (wr.heap.size) wr e)) (.lt 0 (.lt 1 (.lt 3 (.lt 4 (.soft [(2, 2), (5, 5), (6, 6), (7, 7)] (.hv 8 (.hv 9 .nil))))))) (by kernel_rfl) (by kernel_rfl) (fun _ _ d _ _ h => by cases d <;> exact h) ⟨_, (laterB_of (by repeat (first | (with_reducible assumption) | (with_reducible exact (below_later _ _).mono (by omega)) | (with_reducible exact Below.refl _ _) | (with_reducible refine Below.drew ?_) | (with_reducible refine Below.setCell ?_ (by first | omega | (simp; done) | (simp; omega)) _) | (with_reducible refine Below.alloc ?_ (by first | omega | (simp; omega) | (have := (below_later wr nx).size; simp; omega)) _)))).symm⟩ ?_
        simp only [pickT, List.filterMap_cons, List.filterMap_nil, List.getElem?_cons_succ, List.getElem?_cons_zero, Option.map_some]
        repeat' (first
          | (with_reducible refine wpTr_hv2 ?_ ?_)
          | ((with_reducible refine wpTr_lt (fun K hK => ?_)); go_simp; (first | (with_reducible refine hK _ ?_) | (rw [if_neg (by intro h; cases h)]; with_reducible refine hK _ ?_)); clear hK K)
          | ((with_reducible refine wpTr_hv (fun K L hK hL => ?_)); go_simp; (first | (with_reducible refine hL _ ?_) | (rw [if_neg (by intro h; cases h)]; with_reducible refine hL _ ?_)); clear hK hL K L)
          | ((with_reducible refine wpTr_hv (fun K L hK hL => ?_)); go_simp; (with_reducible refine hK _ _ ?_ ?_); (focus (exact ⟨_, (laterB_of (by repeat (first | (with_reducible assumption) | (with_reducible exact (below_later _ _).mono (by omega)) | (with_reducible exact Below.refl _ _) | (with_reducible refine Below.drew ?_) | (with_reducible refine Below.setCell ?_ (by first | omega | (simp; done) | (simp; omega)) _) | (with_reducible refine Below.alloc ?_ (by first | omega | (simp; omega) | (have := (below_later wr nx).size; simp; omega)) _)))).symm⟩)); clear hK hL K L))
        refine wpTr_soft [2, 5, 6, 7] (fun k v w' => if k = 6 ∨ k = 7 then NewAt wr.heap.size (fun b => .pointer (some ⟨b, 0, none⟩)) [.float .f64 0, .float .f64 0] v w' else if k = 2 then v = .agg #[.float .f64 x, .float .f64 y] else v = .agg #[.float .f64 ox, .float .f64 oy]) [6, 7] rfl ?_ ?_ ?_ ?_ ?_
        · rfl
        · intro p hp
          simp only [List.mem_cons, List.not_mem_nil, or_false] at hp
          rcases hp with rfl | rfl | rfl | rfl <;> rfl
        · intro k v a b hb h
          split at h
          · rename_i hk; rw [if_pos hk]; exact h.below hb
          · rename_i hk; rw [if_neg hk]; exact h
        · intro p hp u w' hbu hSu hd K hK
          have hb1 : Below wr.heap.size wr w' := (below_later _ _).drew.trans (hbu.mono (below_later _ _).size)
          have hb0 : Below w.heap.size w w' := HB.out.trans (hb1.mono HB.out.size)
          have hsz3 : wr.heap.size ≤ w'.heap.size := hb1.size
          have HS : ∀ w'', Below w'.heap.size w' w'' → ∃ e, w'' = laterB wr.heap.size wr e := fun w'' h => ⟨w'', (laterB_of (hb1.trans (h.mono hsz3))).symm⟩
          clear hbu hSu hd hb1
          simp only [List.mem_cons, List.not_mem_nil, or_false] at hp
          rcases hp with rfl | rfl | rfl | rfl
          · simp [tmOf, Act.put, upd]
            go_simp
            go_at_call 69
            refine (G1i.out w' hb0).mono ?_
            rintro e w'' ⟨rfl, hbl⟩
            have h := hK _ w'' rfl (fun h => absurd h (by decide)) hbl (HS _ hbl)
            simp [tmOf, Act.put, upd] at h
            exact h
          · simp [tmOf, Act.put, upd]
            go_simp
            go_at_call 69
            refine (G2i.out w' hb0).mono ?_
            rintro e w'' ⟨rfl, hbl⟩
            have h := hK _ w'' rfl (fun h => absurd h (by decide)) hbl (HS _ hbl)
            simp [tmOf, Act.put, upd] at h
            exact h
          · have hal := Below.alloc (Below.refl w'.heap.size w') (Nat.le_refl _) (.cells #[.float .f64 0, .float .f64 0] 85)
            have h := hK _ _ (newAt_alloc (B := wr.heap.size) (fun b => .pointer (some ⟨b, 0, none⟩)) [.float .f64 0, .float .f64 0] 85 w' hsz3) (fun _ p' _ ha hF => by rw [if_pos (by simpa using ha)] at hF; exact hF.apart ptr_block (Nat.le_refl _)) hal (HS _ hal)
            simp [tmOf, Act.put, upd] at h ⊢
            go_simp
            exact h
          · have hal := Below.alloc (Below.refl w'.heap.size w') (Nat.le_refl _) (.cells #[.float .f64 0, .float .f64 0] 85)
            have h := hK _ _ (newAt_alloc (B := wr.heap.size) (fun b => .pointer (some ⟨b, 0, none⟩)) [.float .f64 0, .float .f64 0] 85 w' hsz3) (fun _ p' _ ha hF => by rw [if_pos (by simpa using ha)] at hF; exact hF.apart ptr_block (Nat.le_refl _)) hal (HS _ hal)
            simp [tmOf, Act.put, upd] at h ⊢
            go_simp
            exact h
        · intro u w' hbu hSu hF hD
          conv => arg 6; simp [tmOf, Act.put]
          have hb1 : Below wr.heap.size wr w' := (below_later _ _).drew.trans (hbu.mono (below_later _ _).size)
          have f2 : u 2 = .agg #[.float .f64 x, .float .f64 y] := hF 2 (by decide)
          have f5 : u 5 = .agg #[.float .f64 ox, .float .f64 oy] := hF 5 (by decide)
          obtain ⟨b7, e7, g7, l7, r7, z7⟩ : NewAt wr.heap.size (fun b => .pointer (some ⟨b, 0, none⟩)) [.float .f64 0, .float .f64 0] (u 6) w' := hF 6 (by decide)
          obtain ⟨b8, e8, g8, l8, r8, z8⟩ : NewAt wr.heap.size (fun b => .pointer (some ⟨b, 0, none⟩)) [.float .f64 0, .float .f64 0] (u 7) w' := hF 7 (by decide)
          have d67 : ¬ blockOf (u 6) = blockOf (u 7) := hD 6 (by decide) 7 (by decide) (by decide) (by decide) (by decide)
          have d78 : ¬ b7 = b8 := fun h => d67 (by rw [e7, e8, h])
          obtain ⟨p70, p71, -⟩ := row2.1 r7
          obtain ⟨p80, p81, -⟩ := row2.1 r8
          obtain ⟨q70, q71⟩ := free2 z7
          obtain ⟨q80, q81⟩ := free2 z8
          have k00 := (hb1.cell (p := ⟨w.heap.size, 0, none⟩) hs0).trans e00
          have k01 := (hb1.cell (p := ⟨w.heap.size, 1, none⟩) hs0).trans e01
          have k10 := (hb1.cell (p := ⟨w.heap.size + 1, 0, none⟩) hs1).trans e10
          have k11 := (hb1.cell (p := ⟨w.heap.size + 1, 1, none⟩) hs1).trans e11
          have m0 : ¬ b7 = w.heap.size := by omega
          have m1 : ¬ b7 = w.heap.size + 1 := by omega
          have m2 : ¬ b8 = w.heap.size := by omega
          have m3 : ¬ b8 = w.heap.size + 1 := by omega
          have hsz3 : wr.heap.size ≤ w'.heap.size := hb1.size
          rw [f2, f5, e7, e8]
          clear hF hD d67 f2 f5 e7 e8 r7 r8 z7 z8 hbu hSu
          repeat' (first
            | (with_reducible refine wpTr_hv2 ?_ ?_)
            | ((with_reducible refine wpTr_lt (fun K hK => ?_)); go_simp; (first | (with_reducible refine hK _ ?_) | (rw [if_neg (by intro h; cases h)]; with_reducible refine hK _ ?_)); clear hK K)
            | ((with_reducible refine wpTr_hv (fun K L hK hL => ?_)); go_simp; (first | (with_reducible refine hL _ ?_) | (rw [if_neg (by intro h; cases h)]; with_reducible refine hL _ ?_)); clear hK hL K L)
            | ((with_reducible refine wpTr_hv (fun K L hK hL => ?_)); go_simp; (with_reducible refine hK _ _ ?_ ?_); (focus (exact ⟨_, (laterB_of (by repeat (first | (with_reducible assumption) | (with_reducible exact (below_later _ _).mono (by omega)) | (with_reducible exact Below.refl _ _) | (with_reducible refine Below.drew ?_) | (with_reducible refine Below.setCell ?_ (by first | omega | (simp; done) | (simp; omega)) _) | (with_reducible refine Below.alloc ?_ (by first | omega | (simp; omega) | (have := (below_later wr nx).size; simp; omega)) _)))).symm⟩)); clear hK hL K L))

          refine wpTr_nil ?_
          have hB := HB.out.trans (hb1.mono HB.out.size)
          have hsz5 : w'.heap.size = w'.heap.size := rfl
          refine lettered (R := fun wz3 => Exit.then _ _ _ _ wz3) (fun wz3 => wz3.cell? ⟨w.heap.size, 0, none⟩ = some (.int .u8 d1) ∧ wz3.cell? ⟨w.heap.size, 1, none⟩ = some (.slice a1 n1 c1) ∧ wz3.cell? ⟨w.heap.size + 1, 0, none⟩ = some (.int .u8 d2) ∧ wz3.cell? ⟨w.heap.size + 1, 1, none⟩ = some (.slice a2 n2 c2) ∧ wz3.cell? ⟨b7, 0, none⟩ = some (.float .f64 x) ∧ wz3.cell? ⟨b7, 1, none⟩ = some (.float .f64 y) ∧ wz3.cell? ⟨b8, 0, none⟩ = some (.float .f64 ox) ∧ wz3.cell? ⟨b8, 1, none⟩ = some (.float .f64 oy) ∧ w.heap.size + 1 < wz3.heap.size ∧ Below w.heap.size w wz3) ⟨by go_cell, by go_cell, by go_cell, by go_cell, by go_cell, by go_cell, by go_cell, by go_cell, by simp; omega, by repeat' (first | (with_reducible exact hB) | (with_reducible refine Below.setCell ?_ ?_ _) | (with_reducible refine Below.alloc ?_ ?_ _) | (with_reducible refine Below.drew ?_) | (with_reducible exact hB.size) | omega | (simp; done) | (simp; omega))⟩ ?_
          rintro wz3 ⟨c3_0_0, c3_0_1, c3_1_0, c3_1_1, c3_2_0, c3_2_1, c3_3_0, c3_3_1, hs3_0, hb⟩
          clear HB
          have HB := hid hb
          clear hb
          generalize hv0 : sameV x ox = s0 at *
          generalize hv1 : sameV y oy = s1 at *
          clear hb1 k00 k01 k10 k11 p70 p71 p80 p81 q70 q71 q80 q81 e00 e01 e10 e11 hB
          unfold sameV at hv0 hv1
          generalize hlt0 : ltXY x y ox oy = lv at *
          cases s0
          · have HFr := hid (HF.out lv rfl rfl)
            cases s1
            all_goals
              go_wp2_with (first | (go_at_call 130; (with_reducible refine (XL.out x y ox oy _).mono ?_); rintro e w' ⟨rfl, hbl⟩; obtain ⟨nx, rfl⟩ := later1 (lat (wz := wz3) (by repeat (first | (with_reducible exact below_later _ _) | (with_reducible exact Below.refl _ _) | (with_reducible assumption) | (with_reducible refine Below.drew ?_) | (with_reducible refine Below.alloc ?_ (by (first | (with_reducible exact Nat.le_refl _) | (with_reducible exact (below_later _ _).size) | omega | (simp; done) | (simp; omega))) _))) hbl); clear hbl))
              go_ret
              exact ⟨lv, rfl, HFr.out, HB.out.trans ((below_later _ _).mono HB.out.size)⟩
          · cases s1
            · have HFr := hid (HF.out lv rfl rfl)
              go_wp2_with (first | (go_at_call 130; (with_reducible refine (XL.out x y ox oy _).mono ?_); rintro e w' ⟨rfl, hbl⟩; obtain ⟨nx, rfl⟩ := later1 (lat (wz := wz3) (by repeat (first | (with_reducible exact below_later _ _) | (with_reducible exact Below.refl _ _) | (with_reducible assumption) | (with_reducible refine Below.drew ?_) | (with_reducible refine Below.alloc ?_ (by (first | (with_reducible exact Nat.le_refl _) | (with_reducible exact (below_later _ _).size) | omega | (simp; done) | (simp; omega))) _))) hbl); clear hbl))
              go_ret
              exact ⟨lv, rfl, HFr.out, HB.out.trans ((below_later _ _).mono HB.out.size)⟩
            · have HNr := hid (HN.out rfl)
              go_wp2_with fail
              go_roundw
              case rel => exact ⟨i + 1, by omega, by omega, by go_num, HNr, by omega, HB.out, row2.2 ⟨by go_cell, by go_cell, trivial⟩, row2.2 ⟨by go_cell, by go_cell, trivial⟩⟩
              case measure => simp [intOf]; omega
      · have hg : (q2 : Int) ≤ (i : Int) := by omega
        have HFr : Hid (LessR q1 q2 X1 Y1 X2 Y2 true) := hid ⟨i, hi1, hi2, hok.out, .inr (.inl ⟨hlt, by omega, rfl⟩)⟩
        go_wp2_with (first | (go_at_call 106; (with_reducible refine (L1.out _).mono ?_); rintro e w' ⟨rfl, hbl⟩; obtain ⟨nx, rfl⟩ := later1 (lat (wz := wr) (by repeat (first | (with_reducible exact below_later _ _) | (with_reducible exact Below.refl _ _) | (with_reducible assumption) | (with_reducible refine Below.drew ?_) | (with_reducible refine Below.alloc ?_ (by (first | (with_reducible exact Nat.le_refl _) | (with_reducible exact (below_later _ _).size) | omega | (simp; done) | (simp; omega))) _))) hbl); clear hbl))
        go_ret
        exact ⟨true, rfl, HFr.out, HB.out.trans ((below_later _ _).mono HB.out.size)⟩
    · have HFr : Hid (LessR q1 q2 X1 Y1 X2 Y2 false) := hid ⟨i, hi1, hi2, hok.out, .inl ⟨by omega, rfl⟩⟩
      go_wp2_with (first | (go_at_call 106; (with_reducible refine (L1.out _).mono ?_); rintro e w' ⟨rfl, hbl⟩; obtain ⟨nx, rfl⟩ := later1 (lat (wz := wr) (by repeat (first | (with_reducible exact below_later _ _) | (with_reducible exact Below.refl _ _) | (with_reducible assumption) | (with_reducible refine Below.drew ?_) | (with_reducible refine Below.alloc ?_ (by (first | (with_reducible exact Nat.le_refl _) | (with_reducible exact (below_later _ _).size) | omega | (simp; done) | (simp; omega))) _))) hbl); clear hbl))
      go_ret
      exact ⟨false, rfl, HFr.out, HB.out.trans ((below_later _ _).mono HB.out.size)⟩
/-- the X's and Y's of the whole places of a list of numbers -/
def xAt (d : Int) (xs : List Nat) (i : Nat) : Nat := xs.getD (i * widthN d) 0
def yAt (d : Int) (xs : List Nat) (i : Nat) : Nat := xs.getD (i * widthN d + 1) 0
theorem seqAt (d : Int) (xs : List Nat) (hxl : xs.length < 2000) (g : Nat) (i : Nat) (hi : i < xs.length / widthN d) (w : World) (hR : RowOf w g ((xs.take (xs.length / widthN d * widthN d)).map (Value.float .f64))) :
    Calls Try.prog 69 #[sv (d % 4) (some ⟨g, 0, none⟩) (xs.length / widthN d * widthN d) (xs.length / widthN d * widthN d), .int .i64 (i : Int)] w fun e w' => e = .returned (.agg #[.float .f64 (xAt d xs i), .float .f64 (yAt d xs i)]) ∧ Below w.heap.size w w' := by
  have hml := Nat.div_mul_le_self xs.length (widthN d)
  have hin : i * widthN d + 1 < xs.length / widthN d * widthN d := by
    have h1 : (i + 1) * widthN d ≤ xs.length / widthN d * widthN d := Nat.mul_le_mul_right _ hi
    have := widthN_pos d
    rw [Nat.succ_mul] at h1
    omega
  have tk : ∀ j, j < xs.length / widthN d * widthN d → ((xs.take (xs.length / widthN d * widthN d)).map (Value.float .f64))[j]? = some (.float .f64 (xs.getD j 0)) := fun j hj => by
    rw [List.getElem?_map, List.getElem?_take, if_pos hj, List.getD_eq_getElem?_getD, List.getElem?_eq_getElem (by omega)]
    rfl
  exact getXY (d % 4) (isDim4 d) g _ _ i _ _ _ (by rw [width4]; exact tk _ (by omega)) (by rw [width4]; exact tk _ hin) (by rw [List.length_map, List.length_take]; exact Nat.min_eq_left hml) (by omega) w hR
theorem seqLen (d : Int) (xs : List Nat) (hxl : xs.length < 2000) (ad : Option Addr) (cp : Nat) (w : World) :
    Calls Try.prog 106 #[sv (d % 4) ad (xs.length / widthN d * widthN d) cp] w fun e w' => e = .returned (.int .i64 ((xs.length / widthN d : Nat) : Int)) ∧ Below w.heap.size w w' := by
  have hml := Nat.div_mul_le_self xs.length (widthN d)
  exact length (d % 4) (isDim4 d) ad _ cp _ (by rw [width4]) (by omega) w
theorem door78 (d1 d2 : Int) (a1 a2 : Option Addr) (n1 c1 n2 c2 : Nat) (R : Bool → Prop) (w : World)
    (hL : ∀ w', Below w.heap.size w w' → Calls Try.prog 107 #[.agg #[.int .u8 d1, .slice a1 n1 c1], .agg #[.int .u8 d2, .slice a2 n2 c2]] w' (Says R w')) :
    Calls Try.prog 78 #[.agg #[.int .u8 d1, .slice a1 n1 c1], .agg #[.int .u8 d2, .slice a2 n2 c2]] w (Says R w) := by
  replace hL := hid hL
  go_enter Try.func78, Try.ntmps78
  go_wp2_with fail
  refine lettered (R := fun wz => Calls _ _ _ wz _) (fun wz => wz.cell? ⟨w.heap.size, 0, none⟩ = some (.int .u8 d1) ∧ wz.cell? ⟨w.heap.size, 1, none⟩ = some (.slice a1 n1 c1) ∧ wz.cell? ⟨w.heap.size + 1, 0, none⟩ = some (.int .u8 d2) ∧ wz.cell? ⟨w.heap.size + 1, 1, none⟩ = some (.slice a2 n2 c2) ∧ w.heap.size + 2 ≤ wz.heap.size ∧ Below w.heap.size w wz) ⟨by go_cell, by go_cell, by go_cell, by go_cell, by simp, by go_grown⟩ ?_
  rintro wz ⟨c00, c01, c10, c11, hsz, hb⟩
  have HB := hid hb
  clear hb
  go_wp2_with (first | (go_at_call 107; (with_reducible refine (hL.out _ HB.out).mono ?_); rintro e w' ⟨r, rfl, hr, hbl⟩; replace hr := hid hr; obtain ⟨nx, rfl⟩ := later1 (lat (wz := wz) (by repeat (first | (with_reducible exact below_later _ _) | (with_reducible exact Below.refl _ _) | (with_reducible assumption) | (with_reducible refine Below.drew ?_) | (with_reducible refine Below.alloc ?_ (by (first | (with_reducible exact Nat.le_refl _) | (with_reducible exact (below_later _ _).size) | omega | (simp; done) | (simp; omega))) _))) hbl); clear hbl))
  go_ret
  exact ⟨r, rfl, hr.out, HB.out.trans ((below_later _ _).mono HB.out.size)⟩
theorem seqLess (d1 d2 : Int) (nad1 nad2 : Option Addr) (ncp1 ncp2 : Nat) (xs ys : List Nat) (kad1 kad2 : Option Addr) (kl1 kcp1 kl2 kcp2 : Nat) (hx : xs.length < 2000) (hy : ys.length < 2000) (w : World) (hF : FRow w nad1 xs) (hG : FRow w nad2 ys) :
    Calls Try.prog 39 #[gv 2 d1 nad1 xs.length ncp1 kad1 kl1 kcp1, gv 2 d2 nad2 ys.length ncp2 kad2 kl2 kcp2] w (Says (LessR (xs.length / widthN d1) (ys.length / widthN d2) (xAt d1 xs) (yAt d1 xs) (xAt d2 ys) (yAt d2 ys)) w) := by
  have LA := fun w' (hb : Below w.heap.size w w') => lineOf d1 nad1 ncp1 xs kad1 kl1 kcp1 hx w' (hF.below hb)
  have LB := fun w' (hb : Below w.heap.size w w') => lineOf d2 nad2 ncp2 ys kad2 kl2 kcp2 hy w' (hG.below hb)
  have C1 := coords (d1 % 4)
  have C2 := coords (d2 % 4)
  have hq1 : xs.length / widthN d1 ≤ xs.length := Nat.div_le_self _ _
  have DL : ∀ g1 g2 w1, RowOf w1 g1 ((xs.take (xs.length / widthN d1 * widthN d1)).map (Value.float .f64)) → g1 < w1.heap.size → RowOf w1 g2 ((ys.take (ys.length / widthN d2 * widthN d2)).map (Value.float .f64)) → g2 < w1.heap.size →
      Calls Try.prog 78 #[sv (d1 % 4) (some ⟨g1, 0, none⟩) (xs.length / widthN d1 * widthN d1) (xs.length / widthN d1 * widthN d1), sv (d2 % 4) (some ⟨g2, 0, none⟩) (ys.length / widthN d2 * widthN d2) (ys.length / widthN d2 * widthN d2)] w1 (Says (LessR (xs.length / widthN d1) (ys.length / widthN d2) (xAt d1 xs) (yAt d1 xs) (xAt d2 ys) (yAt d2 ys)) w1) := fun g1 g2 w1 r1 l1 r2 l2 =>
    door78 _ _ _ _ _ _ _ _ _ w1 fun w2 hb => less107 _ _ _ _ _ _ _ _ _ _ _ _ _ _ (by omega) w2 (fun w => seqLen d1 xs hx _ _ w) (fun w => seqLen d2 ys hy _ _ w)
      (fun i w3 hi hb3 => seqAt d1 xs hx g1 i hi w3 ((r1.under hb l1).under hb3 (Nat.lt_of_lt_of_le l1 hb.size))) (fun i w3 hi hb3 => seqAt d2 ys hy g2 i hi w3 ((r2.under hb l2).under hb3 (Nat.lt_of_lt_of_le l2 hb.size)))
  generalize LessR (xs.length / widthN d1) (ys.length / widthN d2) (xAt d1 xs) (yAt d1 xs) (xAt d2 ys) (yAt d2 ys) = R at *
  unfold gv sv at *
  generalize (xs.take (xs.length / widthN d1 * widthN d1)).map (Value.float .f64) = news1 at *
  generalize (ys.take (ys.length / widthN d2 * widthN d2)).map (Value.float .f64) = news2 at *
  generalize xs.length / widthN d1 * widthN d1 = m1 at *
  generalize ys.length / widthN d2 * widthN d2 = m2 at *
  generalize d1 % 4 = e1 at *
  generalize d2 % 4 = e2 at *
  replace LA := hid LA
  replace LB := hid LB
  replace C1 := hid C1
  replace C2 := hid C2
  replace DL := hid DL
  clear hF hG
  go_enter Try.func39, Try.ntmps39
  go_wp2_with fail
  refine lettered (R := fun wz => Code.wp _ _ _ _ wz) (fun wz => wz.cell? ⟨w.heap.size, 0, none⟩ = some (.int .i64 2) ∧ wz.cell? ⟨w.heap.size, 1, none⟩ = some (.int .i64 d1) ∧ wz.cell? ⟨w.heap.size, 2, none⟩ = some (.slice nad1 xs.length ncp1) ∧ wz.cell? ⟨w.heap.size, 3, none⟩ = some (.slice kad1 kl1 kcp1) ∧ wz.cell? ⟨w.heap.size + 1, 0, none⟩ = some (.int .i64 2) ∧ wz.cell? ⟨w.heap.size + 1, 1, none⟩ = some (.int .i64 d2) ∧ wz.cell? ⟨w.heap.size + 1, 2, none⟩ = some (.slice nad2 ys.length ncp2) ∧ wz.cell? ⟨w.heap.size + 1, 3, none⟩ = some (.slice kad2 kl2 kcp2) ∧ w.heap.size + 2 ≤ wz.heap.size ∧ Below w.heap.size w wz) ⟨by go_cell, by go_cell, by go_cell, by go_cell, by go_cell, by go_cell, by go_cell, by go_cell, by simp, by go_grown⟩ ?_
  rintro wz ⟨c00, c01, c02, c03, c10, c11, c12, c13, hsz, hb⟩
  have HB := hid hb
  clear hb
  refine wp_region_ord (S := (fun w' => ∃ e, w' = later wz e)) [(0, false), (3, false), (1, true), (2, true), (4, true), (5, true), (6, true), (7, false)] (by kernel_rfl) (by kernel_rfl) (fun _ _ d _ _ h => by cases d <;> exact h) ⟨_, (later_of (by repeat (first | (with_reducible exact below_later _ _) | (with_reducible exact Below.refl _ _) | (with_reducible assumption) | (with_reducible refine Below.drew ?_) | (with_reducible refine Below.alloc ?_ (by (first | (with_reducible exact Nat.le_refl _) | (with_reducible exact (below_later _ _).size) | omega | (simp; done) | (simp; omega))) _)))).symm⟩ ?_
  simp only [pickO, List.filterMap_cons, List.filterMap_nil, List.getElem?_cons_succ, List.getElem?_cons_zero, Option.map_some]
  repeat (first
    | ((with_reducible refine wpOrd_light (fun K hK => ?_)); go_simp; (first | (with_reducible refine hK _ ?_) | (rw [if_neg (by intro h; cases h)]; with_reducible refine hK _ ?_)); clear hK K)
    | ((with_reducible refine wpOrd_heavy (fun K L hK hL => ?_)); go_simp; (first | (with_reducible refine hL _ ?_) | (rw [if_neg (by intro h; cases h)]; with_reducible refine hL _ ?_)); clear hK hL K L)
    | ((with_reducible refine wpOrd_heavy (fun K L hK hL => ?_)); go_simp; (with_reducible refine hK _ _ ?_ ?_); (focus (exact ⟨_, (later_of (by repeat (first | (with_reducible exact below_later _ _) | (with_reducible exact Below.refl _ _) | (with_reducible assumption) | (with_reducible refine Below.drew ?_) | (with_reducible refine Below.alloc ?_ (by (first | (with_reducible exact Nat.le_refl _) | (with_reducible exact (below_later _ _).size) | omega | (simp; done) | (simp; omega))) _)))).symm⟩)); clear hK hL K L)
    | ((with_reducible refine wpOrd_heavy (fun K L hK hL => ?_)); go_simp; go_at_call 67; (with_reducible refine (LA.out _ (by first | exact HB.out.drew | exact HB.out | exact HB.out.trans ((below_later wz nx).mono HB.out.size))).mono ?_); rintro e w' ⟨g1, rfl, hr1, -, hg1, hbl⟩; have R1 := hid hr1; clear hr1; obtain ⟨nx, rfl⟩ := later1 (lat (wz := wz) (by repeat (first | (with_reducible exact below_later _ _) | (with_reducible exact Below.refl _ _) | (with_reducible assumption) | (with_reducible refine Below.drew ?_) | (with_reducible refine Below.alloc ?_ (by (first | (with_reducible exact Nat.le_refl _) | (with_reducible exact (below_later _ _).size) | omega | (simp; done) | (simp; omega))) _))) hbl); clear hbl; go_simp; (with_reducible refine hK _ _ ?_ ?_); (focus (exact ⟨_, (later_of (by repeat (first | (with_reducible exact below_later _ _) | (with_reducible exact Below.refl _ _) | (with_reducible assumption) | (with_reducible refine Below.drew ?_) | (with_reducible refine Below.alloc ?_ (by (first | (with_reducible exact Nat.le_refl _) | (with_reducible exact (below_later _ _).size) | omega | (simp; done) | (simp; omega))) _)))).symm⟩)); clear hK hL K L)
    | ((with_reducible refine wpOrd_heavy (fun K L hK hL => ?_)); go_simp; go_at_call 68; (with_reducible refine (C1.out _ _ _ _).mono ?_); (fail_if_success (have := R2)); rintro e w' ⟨rfl, hbl⟩; have R2 := hid (R1.out.under hbl hg1); have hg2 := Nat.lt_of_lt_of_le hg1 hbl.size; clear R1 hg1; obtain ⟨nx, rfl⟩ := later1 (lat (wz := wz) (by repeat (first | (with_reducible exact below_later _ _) | (with_reducible exact Below.refl _ _) | (with_reducible assumption) | (with_reducible refine Below.drew ?_) | (with_reducible refine Below.alloc ?_ (by (first | (with_reducible exact Nat.le_refl _) | (with_reducible exact (below_later _ _).size) | omega | (simp; done) | (simp; omega))) _))) hbl); clear hbl; go_simp; (with_reducible refine hK _ _ ?_ ?_); (focus (exact ⟨_, (later_of (by repeat (first | (with_reducible exact below_later _ _) | (with_reducible exact Below.refl _ _) | (with_reducible assumption) | (with_reducible refine Below.drew ?_) | (with_reducible refine Below.alloc ?_ (by (first | (with_reducible exact Nat.le_refl _) | (with_reducible exact (below_later _ _).size) | omega | (simp; done) | (simp; omega))) _)))).symm⟩)); clear hK hL K L)
    | ((with_reducible refine wpOrd_heavy (fun K L hK hL => ?_)); go_simp; go_at_call 67; (with_reducible refine (LB.out _ (by first | exact HB.out.drew | exact HB.out | exact HB.out.trans ((below_later wz nx).mono HB.out.size))).mono ?_); rintro e w' ⟨g2, rfl, hr3, -, hg3, hbl⟩; have R3 := hid hr3; have R4 := hid (R2.out.under hbl hg2); have hg4 := Nat.lt_of_lt_of_le hg2 hbl.size; clear hr3 R2 hg2; obtain ⟨nx, rfl⟩ := later1 (lat (wz := wz) (by repeat (first | (with_reducible exact below_later _ _) | (with_reducible exact Below.refl _ _) | (with_reducible assumption) | (with_reducible refine Below.drew ?_) | (with_reducible refine Below.alloc ?_ (by (first | (with_reducible exact Nat.le_refl _) | (with_reducible exact (below_later _ _).size) | omega | (simp; done) | (simp; omega))) _))) hbl); clear hbl; go_simp; (with_reducible refine hK _ _ ?_ ?_); (focus (exact ⟨_, (later_of (by repeat (first | (with_reducible exact below_later _ _) | (with_reducible exact Below.refl _ _) | (with_reducible assumption) | (with_reducible refine Below.drew ?_) | (with_reducible refine Below.alloc ?_ (by (first | (with_reducible exact Nat.le_refl _) | (with_reducible exact (below_later _ _).size) | omega | (simp; done) | (simp; omega))) _)))).symm⟩)); clear hK hL K L)
    | ((with_reducible refine wpOrd_heavy (fun K L hK hL => ?_)); go_simp; go_at_call 68; (with_reducible refine (C2.out _ _ _ _).mono ?_); rintro e w' ⟨rfl, hbl⟩; have R5 := hid (R3.out.under hbl hg3); have R6 := hid (R4.out.under hbl hg4); have hg5 := Nat.lt_of_lt_of_le hg3 hbl.size; have hg6 := Nat.lt_of_lt_of_le hg4 hbl.size; clear R3 R4 hg3 hg4; obtain ⟨nx, rfl⟩ := later1 (lat (wz := wz) (by repeat (first | (with_reducible exact below_later _ _) | (with_reducible exact Below.refl _ _) | (with_reducible assumption) | (with_reducible refine Below.drew ?_) | (with_reducible refine Below.alloc ?_ (by (first | (with_reducible exact Nat.le_refl _) | (with_reducible exact (below_later _ _).size) | omega | (simp; done) | (simp; omega))) _))) hbl); clear hbl; go_simp; (with_reducible refine hK _ _ ?_ ?_); (focus (exact ⟨_, (later_of (by repeat (first | (with_reducible exact below_later _ _) | (with_reducible exact Below.refl _ _) | (with_reducible assumption) | (with_reducible refine Below.drew ?_) | (with_reducible refine Below.alloc ?_ (by (first | (with_reducible exact Nat.le_refl _) | (with_reducible exact (below_later _ _).size) | omega | (simp; done) | (simp; omega))) _)))).symm⟩)); clear hK hL K L)
    | ((with_reducible refine wpOrd_heavy (fun K L hK hL => ?_)); go_simp; go_at_call 78; (with_reducible refine (DL.out _ _ _ R6.out hg6 R5.out hg5).mono ?_); rintro e w' ⟨r, rfl, hr, hbl⟩; have HR := hid hr; clear hr; obtain ⟨nx, rfl⟩ := later1 (lat (wz := wz) (by repeat (first | (with_reducible exact below_later _ _) | (with_reducible exact Below.refl _ _) | (with_reducible assumption) | (with_reducible refine Below.drew ?_) | (with_reducible refine Below.alloc ?_ (by (first | (with_reducible exact Nat.le_refl _) | (with_reducible exact (below_later _ _).size) | omega | (simp; done) | (simp; omega))) _))) hbl); clear hbl; go_simp; (with_reducible refine hK _ _ ?_ ?_); (focus (exact ⟨_, (later_of (by repeat (first | (with_reducible exact below_later _ _) | (with_reducible exact Below.refl _ _) | (with_reducible assumption) | (with_reducible refine Below.drew ?_) | (with_reducible refine Below.alloc ?_ (by (first | (with_reducible exact Nat.le_refl _) | (with_reducible exact (below_later _ _).size) | omega | (simp; done) | (simp; omega))) _)))).symm⟩)); clear hK hL K L))
  refine wpOrd_nil ?_
  go_wp2_with fail
  go_ret
  exact ⟨r, rfl, HR.out, HB.out.trans ((below_later _ _).mono HB.out.size)⟩
end Go.Proofs.Ytbcjlgkdmkehlaa
