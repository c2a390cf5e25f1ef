/- The envelope of a sequence: its places taken in one by one. Condition: at most 2000 numbers. -/
import Derived.Test.YtbcjlgkdmkehlaaRows
import Derived.Test.YtbcjlgkdmkehlaaPev
import Derived.Test.YtbcjlgkdmkehlaaSgx
namespace Go.Proofs.Ytbcjlgkdmkehlaa
open Go.ChangeShapes Go.WideShapes Go.ChangeAt Go.RowKit Fl
set_option maxRecDepth 100000
set_option linter.unusedSimpArgs false
theorem seqEnv0 (dm : Int) (g n c : Nat) (w : World) (L : ∀ w, Calls Try.prog 106 #[.agg #[.int .u8 dm, .slice (some ⟨g, 0, none⟩) n c]] w fun e w' => e = .returned (.int .i64 ((0 : Nat) : Int)) ∧ Below w.heap.size w w') :
    Calls Try.prog 89 #[.agg #[.int .u8 dm, .slice (some ⟨g, 0, none⟩) n c]] w fun e w' => e = .returned (EV.none.v) ∧ Below w.heap.size w w' := by
  simp only [EV.none, EV.v]
  replace L := hid L
  go_enter Try.func89, Try.ntmps89
  go_wp2_with fail
  refine lettered (R := fun wz => Calls _ _ _ wz _) (fun wz => wz.cell? ⟨w.heap.size, 0, none⟩ = some (.int .u8 dm) ∧ wz.cell? ⟨w.heap.size, 1, none⟩ = some (.slice (some ⟨g, 0, none⟩) n c) ∧ wz.cell? ⟨w.heap.size + 1, 0, none⟩ = some (.float .f64 0) ∧ wz.cell? ⟨w.heap.size + 1, 1, none⟩ = some (.float .f64 0) ∧ wz.cell? ⟨w.heap.size + 1, 2, none⟩ = some (.float .f64 0) ∧ wz.cell? ⟨w.heap.size + 1, 3, none⟩ = some (.float .f64 0) ∧ wz.cell? ⟨w.heap.size + 1, 4, none⟩ = some (.bool false) ∧ wz.frozen? ⟨w.heap.size + 1, 0, none⟩ = false ∧ wz.frozen? ⟨w.heap.size + 1, 1, none⟩ = false ∧ wz.frozen? ⟨w.heap.size + 1, 2, none⟩ = false ∧ wz.frozen? ⟨w.heap.size + 1, 3, none⟩ = false ∧ wz.frozen? ⟨w.heap.size + 1, 4, none⟩ = false ∧ w.heap.size + 2 ≤ wz.heap.size ∧ Below w.heap.size w wz) ⟨by go_cell, by go_cell, by go_cell, by go_cell, by go_cell, by go_cell, by go_cell, by go_cell, by go_cell, by go_cell, by go_cell, by go_cell, by simp, by go_grown⟩ ?_
  rintro wz ⟨c00, c01, c10, c11, c12, c13, c14, z10, z11, z12, z13, z14, hsz, hb⟩
  have HB := hid hb
  clear hb
  go_wp2_with (first | (go_at_call 106; (with_reducible refine (L.out _).mono ?_); rintro e w' ⟨rfl, hbl⟩; obtain ⟨nx, rfl⟩ := later1 (lat (wz := wz) (by repeat (first | (with_reducible exact below_later _ _) | (with_reducible exact Below.refl _ _) | (with_reducible assumption) | (with_reducible refine Below.drew ?_) | (with_reducible refine Below.alloc ?_ (by (first | (with_reducible exact Nat.le_refl _) | (with_reducible exact (below_later _ _).size) | omega | (simp; done) | (simp; omega))) _))) hbl); clear hbl))
  refine bodyPost_ret (ret1 (b := w.heap.size + 1) (cs := [.float .f64 0, .float .f64 0, .float .f64 0, .float .f64 0, .bool false]) Try.results89 rfl Try.underlying110 rfl (by kernel_rfl) ⟨by go_cell, by go_cell, by go_cell, by go_cell, by go_cell, trivial⟩) rfl ?_
  exact ⟨rfl, by
    have hB := HB.out.trans ((below_later wz nx).mono HB.out.size)
    repeat' (first | (with_reducible exact hB) | (with_reducible refine Below.setCell ?_ ?_ _) | (with_reducible refine Below.alloc ?_ ?_ _) | (with_reducible refine Below.drew ?_) | (with_reducible exact hB.size) | omega | (simp; done) | (simp; omega))⟩
theorem mkFree2 {w : World} {b : Nat} (h0 : w.frozen? ⟨b, 0, none⟩ = false) (h1 : w.frozen? ⟨b, 1, none⟩ = false) : FreeAt w b 2 := fun i hi => by
  rcases i with _ | _ | i
  · exact h0
  · exact h1
  · omega
theorem mkFree5 {w : World} {b : Nat} (h0 : w.frozen? ⟨b, 0, none⟩ = false) (h1 : w.frozen? ⟨b, 1, none⟩ = false) (h2 : w.frozen? ⟨b, 2, none⟩ = false) (h3 : w.frozen? ⟨b, 3, none⟩ = false) (h4 : w.frozen? ⟨b, 4, none⟩ = false) : FreeAt w b 5 := fun i hi => by
  rcases i with _ | _ | _ | _ | _ | i
  · exact h0
  · exact h1
  · exact h2
  · exact h3
  · exact h4
  · omega
set_option maxHeartbeats 4000000 in
theorem seqEnvC (dm : Int) (hdm : isDim dm) (g n c q : Nat) (hq : n = q * widthN dm) (hn : n < 2000) (hq0 : 0 < q) (X Y : Nat → Nat) (w : World)
    (HC : ∀ k, k < q → w.cell? ⟨g, k * widthN dm, none⟩ = some (.float .f64 (X k)) ∧ w.cell? ⟨g, k * widthN dm + 1, none⟩ = some (.float .f64 (Y k)))
    (L : ∀ w, Calls Try.prog 106 #[.agg #[.int .u8 dm, .slice (some ⟨g, 0, none⟩) n c]] w fun e w' => e = .returned (.int .i64 (q : Int)) ∧ Below w.heap.size w w')
    (G0 : ∀ w', Below w.heap.size w w' → Calls Try.prog 69 #[.agg #[.int .u8 dm, .slice (some ⟨g, 0, none⟩) n c], .int .i64 0] w' fun e w'' => e = .returned (.agg #[.float .f64 (X 0), .float .f64 (Y 0)]) ∧ Below w'.heap.size w' w'') :
    Calls Try.prog 89 #[.agg #[.int .u8 dm, .slice (some ⟨g, 0, none⟩) n c]] w fun e w' => e = .returned (EV.fold X Y q).v ∧ Below w.heap.size w w' := by
  have D := dimension dm hdm
  have hw : widthI dm = (widthN dm : Int) := by rcases hdm with rfl | rfl | rfl | rfl <;> rfl
  rw [hw] at D
  have hwp := widthN_pos dm
  have U := newUnchecked
  have FM := hid (fun a b w => quiet_below (fastMin a b w))
  have FX := hid (fun a b w => quiet_below (fastMax a b w))
  generalize widthN dm = wn at *
  obtain ⟨hw1, hw2⟩ := hwp
  have hwl : 1 * wn ≤ q * wn := Nat.mul_le_mul_right wn hq0
  rw [← hq, Nat.one_mul] at hwl
  have HQn := hid hq
  clear hq
  have hg0 := (HC 0 hq0).1
  have hg : g < w.heap.size := World.block_lt_of_cell? w _ hg0
  have hqi : ¬ (q : Int) = 0 := by omega
  have hqn : ¬ q = 0 := by omega
  replace HC := hid HC
  replace D := hid D
  replace L := hid L
  replace G0 := hid G0
  replace U := hid U
  clear hw hg0
  generalize hX0 : X 0 = x0 at *
  generalize hY0 : Y 0 = y0 at *
  have HX0 := hid hX0
  have HY0 := hid hY0
  clear hX0 hY0
  go_enter Try.func89, Try.ntmps89
  go_wp2_with fail
  refine lettered (R := fun wz => Calls _ _ _ wz _) (fun wz => wz.cell? ⟨w.heap.size, 0, none⟩ = some (.int .u8 dm) ∧ wz.cell? ⟨w.heap.size, 1, none⟩ = some (.slice (some ⟨g, 0, none⟩) n c) ∧ wz.cell? ⟨w.heap.size + 1, 0, none⟩ = some (.float .f64 0) ∧ wz.cell? ⟨w.heap.size + 1, 1, none⟩ = some (.float .f64 0) ∧ wz.cell? ⟨w.heap.size + 1, 2, none⟩ = some (.float .f64 0) ∧ wz.cell? ⟨w.heap.size + 1, 3, none⟩ = some (.float .f64 0) ∧ wz.cell? ⟨w.heap.size + 1, 4, none⟩ = some (.bool false) ∧ wz.frozen? ⟨w.heap.size + 1, 0, none⟩ = false ∧ wz.frozen? ⟨w.heap.size + 1, 1, none⟩ = false ∧ wz.frozen? ⟨w.heap.size + 1, 2, none⟩ = false ∧ wz.frozen? ⟨w.heap.size + 1, 3, none⟩ = false ∧ wz.frozen? ⟨w.heap.size + 1, 4, none⟩ = false ∧ w.heap.size + 2 ≤ wz.heap.size ∧ Below w.heap.size w wz) ⟨by go_cell, by go_cell, by go_cell, by go_cell, by go_cell, by go_cell, by go_cell, by go_cell, by go_cell, by go_cell, by go_cell, by go_cell, by simp, by go_grown⟩ ?_
  rintro wz ⟨c00, c01, c10, c11, c12, c13, c14, z10, z11, z12, z13, z14, hsz, hb⟩
  have HB := hid hb
  clear hb
  go_wp2_with (first | (go_at_call 106; (with_reducible refine (L.out _).mono ?_); rintro e w' ⟨rfl, hbl⟩; obtain ⟨nx, rfl⟩ := later1 (lat (wz := wz) (by repeat (first | (with_reducible exact below_later _ _) | (with_reducible exact Below.refl _ _) | (with_reducible assumption) | (with_reducible refine Below.drew ?_) | (with_reducible refine Below.alloc ?_ (by (first | (with_reducible exact Nat.le_refl _) | (with_reducible exact (below_later _ _).size) | omega | (simp; done) | (simp; omega))) _))) hbl); clear hbl) | (go_at_call 69; (with_reducible refine (G0.out _ (HB.out.trans ((below_later wz nx).mono HB.out.size))).mono ?_); rintro e w' ⟨rfl, hbl⟩; obtain ⟨nx, rfl⟩ := later1 (lat (wz := wz) (by repeat (first | (with_reducible exact below_later _ _) | (with_reducible exact Below.refl _ _) | (with_reducible assumption) | (with_reducible refine Below.drew ?_) | (with_reducible refine Below.alloc ?_ (by (first | (with_reducible exact Nat.le_refl _) | (with_reducible exact (below_later _ _).size) | omega | (simp; done) | (simp; omega))) _))) hbl); clear hbl; have sNx := (below_later wz nx).size; have : ¬ w.heap.size = (later wz nx).heap.size := (by omega); have : w.heap.size < (later wz nx).heap.size := (by omega); have : ¬ w.heap.size + 1 = (later wz nx).heap.size := (by omega); have : w.heap.size + 1 < (later wz nx).heap.size := (by omega)))
  refine lettered (R := fun wz2 => Code.wp _ _ _ _ wz2) (fun wz2 => wz2.cell? ⟨w.heap.size, 0, none⟩ = some (.int .u8 dm) ∧ wz2.cell? ⟨w.heap.size, 1, none⟩ = some (.slice (some ⟨g, 0, none⟩) n c) ∧ wz2.cell? ⟨w.heap.size + 1, 0, none⟩ = some (.float .f64 0) ∧ wz2.cell? ⟨w.heap.size + 1, 1, none⟩ = some (.float .f64 0) ∧ wz2.cell? ⟨w.heap.size + 1, 2, none⟩ = some (.float .f64 0) ∧ wz2.cell? ⟨w.heap.size + 1, 3, none⟩ = some (.float .f64 0) ∧ wz2.cell? ⟨w.heap.size + 1, 4, none⟩ = some (.bool false) ∧ wz2.cell? ⟨(later wz nx).heap.size, 0, none⟩ = some (.float .f64 x0) ∧ wz2.cell? ⟨(later wz nx).heap.size, 1, none⟩ = some (.float .f64 y0) ∧ wz2.frozen? ⟨w.heap.size + 1, 0, none⟩ = false ∧ wz2.frozen? ⟨w.heap.size + 1, 1, none⟩ = false ∧ wz2.frozen? ⟨w.heap.size + 1, 2, none⟩ = false ∧ wz2.frozen? ⟨w.heap.size + 1, 3, none⟩ = false ∧ wz2.frozen? ⟨w.heap.size + 1, 4, none⟩ = false ∧ w.heap.size + 1 < wz2.heap.size ∧ (later wz nx).heap.size < wz2.heap.size ∧ Below w.heap.size w wz2) ⟨by go_cell, by go_cell, by go_cell, by go_cell, by go_cell, by go_cell, by go_cell, by go_cell, by go_cell, by go_cell, by go_cell, by go_cell, by go_cell, by go_cell, by first | (have := (below_later wz nx).size; simp; omega) | (simp; done), by first | (have := (below_later wz nx).size; simp; omega) | (simp; done), by have hB := HB.out.trans ((below_later wz nx).mono HB.out.size); repeat' (first | (with_reducible exact hB) | (with_reducible refine Below.setCell ?_ ?_ _) | (with_reducible refine Below.alloc ?_ ?_ _) | (with_reducible refine Below.drew ?_) | (with_reducible exact hB.size) | omega | (simp; done) | (simp; omega))⟩ ?_
  rintro wz2 ⟨c2_0_0, c2_0_1, c2_1_0, c2_1_1, c2_1_2, c2_1_3, c2_1_4, c2_2_0, c2_2_1, z2_1_0, z2_1_1, z2_1_2, z2_1_3, z2_1_4, hs2_0, hs2_1, hb⟩
  clear HB
  have HB := hid hb
  clear hb
  generalize (later wz nx).heap.size = b4 at *
  refine wp_region_tree (S := (fun w' => ∃ e, w' = laterB (wz2.heap.size) wz2 e)) (.lt 0 (.lt 1 (.soft [(2, 2), (3, 3)] [] (.hv 4 (.hv 5 .nil))))) (by kernel_rfl) (by kernel_rfl) (fun _ _ d _ _ h => by cases d <;> exact h) ⟨_, (laterB_of (by repeat (first | (with_reducible assumption) | (with_reducible exact (below_later _ _).mono (by omega)) | (with_reducible exact Below.refl _ _) | (with_reducible refine Below.drew ?_) | (with_reducible refine Below.setCell ?_ (by first | omega | (simp; done) | (simp; omega)) _) | (with_reducible refine Below.alloc ?_ (by first | omega | (simp; omega) | (have := (below_later wz2 nx).size; simp; omega)) _)))).symm⟩ ?_
  simp only [pickT, List.filterMap_cons, List.filterMap_nil, List.getElem?_cons_succ, List.getElem?_cons_zero, Option.map_some]
  repeat' (first
    | (with_reducible refine wpTr_hv2 ?_ ?_)
    | ((with_reducible refine wpTr_lt (fun K hK => ?_)); go_simp; (first | (with_reducible refine hK _ ?_) | (rw [if_neg (by intro h; cases h)]; with_reducible refine hK _ ?_)); clear hK K)
    | ((with_reducible refine wpTr_hv (fun K L hK hL => ?_)); go_simp; (first | (with_reducible refine hL _ ?_) | (rw [if_neg (by intro h; cases h)]; with_reducible refine hL _ ?_)); clear hK hL K L)
    | ((with_reducible refine wpTr_hv (fun K L hK hL => ?_)); go_simp; (with_reducible refine hK _ _ ?_ ?_); (focus (exact ⟨_, (laterB_of (by repeat (first | (with_reducible assumption) | (with_reducible exact (below_later _ _).mono (by omega)) | (with_reducible exact Below.refl _ _) | (with_reducible refine Below.drew ?_) | (with_reducible refine Below.setCell ?_ (by first | omega | (simp; done) | (simp; omega)) _) | (with_reducible refine Below.alloc ?_ (by first | omega | (simp; omega) | (have := (below_later wz2 nx).size; simp; omega)) _)))).symm⟩)); clear hK hL K L))
  refine wpTr_soft [2, 3] (fun k v w' => if k = 2 then NewAt wz2.heap.size (fun b => .pointer (some ⟨b, 0, none⟩)) [(.float .f64 0), (.float .f64 0)] v w' else if k = 3 then NewAt wz2.heap.size (fun b => .pointer (some ⟨b, 0, none⟩)) [(.float .f64 0), (.float .f64 0)] v w' else True) [2, 3] rfl ?_ ?_ ?_ ?_ ?_ ?_
  · rfl
  · intro p hp
    simp only [List.mem_cons, List.not_mem_nil, or_false] at hp
    rcases hp with rfl | rfl <;> rfl
  · intro k v a b hb h
    by_cases h2 : k = 2
    · rw [if_pos h2] at h ⊢; exact h.below hb
    rw [if_neg h2] at h ⊢
    by_cases h3 : k = 3
    · rw [if_pos h3] at h ⊢; exact h.below hb
    rw [if_neg h3] at h ⊢
    trivial
  · intro p hp hnl u w' hbu hSu hd K hK
    have hb1 : Below wz2.heap.size wz2 w' := by first | exact (below_later _ _).drew.trans (hbu.mono (below_later _ _).size) | exact (Below.refl _ _).drew.trans hbu | exact (below_later _ _).trans (hbu.mono (below_later _ _).size)
    have hb0 : Below w.heap.size w w' := HB.out.trans (hb1.mono HB.out.size)
    have hsz3 : wz2.heap.size ≤ w'.heap.size := hb1.size
    have HS : ∀ w'', Below w'.heap.size w' w'' → ∃ e, w'' = laterB wz2.heap.size wz2 e := fun w'' h => ⟨w'', (laterB_of (hb1.trans (h.mono hsz3))).symm⟩
    clear hbu hSu
    simp only [List.mem_cons, List.not_mem_nil, or_false] at hp
    rcases hp with rfl | rfl
    · have hal := Below.alloc (Below.refl w'.heap.size w') (Nat.le_refl _) (.cells #[(.float .f64 0), (.float .f64 0)] 85)
      have h := hK _ _ (newAt_alloc (B := wz2.heap.size) (fun b => .pointer (some ⟨b, 0, none⟩)) [(.float .f64 0), (.float .f64 0)] 85 w' hsz3) (fun _ p' _ ha hF => by
          simp only [List.mem_cons, List.not_mem_nil, or_false] at ha
          rcases ha with e | e
          · rw [e] at hF ⊢; have hF' : NewAt wz2.heap.size (fun b => .pointer (some ⟨b, 0, none⟩)) [(.float .f64 0), (.float .f64 0)] (u 2) w' := hF; exact hF'.apart ptr_block (Nat.le_refl _)
          · rw [e] at hF ⊢; have hF' : NewAt wz2.heap.size (fun b => .pointer (some ⟨b, 0, none⟩)) [(.float .f64 0), (.float .f64 0)] (u 3) w' := hF; exact hF'.apart ptr_block (Nat.le_refl _)) hal (HS _ hal)
      simp [tmOf, Act.put, upd] at h ⊢
      go_simp
      exact h
    · have hal := Below.alloc (Below.refl w'.heap.size w') (Nat.le_refl _) (.cells #[(.float .f64 0), (.float .f64 0)] 85)
      have h := hK _ _ (newAt_alloc (B := wz2.heap.size) (fun b => .pointer (some ⟨b, 0, none⟩)) [(.float .f64 0), (.float .f64 0)] 85 w' hsz3) (fun _ p' _ ha hF => by
          simp only [List.mem_cons, List.not_mem_nil, or_false] at ha
          rcases ha with e | e
          · rw [e] at hF ⊢; have hF' : NewAt wz2.heap.size (fun b => .pointer (some ⟨b, 0, none⟩)) [(.float .f64 0), (.float .f64 0)] (u 2) w' := hF; exact hF'.apart ptr_block (Nat.le_refl _)
          · rw [e] at hF ⊢; have hF' : NewAt wz2.heap.size (fun b => .pointer (some ⟨b, 0, none⟩)) [(.float .f64 0), (.float .f64 0)] (u 3) w' := hF; exact hF'.apart ptr_block (Nat.le_refl _)) hal (HS _ hal)
      simp [tmOf, Act.put, upd] at h ⊢
      go_simp
      exact h
  · intro p hp hli u w' hbu hSu hd
    simp only [List.mem_cons, List.not_mem_nil, or_false] at hp
    rcases hp with rfl | rfl
    · simp at hli
    · simp at hli
  · intro u w' hbu hSu hF hD
    conv => arg 6; simp [tmOf, Act.put]
    have hb1 : Below wz2.heap.size wz2 w' := by first | exact (below_later _ _).drew.trans (hbu.mono (below_later _ _).size) | exact (Below.refl _ _).drew.trans hbu | exact (below_later _ _).trans (hbu.mono (below_later _ _).size)
    have hb0 : Below w.heap.size w w' := HB.out.trans (hb1.mono HB.out.size)
    have hsz3 : wz2.heap.size ≤ w'.heap.size := hb1.size
    have f2 : NewAt wz2.heap.size (fun b => .pointer (some ⟨b, 0, none⟩)) [(.float .f64 0), (.float .f64 0)] (u 2) w' := hF 2 (by decide)
    have f3 : NewAt wz2.heap.size (fun b => .pointer (some ⟨b, 0, none⟩)) [(.float .f64 0), (.float .f64 0)] (u 3) w' := hF 3 (by decide)
    obtain ⟨b2, e2, g2, l2, r2, z2⟩ := f2
    obtain ⟨p2_0, p2_1, -⟩ := row2.1 r2
    obtain ⟨q2_0, q2_1⟩ := free2 z2
    obtain ⟨b3, e3, g3, l3, r3, z3⟩ := f3
    obtain ⟨p3_0, p3_1, -⟩ := row2.1 r3
    obtain ⟨q3_0, q3_1⟩ := free2 z3
    have n2_3 : ¬ b2 = b3 := fun h => hD 2 (by decide) 3 (by decide) (by decide) (by decide) (by decide) (by rw [e2, e3, h])
    have n3_2 : ¬ b3 = b2 := fun h => n2_3 h.symm
    have m2_0 : ¬ b2 = w.heap.size := by omega
    have m3_0 : ¬ b3 = w.heap.size := by omega
    have m2_1 : ¬ b2 = w.heap.size + 1 := by omega
    have m3_1 : ¬ b3 = w.heap.size + 1 := by omega
    have m2_2 : ¬ b2 = b4 := by omega
    have m3_2 : ¬ b3 = b4 := by omega
    have hs0 : w.heap.size < wz2.heap.size := by omega
    rw [e2, e3]
    have k0 := (hb1.cell (p := ⟨w.heap.size, 0, none⟩) hs0).trans c2_0_0
    have k1 := (hb1.cell (p := ⟨w.heap.size, 1, none⟩) hs0).trans c2_0_1
    have k2 := (hb1.cell (p := ⟨w.heap.size + 1, 0, none⟩) hs2_0).trans c2_1_0
    have k3 := (hb1.cell (p := ⟨w.heap.size + 1, 1, none⟩) hs2_0).trans c2_1_1
    have k4 := (hb1.cell (p := ⟨w.heap.size + 1, 2, none⟩) hs2_0).trans c2_1_2
    have k5 := (hb1.cell (p := ⟨w.heap.size + 1, 3, none⟩) hs2_0).trans c2_1_3
    have k6 := (hb1.cell (p := ⟨w.heap.size + 1, 4, none⟩) hs2_0).trans c2_1_4
    have y2 := (hb1.frozen (p := ⟨w.heap.size + 1, 0, none⟩) hs2_0).trans z2_1_0
    have y3 := (hb1.frozen (p := ⟨w.heap.size + 1, 1, none⟩) hs2_0).trans z2_1_1
    have y4 := (hb1.frozen (p := ⟨w.heap.size + 1, 2, none⟩) hs2_0).trans z2_1_2
    have y5 := (hb1.frozen (p := ⟨w.heap.size + 1, 3, none⟩) hs2_0).trans z2_1_3
    have y6 := (hb1.frozen (p := ⟨w.heap.size + 1, 4, none⟩) hs2_0).trans z2_1_4
    clear e2 e3 r2 r3 z2 z3 hF hD hbu hSu
    repeat' (first
      | (with_reducible refine wpTr_hv2 ?_ ?_)
      | ((with_reducible refine wpTr_lt (fun K hK => ?_)); go_simp; (first | (with_reducible refine hK _ ?_) | (rw [if_neg (by intro h; cases h)]; with_reducible refine hK _ ?_)); clear hK K)
      | ((with_reducible refine wpTr_hv (fun K L hK hL => ?_)); go_simp; (first | (with_reducible refine hL _ ?_) | (rw [if_neg (by intro h; cases h)]; with_reducible refine hL _ ?_)); clear hK hL K L)
      | ((with_reducible refine wpTr_hv (fun K L hK hL => ?_)); go_simp; (with_reducible refine hK _ _ ?_ ?_); (focus (exact ⟨_, (laterB_of (by repeat (first | (with_reducible assumption) | (with_reducible exact (below_later _ _).mono (by omega)) | (with_reducible exact Below.refl _ _) | (with_reducible refine Below.drew ?_) | (with_reducible refine Below.setCell ?_ (by first | omega | (simp; done) | (simp; omega)) _) | (with_reducible refine Below.alloc ?_ (by first | omega | (simp; omega) | (have := (below_later wz2 nx).size; simp; omega)) _)))).symm⟩)); clear hK hL K L))
    refine wpTr_nil ?_
    have hB := hb0
    refine lettered (R := fun wz3 => Exit.then _ _ _ _ wz3) (fun wz3 => wz3.cell? ⟨w.heap.size, 0, none⟩ = some (.int .u8 dm) ∧ wz3.cell? ⟨w.heap.size, 1, none⟩ = some (.slice (some ⟨g, 0, none⟩) n c) ∧ wz3.cell? ⟨w.heap.size + 1, 0, none⟩ = some (.float .f64 0) ∧ wz3.cell? ⟨w.heap.size + 1, 1, none⟩ = some (.float .f64 0) ∧ wz3.cell? ⟨w.heap.size + 1, 2, none⟩ = some (.float .f64 0) ∧ wz3.cell? ⟨w.heap.size + 1, 3, none⟩ = some (.float .f64 0) ∧ wz3.cell? ⟨w.heap.size + 1, 4, none⟩ = some (.bool false) ∧ wz3.cell? ⟨b2, 0, none⟩ = some (.float .f64 x0) ∧ wz3.cell? ⟨b2, 1, none⟩ = some (.float .f64 y0) ∧ wz3.cell? ⟨b3, 0, none⟩ = some (.float .f64 x0) ∧ wz3.cell? ⟨b3, 1, none⟩ = some (.float .f64 y0) ∧ wz3.frozen? ⟨w.heap.size + 1, 0, none⟩ = false ∧ wz3.frozen? ⟨w.heap.size + 1, 1, none⟩ = false ∧ wz3.frozen? ⟨w.heap.size + 1, 2, none⟩ = false ∧ wz3.frozen? ⟨w.heap.size + 1, 3, none⟩ = false ∧ wz3.frozen? ⟨w.heap.size + 1, 4, none⟩ = false ∧ wz3.frozen? ⟨b2, 0, none⟩ = false ∧ wz3.frozen? ⟨b2, 1, none⟩ = false ∧ wz3.frozen? ⟨b3, 0, none⟩ = false ∧ wz3.frozen? ⟨b3, 1, none⟩ = false ∧ w.heap.size + 1 < wz3.heap.size ∧ b2 < wz3.heap.size ∧ b3 < wz3.heap.size ∧ Below w.heap.size w wz3) ⟨by go_cell, by go_cell, by go_cell, by go_cell, by go_cell, by go_cell, by go_cell, by go_cell, by go_cell, by go_cell, by go_cell, by go_cell, by go_cell, by go_cell, by go_cell, by go_cell, by go_cell, by go_cell, by go_cell, by go_cell, by simp; omega, by simp; omega, by simp; omega, by repeat' (first | (with_reducible exact hB) | (with_reducible refine Below.setCell ?_ ?_ _) | (with_reducible refine Below.alloc ?_ ?_ _) | (with_reducible refine Below.drew ?_) | (with_reducible exact hB.size) | omega | (simp; done) | (simp; omega))⟩ ?_
    rintro wz3 ⟨c3_0_0, c3_0_1, c3_1_0, c3_1_1, c3_1_2, c3_1_3, c3_1_4, c3_2_0, c3_2_1, c3_3_0, c3_3_1, z3_1_0, z3_1_1, z3_1_2, z3_1_3, z3_1_4, z3_2_0, z3_2_1, z3_3_0, z3_3_1, hs3_0, hs3_1, hs3_2, hb⟩
    clear HB
    have HB := hid hb
    clear hb
    clear hB hb1 k0 k1 k2 k3 k4 k5 k6 y2 y3 y4 y5 y6 c2_0_0 c2_0_1 c2_1_0 c2_1_1 c2_1_2 c2_1_3 c2_1_4 c2_2_0 c2_2_1 z2_1_0 z2_1_1 z2_1_2 z2_1_3 z2_1_4
    go_wp2_with (first | (go_at_call 104; (with_reducible refine (D.out _).mono ?_); rintro e w' ⟨rfl, hbl⟩; obtain ⟨nx, rfl⟩ := later1 (lat (wz := wz3) (by repeat (first | (with_reducible exact below_later _ _) | (with_reducible exact Below.refl _ _) | (with_reducible assumption) | (with_reducible refine Below.drew ?_) | (with_reducible refine Below.alloc ?_ (by (first | (with_reducible exact Nat.le_refl _) | (with_reducible exact (below_later _ _).size) | omega | (simp; done) | (simp; omega))) _))) hbl); clear hbl))
    have hlz := (below_later wz3 nx).size
    go_loopw [8] (fun iv wr => ∃ k i lx ly hx hy : Nat, 1 ≤ k ∧ k ≤ q ∧ iv = .int .i64 (i : Int) ∧ Hid (i = k * wn) ∧ Hid (EV.fold X Y k = ⟨lx, ly, hx, hy, true⟩) ∧ w.heap.size + 1 < wr.heap.size ∧ b2 < wr.heap.size ∧ b3 < wr.heap.size ∧ Below w.heap.size w wr ∧ RowAt wr w.heap.size 0 [.int .u8 dm, .slice (some ⟨g, 0, none⟩) n c] ∧ RowAt wr (w.heap.size + 1) 0 [.float .f64 0, .float .f64 0, .float .f64 0, .float .f64 0, .bool false] ∧ FreeAt wr (w.heap.size + 1) 5 ∧ RowAt wr b2 0 [.float .f64 lx, .float .f64 ly] ∧ FreeAt wr b2 2 ∧ RowAt wr b3 0 [.float .f64 hx, .float .f64 hy] ∧ FreeAt wr b3 2) (fun iv _ => n - (intOf iv).toNat)
    case atStart => exact ⟨1, wn, x0, y0, x0, y0, Nat.le_refl _, by omega, rfl, hid (Nat.one_mul _).symm, hid (by rw [← HX0.out, ← HY0.out]; rfl), by omega, by omega, by omega, HB.out.trans ((below_later _ _).mono HB.out.size), row2.2 ⟨by go_cell, by go_cell, trivial⟩, row5.2 ⟨by go_cell, by go_cell, by go_cell, by go_cell, by go_cell, trivial⟩, mkFree5 (by go_cell) (by go_cell) (by go_cell) (by go_cell) (by go_cell), row2.2 ⟨by go_cell, by go_cell, trivial⟩, mkFree2 (by go_cell) (by go_cell), row2.2 ⟨by go_cell, by go_cell, trivial⟩, mkFree2 (by go_cell) (by go_cell)⟩
    case round =>
      obtain ⟨k, i, lx, ly, hx, hy, hk1, hkq, rfl, hik, hE, hsz1, hsz2, hsz3, hbl, r1, r2, f2, r3, f3, r4, f4⟩ := hrel
      obtain ⟨a0, a1, -⟩ := row2.1 r1
      obtain ⟨d0, d1, d2, d3, d4, -⟩ := row5.1 r2
      obtain ⟨t0, t1, t2, t3, t4⟩ := free5 f2
      obtain ⟨p0, p1, -⟩ := row2.1 r3
      obtain ⟨v0, v1⟩ := free2 f3
      obtain ⟨q0, q1, -⟩ := row2.1 r4
      obtain ⟨y0, y1⟩ := free2 f4
      clear r1 r2 f2 r3 f3 r4 f4
      have HBr := hid hbl
      by_cases hlt : k < q
      · obtain ⟨cx, cy⟩ := HC.out k hlt
        rw [← hik.out] at cx cy
        have u0 := (hbl.cell (p := ⟨g, i, none⟩) hg).trans cx
        have u1 := (hbl.cell (p := ⟨g, i + 1, none⟩) hg).trans cy
        have hin : i + wn ≤ n := by
          rw [hik.out, HQn.out, ← Nat.succ_mul]
          exact Nat.mul_le_mul_right _ hlt
        have HN : Hid (∀ x y, X k = x → Y k = y → EV.fold X Y (k + 1) = ⟨fmin lx x, fmin ly y, fmax hx x, fmax hy y, true⟩) := hid (fun x y h1 h2 => by
          show (EV.fold X Y k).step (X k) (Y k) = _
          rw [hE.out, h1, h2]
          rfl)
        have HN2 := hid (HN.out _ _ rfl rfl)
        generalize X k = x at *
        generalize Y k = y at *
        clear hbl cx cy HN
        have j0 : (0 : Int) ≤ (i : Int) := by omega
        have j1 : (i : Int) < (n : Int) := by omega
        have j2 : (0 : Int) ≤ (i : Int) + 1 := by omega
        have j3 : (i : Int) + 1 < (n : Int) := by omega
        have j4 : IntKind.i64.wrap ((i : Int) + 1) = (i : Int) + 1 := IntWalk.i64_in _ (by omega)
        have j5 : IntKind.i64.wrap ((i : Int) + (wn : Int)) = ((i + wn : Nat) : Int) := by rw [Int.natCast_add]; exact IntWalk.i64_in _ (by omega)
        go_wp2_with (first | (go_at_call 115; (with_reducible refine (fastMin _ _ _).mono ?_); rintro e w' ⟨rfl, rfl⟩) | (go_at_call 116; (with_reducible refine (fastMax _ _ _).mono ?_); rintro e w' ⟨rfl, rfl⟩))
        go_roundw
        case rel =>
          have hB := HBr.out
          exact ⟨k + 1, i + wn, fmin lx x, fmin ly y, fmax hx x, fmax hy y, by omega, by omega, by go_num, hid (by rw [hik.out, Nat.succ_mul]), HN2, by simp; omega, by simp; omega, by simp; omega, by
            repeat' (first | (with_reducible exact hB) | (with_reducible refine Below.setCell ?_ ?_ _) | (with_reducible refine Below.alloc ?_ ?_ _) | (with_reducible refine Below.drew ?_) | (with_reducible exact hB.size) | omega | (simp; done) | (simp; omega)), row2.2 ⟨by go_cell, by go_cell, trivial⟩, row5.2 ⟨by go_cell, by go_cell, by go_cell, by go_cell, by go_cell, trivial⟩, mkFree5 (by go_cell) (by go_cell) (by go_cell) (by go_cell) (by go_cell), row2.2 ⟨by go_cell, by go_cell, trivial⟩, mkFree2 (by go_cell) (by go_cell), row2.2 ⟨by go_cell, by go_cell, trivial⟩, mkFree2 (by go_cell) (by go_cell)⟩
        case measure => simp [intOf]; omega
      · have hkk : k = q := by omega
        subst hkk
        have hni : i = n := by rw [hik.out, HQn.out]
        have hni2 : ¬ (i : Int) < (n : Int) := by omega
        clear hni
        go_wp2_with (first | (go_at_call 117; (with_reducible refine (U.out _ _ _ _ _).mono ?_); rintro e w' ⟨rfl, hbl⟩; obtain ⟨nx, rfl⟩ := later1 (lat (wz := wr) (by repeat (first | (with_reducible exact below_later _ _) | (with_reducible exact Below.refl _ _) | (with_reducible assumption) | (with_reducible refine Below.drew ?_) | (with_reducible refine Below.alloc ?_ (by (first | (with_reducible exact Nat.le_refl _) | (with_reducible exact (below_later _ _).size) | omega | (simp; done) | (simp; omega))) _))) hbl); clear hbl))
        refine bodyPost_ret (ret1 (b := w.heap.size + 1) (cs := [.float .f64 lx, .float .f64 ly, .float .f64 hx, .float .f64 hy, .bool true]) Try.results89 rfl Try.underlying110 rfl (by kernel_rfl) ⟨by go_cell, by go_cell, by go_cell, by go_cell, by go_cell, trivial⟩) rfl ?_
        exact ⟨by rw [hE.out]; rfl, by
          have hB := HBr.out.trans ((below_later wr nx).mono HBr.out.size)
          repeat' (first | (with_reducible exact hB) | (with_reducible refine Below.setCell ?_ ?_ _) | (with_reducible refine Below.alloc ?_ ?_ _) | (with_reducible refine Below.drew ?_) | (with_reducible exact hB.size) | omega | (simp; done) | (simp; omega))⟩
end Go.Proofs.Ytbcjlgkdmkehlaa
