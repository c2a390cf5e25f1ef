/- A sequence reversed: its places in reverse order, in a row of their own. Condition: at most 2000 numbers. -/
import Derived.Test.YtbcjlgkdmkehlaaRows
import Derived.Test.YtbcjlgkdmkehlaaSgx
namespace Go.Proofs.Ytbcjlgkdmkehlaa
open Go.ChangeShapes Go.WideShapes Go.ChangeAt Go.RowKit
set_option maxRecDepth 100000
set_option linter.unusedSimpArgs false
/-- the k-th place's numbers -/
def chunk (wn k : Nat) (l : List Value) : List Value := (l.drop (k * wn)).take wn
/-- the first i places of the reverse order -/
def revP (wn q : Nat) (l : List Value) (i : Nat) : List Value := (List.range i).flatMap (fun j => chunk wn (q - 1 - j) l)
theorem revP_succ (wn q : Nat) (l : List Value) (i : Nat) : revP wn q l (i + 1) = revP wn q l i ++ chunk wn (q - 1 - i) l := by
  unfold revP
  rw [List.range_succ, List.flatMap_append, List.flatMap_singleton]
theorem chunk_length (wn k q : Nat) (l : List Value) (hl : l.length = q * wn) (hk : k < q) : (chunk wn k l).length = wn := by
  have : (k + 1) * wn ≤ q * wn := Nat.mul_le_mul_right _ hk
  rw [Nat.succ_mul] at this
  unfold chunk
  rw [List.length_take, List.length_drop, hl]
  omega
theorem mkF2 {w : World} {b : Nat} (h0 : w.frozen? ⟨b, 0, none⟩ = false) (h1 : w.frozen? ⟨b, 1, none⟩ = false) : FreeAt w b 2 := fun i hi => by
  rcases i with _ | _ | i
  · exact h0
  · exact h1
  · omega
theorem cell_of_heap {w : World} {g : Nat} {cur : List Value} {t : TypeId} (h : w.heap[g]? = some (.cells cur.toArray t (0, 0))) : RowOf w g cur := fun j u hu => by
  simp [World.cell?, h, hu]
set_option maxHeartbeats 4000000 in
theorem seqReverse (dm : Int) (hdm : isDim dm) (g n q : Nat) (hq : n = q * widthN dm) (hn : n < 2000) (news : List Value) (hl : news.length = n) (hone : ∀ u ∈ news, u.oneCell' = true) (w : World) (hR : RowOf w g news) (hg : g < w.heap.size) :
    Calls Try.prog 113 #[.agg #[.int .u8 dm, .slice (some ⟨g, 0, none⟩) n n]] w fun e w' => ∃ g', e = .returned (.agg #[.int .u8 dm, .slice (some ⟨g', 0, none⟩) n n]) ∧ RowOf w' g' (revP (widthN dm) q news q) ∧ w.heap.size ≤ g' ∧ g' < w'.heap.size ∧ Below w.heap.size w w' := by
  have D := dimension dm hdm
  have hw : widthI dm = (widthN dm : Int) := by rcases hdm with rfl | rfl | rfl | rfl <;> rfl
  rw [hw] at D
  have L := length dm hdm (some ⟨g, 0, none⟩) n n q hq hn
  unfold sv at L
  have hwp := widthN_pos dm
  generalize widthN dm = wn at *
  obtain ⟨hw1, hw2⟩ := hwp
  obtain ⟨i0, hi, hz0, hz1, hz2⟩ := info_parts Try.info29
  have HI := hid hi
  have HZ0 := hid hz0
  have HZ1 := hid hz1
  have HZ2 := hid hz2
  have HQ := hid hq
  have HL := hid hl
  have H1 := hid hone
  have HRN := hid hR
  have hqn : q * 2 ≤ n := by rw [hq]; exact Nat.mul_le_mul_left _ hw1
  replace D := hid D
  replace L := hid L
  clear hi hz0 hz1 hz2 hq hl hone hR hw
  go_enter Try.func113, Try.ntmps113
  go_wp2_with fail
  refine lettered (R := fun wz => Calls _ _ _ wz _) (fun wz => wz.cell? ⟨w.heap.size, 0, none⟩ = some (.int .u8 dm) ∧ wz.cell? ⟨w.heap.size, 1, none⟩ = some (.slice (some ⟨g, 0, none⟩) n n) ∧ wz.cell? ⟨w.heap.size + 1, 0, none⟩ = some (.int .u8 0) ∧ wz.cell? ⟨w.heap.size + 1, 1, none⟩ = some (.slice none 0 0) ∧ wz.frozen? ⟨w.heap.size + 1, 0, none⟩ = false ∧ wz.frozen? ⟨w.heap.size + 1, 1, none⟩ = false ∧ w.heap.size + 2 ≤ wz.heap.size ∧ Below w.heap.size w wz) ⟨by go_cell, by go_cell, by go_cell, by go_cell, by go_cell, by go_cell, by simp, by go_grown⟩ ?_
  rintro wz ⟨c00, c01, c10, c11, z10, z11, hsz, hb⟩
  have HB := hid hb
  clear hb
  go_wp2_with (first | (go_at_call 104; (with_reducible refine (D.out _).mono ?_); rintro e w' ⟨rfl, hbl⟩; obtain ⟨nx, rfl⟩ := later1 (lat (wz := wz) (by repeat (first | (with_reducible exact below_later _ _) | (with_reducible exact Below.refl _ _) | (with_reducible assumption) | (with_reducible refine Below.drew ?_) | (with_reducible refine Below.alloc ?_ (by (first | (with_reducible exact Nat.le_refl _) | (with_reducible exact (below_later _ _).size) | omega | (simp; done) | (simp; omega))) _))) hbl); clear hbl; have sNx := (below_later wz nx).size; have : ¬ w.heap.size = (later wz nx).heap.size := (by omega); have : w.heap.size < (later wz nx).heap.size := (by omega); have : ¬ w.heap.size + 1 = (later wz nx).heap.size := (by omega); have : w.heap.size + 1 < (later wz nx).heap.size := (by omega)) | (go_at_call 106; (with_reducible refine (L.out _).mono ?_); rintro e w' ⟨rfl, hbl⟩; obtain ⟨nx, rfl⟩ := later1 (lat (wz := wz) (by repeat (first | (with_reducible exact below_later _ _) | (with_reducible exact Below.refl _ _) | (with_reducible assumption) | (with_reducible refine Below.drew ?_) | (with_reducible refine Below.alloc ?_ (by (first | (with_reducible exact Nat.le_refl _) | (with_reducible exact (below_later _ _).size) | omega | (simp; done) | (simp; omega))) _))) hbl); clear hbl; have sNx := (below_later wz nx).size; have : ¬ w.heap.size = (later wz nx).heap.size := (by omega); have : w.heap.size < (later wz nx).heap.size := (by omega); have : ¬ w.heap.size + 1 = (later wz nx).heap.size := (by omega); have : w.heap.size + 1 < (later wz nx).heap.size := (by omega)) | (at_make; refine wpList_make_full _ rfl _ _ 46 rfl w.heap.size 29 i0 _ 1 Try.underlying46 HI.out HZ0.out HZ1.out .i64 .i64 _ _ n rfl rfl rfl rfl (by rw [HZ2.out]; omega) (by unfold maxLen; omega) (by omega) ?_; intro w2 hown hgr; have HO := hid hown; have HB2 := hid (Below.grown (B := w.heap.size) (a := w) (HB.out.trans ((below_later wz nx).mono HB.out.size)) hgr (by omega) (fun k hk => by cases hk)); have hb2 := (Below.refl (later wz nx).heap.size (later wz nx)).grown hgr (Nat.le_refl _) (fun k hk => by cases hk); have := (hb2.cell (p := ⟨w.heap.size, 0, none⟩) (by show _ < _; omega)).trans ((by go_cell : (later wz nx).cell? ⟨w.heap.size, 0, none⟩ = some (.int .u8 dm))); have := (hb2.cell (p := ⟨w.heap.size, 1, none⟩) (by show _ < _; omega)).trans ((by go_cell : (later wz nx).cell? ⟨w.heap.size, 1, none⟩ = some (.slice (some ⟨g, 0, none⟩) n n))); have := (hb2.cell (p := ⟨w.heap.size + 1, 0, none⟩) (by show _ < _; omega)).trans ((by go_cell : (later wz nx).cell? ⟨w.heap.size + 1, 0, none⟩ = some (.int .u8 0))); have := (hb2.cell (p := ⟨w.heap.size + 1, 1, none⟩) (by show _ < _; omega)).trans ((by go_cell : (later wz nx).cell? ⟨w.heap.size + 1, 1, none⟩ = some (.slice none 0 0))); have := (hb2.frozen (p := ⟨w.heap.size + 1, 0, none⟩) (by show _ < _; omega)).trans ((by go_cell : (later wz nx).frozen? ⟨w.heap.size + 1, 0, none⟩ = false)); have := (hb2.frozen (p := ⟨w.heap.size + 1, 1, none⟩) (by show _ < _; omega)).trans ((by go_cell : (later wz nx).frozen? ⟨w.heap.size + 1, 1, none⟩ = false)); have hs2 := hb2.size; have hgs := (HO.out.lt _ rfl).2; clear hown hgr hb2))
  obtain ⟨cur0, hh0, hc0⟩ : ∃ cur0 : List Value, w2.heap[(later wz nx).heap.size]? = some (.cells cur0.toArray 29 (0, 0)) ∧ cur0.length = n := by
    obtain ⟨-, hv | ⟨g1, cap, cur, e, _, hh, _, _, hcs, _⟩⟩ := HO.out
    · cases hv.1
    · cases e
      exact ⟨cur.toList, by simpa using hh, by simpa using hcs⟩
  have hgl : w.heap.size + 1 < (later wz nx).heap.size := by omega
  clear HO
  generalize (later wz nx).heap.size = gr at *
  go_loopw [6] (fun iv wr => ∃ (i : Nat) (cur : List Value), i ≤ q ∧ iv = .int .i64 (i : Int) ∧ Hid (wr.heap[gr]? = some (.cells cur.toArray 29 (0, 0))) ∧ cur.length = n ∧ Hid (cur.take (i * wn) = revP wn q news i) ∧ gr < wr.heap.size ∧ Below w.heap.size w wr ∧ RowAt wr w.heap.size 0 [.int .u8 dm, .slice (some ⟨g, 0, none⟩) n n] ∧ RowAt wr (w.heap.size + 1) 0 [.int .u8 0, .slice none 0 0] ∧ FreeAt wr (w.heap.size + 1) 2) (fun iv _ => q - (intOf iv).toNat)
  case atStart => exact ⟨0, cur0, Nat.zero_le _, rfl, hid hh0, hc0, hid (by rw [Nat.zero_mul]; rfl), hgs, HB2.out, row2.2 ⟨by go_cell, by go_cell, trivial⟩, row2.2 ⟨by go_cell, by go_cell, trivial⟩, mkF2 (by go_cell) (by go_cell)⟩
  case round =>
    obtain ⟨i, cur, hi, rfl, hh, hcl, hpre, hgw, hbl, r1, r2, f2⟩ := hrel
    obtain ⟨a0, a1, -⟩ := row2.1 r1
    obtain ⟨d0, d1, -⟩ := row2.1 r2
    obtain ⟨t0, t1⟩ := free2 f2
    clear r1 r2 f2
    have HBr := hid hbl
    clear hbl
    by_cases hlt : i < q
    · obtain ⟨j, hj⟩ : ∃ j, j = q - 1 - i := ⟨_, rfl⟩
      have hjq : j < q := by omega
      obtain ⟨p1, hp1⟩ : ∃ p1, p1 = i * wn := ⟨_, rfl⟩
      obtain ⟨p3, hp3⟩ : ∃ p3, p3 = j * wn := ⟨_, rfl⟩
      have hp2 : p1 + wn ≤ n := by rw [hp1, HQ.out, ← Nat.succ_mul]; exact Nat.mul_le_mul_right _ hlt
      have hp4 : p3 + wn ≤ n := by rw [hp3, HQ.out, ← Nat.succ_mul]; exact Nat.mul_le_mul_right _ hjq
      have m1 : IntKind.i64.wrap ((i : Int) * (wn : Int)) = (p1 : Int) := by rw [show (i : Int) * (wn : Int) = (p1 : Int) from by rw [hp1, Int.natCast_mul]]; exact IntWalk.i64_in _ (by omega)
      have m2 : IntKind.i64.wrap ((i : Int) + 1) = (i : Int) + 1 := IntWalk.i64_in _ (by omega)
      have m3 : IntKind.i64.wrap (((i : Int) + 1) * (wn : Int)) = ((p1 + wn : Nat) : Int) := by rw [show ((i : Int) + 1) * (wn : Int) = ((p1 + wn : Nat) : Int) from by rw [hp1, Int.natCast_add, Int.natCast_mul, Int.add_mul, Int.one_mul]]; exact IntWalk.i64_in _ (by omega)
      have m4 : IntKind.i64.wrap ((j : Int) * (wn : Int)) = (p3 : Int) := by rw [show (j : Int) * (wn : Int) = (p3 : Int) from by rw [hp3, Int.natCast_mul]]; exact IntWalk.i64_in _ (by omega)
      have m5 : IntKind.i64.wrap ((j : Int) + 1) = (j : Int) + 1 := IntWalk.i64_in _ (by omega)
      have m6 : IntKind.i64.wrap (((j : Int) + 1) * (wn : Int)) = ((p3 + wn : Nat) : Int) := by rw [show ((j : Int) + 1) * (wn : Int) = ((p3 + wn : Nat) : Int) from by rw [hp3, Int.natCast_add, Int.natCast_mul, Int.add_mul, Int.one_mul]]; exact IntWalk.i64_in _ (by omega)
      have m7 : IntKind.i64.wrap ((q : Int) - (i : Int)) = (j : Int) + 1 := by rw [show (q : Int) - (i : Int) = (j : Int) + 1 from by omega]; exact m5
      have m8 : IntKind.i64.wrap ((j : Int) + 1 - 1) = (j : Int) := by rw [show (j : Int) + 1 - 1 = (j : Int) from by omega]; exact IntWalk.i64_in _ (by omega)
      have s0 : w.heap.size < gr := by omega
      have HJ := hid hj
      have HP1 := hid hp1
      have HP3 := hid hp3
      clear hj hp1 hp3
      have i1 : (0 : Int) ≤ (p1 : Int) ∧ (p1 : Int) ≤ (p1 : Int) + (wn : Int) ∧ (p1 : Int) + (wn : Int) ≤ (n : Int) := by omega
      have i3 : (0 : Int) ≤ (p3 : Int) ∧ (p3 : Int) ≤ (p3 : Int) + (wn : Int) ∧ (p3 : Int) + (wn : Int) ≤ (n : Int) := by omega
      have hn1 : ¬ n = p1 := by omega
      have hn3 : ¬ n = p3 := by omega
      have tn1 : ((p1 : Int) + (wn : Int)).toNat - p1 = wn := by omega
      have tn3 : ((p3 : Int) + (wn : Int)).toNat - p3 = wn := by omega
      go_wp2_with fail
      refine wp_region_tree (S := (fun w' => ∃ e, w' = laterB (gr) wr e)) (.lt 0 (.lt 1 (.lt 2 (.lt 3 (.lt 4 (.lt 5 (.lt 6 (.lt 7 (.lt 8 (.lt 9 (.lt 10 (.lt 11 (.lt 12 (.lt 13 (.lt 14 (.lt 15 (.lt 16 (.lt 17 (.lt 18 (.hv 19 .nil)))))))))))))))))))) (by kernel_rfl) (by kernel_rfl) (fun _ _ d _ _ h => by cases d <;> exact h) ⟨_, (laterB_of (by repeat (first | (with_reducible assumption) | (with_reducible exact (below_later _ _).mono (by omega)) | (with_reducible exact Below.refl _ _) | (with_reducible refine Below.drew ?_) | (with_reducible refine Below.setCell ?_ (by first | omega | (simp; done) | (simp; omega)) _) | (with_reducible refine Below.alloc ?_ (by first | omega | (simp; omega) | (have := (below_later wr nx).size; simp; omega)) _)))).symm⟩ ?_
      simp only [pickT, List.filterMap_cons, List.filterMap_nil, List.getElem?_cons_succ, List.getElem?_cons_zero, Option.map_some]
      repeat' (first
        | (with_reducible refine wpTr_hv2 ?_ ?_)
        | ((with_reducible refine wpTr_lt (fun K hK => ?_)); go_simp; (first | (with_reducible refine hK _ ?_) | (rw [if_neg (by intro h; cases h)]; with_reducible refine hK _ ?_)); clear hK K)
        | ((with_reducible refine wpTr_hv (fun K L hK hL => ?_)); go_simp; (first | (with_reducible refine hL _ ?_) | (rw [if_neg (by intro h; cases h)]; with_reducible refine hL _ ?_)); clear hK hL K L)
        | ((with_reducible refine wpTr_hv (fun K L hK hL => ?_)); go_simp; (with_reducible refine hK _ _ ?_ ?_); (focus (exact ⟨_, (laterB_of (by repeat (first | (with_reducible assumption) | (with_reducible exact (below_later _ _).mono (by omega)) | (with_reducible exact Below.refl _ _) | (with_reducible refine Below.drew ?_) | (with_reducible refine Below.setCell ?_ (by first | omega | (simp; done) | (simp; omega)) _) | (with_reducible refine Below.alloc ?_ (by first | omega | (simp; omega) | (have := (below_later wr nx).size; simp; omega)) _)))).symm⟩)); clear hK hL K L))
      refine wpTr_hv (fun K L hK hL => ?_)
      have hcs : (chunk wn j news).length = wn := chunk_length wn j q news (by rw [HL.out]; exact HQ.out) hjq
      refine step_copy_splice rfl (.tmp 34) (.tmp 44) 46 46 rfl 29 Try.underlying46 (by rw [HI.out, Option.map_some, HZ1.out]) (some ⟨gr, p1, none⟩) (some ⟨g, p3, none⟩) wn (n - p1) wn (n - p3) rfl rfl gr p1 cur 29 hh.out (chunk wn j news) (by rw [hcs]; exact (Nat.min_self wn).symm) (fun _ => ⟨rfl, _, rfl, fun jj v hv => ?_⟩) (by rw [hcs, hcl]; exact hp2) (fun v hv => ?_) gr wr ((Below.refl _ _).drew) (Nat.le_refl _) ?_
      · rw [add_plain0]
        unfold chunk at hv
        rw [List.getElem?_take] at hv
        split at hv
        · rw [List.getElem?_drop, ← HP3.out] at hv
          exact (HBr.out.cell (p := ⟨g, p3 + jj, none⟩) hg).trans (HRN.out _ _ hv)
        · cases hv
      · exact H1.out v (List.mem_of_mem_drop (List.mem_of_mem_take hv))
      · intro w4 hh4 hb4
        refine hK _ _ ⟨_, (laterB_of hb4).symm⟩ ?_
        refine wpTr_nil ?_
        have s1 : w.heap.size + 1 < gr := hgl
        have e0 := (hb4.cell (p := ⟨w.heap.size, 0, none⟩) s0).trans a0
        have e1 := (hb4.cell (p := ⟨w.heap.size, 1, none⟩) s0).trans a1
        have e2 := (hb4.cell (p := ⟨w.heap.size + 1, 0, none⟩) s1).trans d0
        have e3 := (hb4.cell (p := ⟨w.heap.size + 1, 1, none⟩) s1).trans d1
        have e4 := (hb4.frozen (p := ⟨w.heap.size + 1, 0, none⟩) s1).trans t0
        have e5 := (hb4.frozen (p := ⟨w.heap.size + 1, 1, none⟩) s1).trans t1
        have hgw4 : gr < w4.heap.size := Nat.lt_of_lt_of_le hgw hb4.size
        have HB4 := hid (HBr.out.trans (hb4.mono (by omega)))
        have hl4 : (splice cur p1 (chunk wn j news)).length = n := by rw [length_splice _ _ _ (by rw [hcs, hcl]; exact hp2), hcl]
        have HT : Hid ((splice cur p1 (chunk wn j news)).take ((i + 1) * wn) = revP wn q news (i + 1)) := hid (by
          rw [revP_succ, ← hpre.out, ← HP1.out, ← HJ.out]
          unfold splice
          have hlp : (cur.take p1).length = p1 := by rw [List.length_take]; exact Nat.min_eq_left (by omega)
          rw [← List.append_assoc, List.take_append_of_le_length (by rw [List.length_append, hlp, hcs, Nat.succ_mul, ← HP1.out]; exact Nat.le_refl _), List.take_of_length_le (by rw [List.length_append, hlp, hcs, Nat.succ_mul, ← HP1.out]; exact Nat.le_refl _)])
        clear hb4 hK hL K L
        go_wp2_with fail
        go_roundw
        case rel => exact ⟨i + 1, _, by omega, by go_num, hh4, hl4, HT, hgw4, HB4.out, row2.2 ⟨by go_cell, by go_cell, trivial⟩, row2.2 ⟨by go_cell, by go_cell, trivial⟩, mkF2 (by go_cell) (by go_cell)⟩
        case measure => simp [intOf]; omega
    · have hiq : i = q := by omega
      have HRV : Hid (RowOf wr gr (revP wn q news q)) := hid (by
        have h1 := hpre.out
        rw [hiq, ← HQ.out, List.take_of_length_le (by omega)] at h1
        rw [← h1]
        exact cell_of_heap hh.out)
      have hg2 : ¬ w.heap.size + 1 = gr := by omega
      go_wp2_with fail
      refine bodyPost_ret (ret1 (b := w.heap.size + 1) (cs := [.int .u8 dm, .slice (some ⟨gr, 0, none⟩) n n]) Try.results113 rfl Try.underlying94 rfl (by kernel_rfl) ⟨by go_cell, by go_cell, trivial⟩) rfl ?_
      refine ⟨gr, rfl, ?_, by omega, by simp; omega, by
        have hB := HBr.out
        repeat' (first | (with_reducible exact hB) | (with_reducible refine Below.setCell ?_ ?_ _) | (with_reducible refine Below.alloc ?_ ?_ _) | (with_reducible refine Below.drew ?_) | (with_reducible exact hB.size) | omega | (simp; done) | (simp; omega))⟩
      repeat' (first | (with_reducible exact HRV.out) | (with_reducible refine RowOf.setCell ?_ ?_) | assumption)
end Go.Proofs.Ytbcjlgkdmkehlaa
