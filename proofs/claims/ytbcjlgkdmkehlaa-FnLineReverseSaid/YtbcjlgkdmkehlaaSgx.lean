/- X and Y of a place of a sequence, and the panic that is met where there is no such place. Condition: an index from -1000000 to 1000000. -/
import Derived.Test.YtbcjlgkdmkehlaaRows
import Derived.Test.YtbcjlgkdmkehlaaTre
import Derived.Test.YtbcjlgkdmkehlaaGln
import Derived.Laws.NewFold
namespace Go.Proofs.Ytbcjlgkdmkehlaa
open Go.ChangeShapes Go.WideShapes Go.ChangeAt Go.RowKit
set_option maxRecDepth 100000
set_option linter.unusedSimpArgs false
theorem outOf (P : Program) (x n : Int) : ∃ (V : World → Value) (W : World → World), (∀ w, (boundsPanic .i64 x n .index : Sem Value).run P w = .halt (.panic (.iface P.rt.boundsError (V w))) (W w)) ∧ ∀ B w, Below B w (W w) := by
  have h : ∀ w : World, ∃ p : Value × World, (boundsPanic .i64 x n .index : Sem Value).run P w = .halt (.panic (.iface P.rt.boundsError p.1)) p.2 ∧ ∀ B, Below B w p.2 := by
    intro w
    unfold boundsPanic
    split
    · simp [runtimePanic, goPanic, go_sem]
      exact ⟨_, _, ⟨rfl, rfl⟩, fun B => (Below.refl _ _).drew⟩
    · simp [runtimePanic, goPanic, go_sem]
      exact ⟨_, _, ⟨rfl, rfl⟩, fun B => Below.refl _ _⟩
  obtain ⟨f, hf⟩ := Classical.axiomOfChoice h
  exact ⟨fun w => (f w).1, fun w => (f w).2, fun w => (hf w).1, fun B w => (hf w).2 B⟩
/-- what a call says that runs out of bounds -/
def OutPanics (w : World) (e : Ending) (w' : World) : Prop := ∃ t v, e = .panicked [{ v := .iface t v, recovered := false }] ∧ Below w.heap.size w w'
theorem getXYout (d : Int) (h : isDim d) (g n cp q : Nat) (hq : n = q * widthN d) (i : Int) (hi : -1000000 ≤ i ∧ i ≤ 1000000) (ho : i < 0 ∨ (q : Int) ≤ i) (w : World) :
    Calls Try.prog 69 #[sv d (some ⟨g, 0, none⟩) n cp, .int .i64 i] w (OutPanics w) := by
  have D := dimension d h
  have hw : widthI d = (widthN d : Int) := by rcases h with rfl | rfl | rfl | rfl <;> rfl
  rw [hw] at D
  have hwp := widthN_pos d
  obtain ⟨x, hx⟩ : ∃ x : Int, x = i * (widthN d : Int) := ⟨_, rfl⟩
  have hxo : x + 1 < 0 ∨ (n : Int) ≤ x := by
    rcases ho with h0 | h0
    · have : i * (widthN d : Int) ≤ -1 * (widthN d : Int) := Int.mul_le_mul_of_nonneg_right (by omega) (by omega)
      left; omega
    · have : (q : Int) * (widthN d : Int) ≤ i * (widthN d : Int) := Int.mul_le_mul_of_nonneg_right h0 (by omega)
      right; rw [hx, hq, Int.natCast_mul]; exact this
  have hxb : -4000000 ≤ x ∧ x ≤ 4000000 := by
    have h1 : i * (widthN d : Int) ≤ 1000000 * (widthN d : Int) := Int.mul_le_mul_of_nonneg_right hi.2 (by omega)
    have h2 : -1000000 * (widthN d : Int) ≤ i * (widthN d : Int) := Int.mul_le_mul_of_nonneg_right hi.1 (by omega)
    omega
  have HM : Hid (IntKind.i64.wrap (i * (widthN d : Int)) = x) := hid (by rw [← hx]; exact IntWalk.i64_in _ (by omega))
  have j4 : IntKind.i64.wrap (x + 1) = x + 1 := IntWalk.i64_in _ (by omega)
  have n0 : ¬ ((0 : Int) ≤ x ∧ x < (n : Int)) := by omega
  have n1 : ¬ ((0 : Int) ≤ x + 1 ∧ x + 1 < (n : Int)) := by omega
  obtain ⟨V, W, hV, hW⟩ := outOf Try.prog x n
  obtain ⟨V', W', hV', hW'⟩ := outOf Try.prog (x + 1) n
  replace hW := hid hW
  replace hW' := hid hW'
  generalize widthN d = wn at *
  unfold sv
  replace D := hid D
  clear hw hq ho hxo hxb hx hi hwp
  go_enter Try.func69, Try.ntmps69
  go_wp2_with fail
  refine lettered (R := fun wz => Calls _ _ _ wz _) (fun wz => wz.cell? ⟨w.heap.size, 0, none⟩ = some (.int .u8 d) ∧ wz.cell? ⟨w.heap.size, 1, none⟩ = some (.slice (some ⟨g, 0, none⟩) n cp) ∧ wz.cell? ⟨w.heap.size + 1, 0, none⟩ = some (.float .f64 0) ∧ wz.cell? ⟨w.heap.size + 1, 1, none⟩ = some (.float .f64 0) ∧ wz.frozen? ⟨w.heap.size + 1, 0, none⟩ = false ∧ wz.frozen? ⟨w.heap.size + 1, 1, none⟩ = false ∧ w.heap.size + 2 ≤ wz.heap.size ∧ Below w.heap.size w wz) ⟨by go_cell, by go_cell, by go_cell, by go_cell, by go_cell, by go_cell, by simp, by go_grown⟩ ?_
  rintro wz ⟨c00, c01, c10, c11, z10, z11, hsz, hb⟩
  have HB := hid hb
  clear hb
  go_wp2_with (first | (go_at_call 104; (with_reducible refine (D.out _).mono ?_); rintro e w' ⟨rfl, hbl⟩; obtain ⟨nx, rfl⟩ := later1 (lat (wz := wz) (by repeat (first | (with_reducible exact below_later _ _) | (with_reducible exact Below.refl _ _) | (with_reducible assumption) | (with_reducible refine Below.drew ?_) | (with_reducible refine Below.alloc ?_ (by (first | (with_reducible exact Nat.le_refl _) | (with_reducible exact (below_later _ _).size) | omega | (simp; done) | (simp; omega))) _))) hbl); clear hbl))
  obtain ⟨ny, hny⟩ : ∃ ny, ny = nx := ⟨_, rfl⟩
  have hmm := HM.out
  refine wp_region_tree (S := (fun w' => ∃ e, w' = later wz e)) (.lt 0 (.lt 1 (.lt 2 (.lt 3 (.lt 4 (.lt 7 (.lt 8 (.lt 9 (.lt 10 (.lt 11 (.lt 12 (.hv2 5 (.lt 6 (.hv 13 (.lt 14 (.lt 15 (.hv 16 (.nil)))))) 13 (.lt 14 (.hv 5 (.lt 6 (.lt 15 (.hv 16 (.nil)))))))))))))))))) (by kernel_rfl) (by kernel_rfl) (fun _ _ d _ _ h => by cases d <;> exact h) ⟨_, (later_of (by repeat (first | (with_reducible exact below_later _ _) | (with_reducible exact Below.refl _ _) | (with_reducible assumption) | (with_reducible refine Below.drew ?_) | (with_reducible refine Below.alloc ?_ (by (first | (with_reducible exact Nat.le_refl _) | (with_reducible exact (below_later _ _).size) | omega | (simp; done) | (simp; omega))) _)))).symm⟩ ?_
  simp only [pickT, List.getElem?_cons_succ, List.getElem?_cons_zero]
  repeat' (first
    | (with_reducible refine wpTr_hv2 ?_ ?_)
    | ((with_reducible refine wpTr_lt (fun K hK => ?_)); go_simp; (first | (with_reducible refine hK _ ?_) | (rw [if_neg (by intro h; cases h)]; with_reducible refine hK _ ?_)); clear hK K)
    | ((with_reducible refine wpTr_hv (fun K L hK hL => ?_)); go_simp; (first | (with_reducible refine hL _ ?_) | (rw [if_neg (by intro h; cases h)]; with_reducible refine hL _ ?_)); clear hK hL K L)
    | ((with_reducible refine wpTr_hv (fun K L hK hL => ?_)); go_simp; (with_reducible refine hK _ _ ?_ ?_); (focus (exact ⟨_, (later_of (by repeat (first | (with_reducible exact below_later _ _) | (with_reducible exact Below.refl _ _) | (with_reducible assumption) | (with_reducible refine Below.drew ?_) | (with_reducible refine Below.alloc ?_ (by (first | (with_reducible exact Nat.le_refl _) | (with_reducible exact (below_later _ _).size) | omega | (simp; done) | (simp; omega))) _)))).symm⟩)); clear hK hL K L))
  all_goals
    refine wpTr_hv (fun K L hK hL => ?_)
    clear hK hL
    go_simp
    first
    | exact ⟨rfl, _, _, rfl, HB.out.trans (((below_later _ _).drew.trans (hW.out _ _)).mono HB.out.size)⟩
    | exact ⟨rfl, _, _, rfl, HB.out.trans (((below_later _ _).drew.trans (hW'.out _ _)).mono HB.out.size)⟩
theorem lineOf (d : Int) (nad : Option Addr) (ncp : Nat) (xs : List Nat) (kad : Option Addr) (kl kcp : Nat) (hxl : xs.length < 2000) (w : World) (hF : FRow w nad xs) :
    Calls Try.prog 67 #[gv 2 d nad xs.length ncp kad kl kcp] w fun e w' => ∃ g, e = .returned (sv (d % 4) (some ⟨g, 0, none⟩) (xs.length / widthN d * widthN d) (xs.length / widthN d * widthN d)) ∧ RowOf w' g ((xs.take (xs.length / widthN d * widthN d)).map (Value.float .f64)) ∧ w.heap.size ≤ g ∧ g < w'.heap.size ∧ Below w.heap.size w w' := by
  refine line d nad xs.length ncp kad kl kcp _ _ w fun w2 hb2 => ?_
  by_cases hq0 : xs.length / widthN d = 0
  · rw [hq0, Nat.zero_mul]
    exact (sequence0 d nad ncp xs hxl hq0 w2).mono fun e w3 ⟨g, a, b, c, e'⟩ => ⟨g, a, fun j u hu => by simp at hu, b, c, e'⟩
  · have hwp := widthN_pos d
    have hq2m : xs.length / widthN d * 2 ≤ xs.length / widthN d * widthN d := Nat.mul_le_mul_left _ hwp.1
    have h0 : 0 < xs.length := by
      have := Nat.div_mul_le_self xs.length (widthN d)
      omega
    obtain ⟨b, off, rfl, _⟩ := hF 0 _ (List.getElem?_eq_getElem h0)
    exact sequenceC d b off ncp xs hxl _ _ rfl rfl (by omega) w2 (hF.below hb2)
theorem coords (d : Int) (ad : Option Addr) (n cp : Nat) (w : World) : Calls Try.prog 68 #[sv d ad n cp] w fun e w' => e = .returned (sv d ad n cp) ∧ Below w.heap.size w w' := by
  unfold sv
  go_enter Try.func68, Try.ntmps68
  go_wp2_with fail
  refine bodyPost_ret (ret1 (b := w.heap.size + 1) (cs := [.int .u8 d, .slice ad n cp]) Try.results68 rfl Try.underlying94 rfl (by kernel_rfl) ⟨by go_cell, by go_cell, trivial⟩) rfl ?_
  exact ⟨rfl, by go_grown⟩
theorem plainXYs (x y : Nat) (w : World) : Calls Try.prog 64 #[.agg #[.float .f64 x, .float .f64 y]] w fun e w' => e = .returned (.agg #[.float .f64 x, .float .f64 y]) ∧ Below w.heap.size w w' := by
  go_enter Try.func64, Try.ntmps64
  go_wp2_with fail
  refine bodyPost_ret (ret1 (b := w.heap.size + 1) (cs := [.float .f64 x, .float .f64 y]) Try.results64 rfl Try.underlying32 rfl (by kernel_rfl) ⟨by go_cell, by go_cell, trivial⟩) rfl ?_
  exact ⟨rfl, by go_grown⟩
end Go.Proofs.Ytbcjlgkdmkehlaa
