/- The laws' least box around places, place by place; the box of an envelope's two corners. -/
import Derived.Test.YtbcjlgkdmkehlaaRows
import Derived.Test.YtbcjlgkdmkehlaaEnvc
namespace Go.Proofs.Ytbcjlgkdmkehlaa
open Go.ChangeShapes Go.WideShapes Go.ChangeAt Go.RowKit Fl
set_option maxRecDepth 100000
abbrev ltV (a b : Nat) : Bool := FloatKind.f64.format.order a b == some .lt
abbrev gtV (a b : Nat) : Bool := FloatKind.f64.format.order a b == some .gt
/-- an envelope as plain data has it -/
def EV.p (e : EV) : Value := .agg #[.bool e.full, .float .f64 e.lx, .float .f64 e.ly, .float .f64 e.hx, .float .f64 e.hy]
def EV.stepO (e : EV) (x y : Nat) : EV := if e.full then ⟨if ltV x e.lx then x else e.lx, if ltV y e.ly then y else e.ly, if gtV x e.hx then x else e.hx, if gtV y e.hy then y else e.hy, true⟩ else ⟨x, y, x, y, true⟩
def EV.foldO (px py : Nat → Nat) : Nat → EV
  | 0 => EV.none
  | k + 1 => (EV.foldO px py k).stepO (px k) (py k)
def EVp (e : EV) : List Value := [.bool e.full, .float .f64 e.lx, .float .f64 e.ly, .float .f64 e.hx, .float .f64 e.hy]
def EOfRel (w : World) (e : EV) (wr : World) : Prop :=
  w.heap.size + 2 ≤ wr.heap.size ∧ Below w.heap.size w wr ∧ RowAt wr (w.heap.size + 1) 0 (EVp e) ∧ FreeAt wr (w.heap.size + 1) 5 ∧ RowAt wr w.heap.size 0 (EVp EV.none) ∧ FreeAt wr w.heap.size 5
set_option maxHeartbeats 4000000 in
theorem eOf (b off n c : Nat) (px py : Nat → Nat) (hn : n ≤ 9223372036854775807) (w : World) (hp : XYsAt w b off n px py) (hb : b < w.heap.size) :
    Calls Try.prog 51 #[.slice (some ⟨b, off, none⟩) n c] w fun e w' => e = .returned (EV.foldO px py n).p ∧ Below w.heap.size w w' := by
  have HP := hid hp
  clear hp
  go_enter Try.func51, Try.ntmps51
  go_wp2_with fail
  go_loopw [8] (fun i wr => ∃ k : Nat, k ≤ n ∧ i = .int .i64 k ∧ EOfRel w (EV.foldO px py k) wr) (fun i _ => n - (intOf i).toNat)
  case atStart =>
    refine ⟨0, Nat.zero_le _, rfl, by simp, by go_grown, show RowAt _ _ 0 [.bool false, .float .f64 0, .float .f64 0, .float .f64 0, .float .f64 0] from row5.2 ⟨by go_cell, by go_cell, by go_cell, by go_cell, by go_cell, trivial⟩, ?_, show RowAt _ _ 0 [.bool false, .float .f64 0, .float .f64 0, .float .f64 0, .float .f64 0] from row5.2 ⟨by go_cell, by go_cell, by go_cell, by go_cell, by go_cell, trivial⟩, ?_⟩
    · intro i hi; simp [go_sem]
    · intro i hi; simp [go_sem]
  case round =>
    obtain ⟨k, hk, rfl, hsz, hbl, r1, f1, r0, f0⟩ := hrel
    obtain ⟨c10, c11, c12, c13, c14, -⟩ := row5.1 r1
    obtain ⟨c00, c01, c02, c03, c04, -⟩ := row5.1 r0
    obtain ⟨z10, z11, z12, z13, z14⟩ := free5 f1
    obtain ⟨z00, z01, z02, z03, z04⟩ := free5 f0
    clear r0 r1
    have F0 := hid f0
    have F1 := hid f1
    clear f0 f1
    have hB := hid hbl
    have q0 : w.heap.size < wr.heap.size := by omega
    have q1 : w.heap.size + 1 < wr.heap.size := by omega
    have q0' : ¬ w.heap.size = wr.heap.size := by omega
    have q1' : ¬ w.heap.size + 1 = wr.heap.size := by omega
    by_cases hlt : k < n
    · have hx : wr.cell? ⟨b, off + k * 2, none⟩ = some (.float .f64 (px k)) := by
        rw [hbl.cell (p := ⟨b, off + k * 2, none⟩) hb]; exact (HP.out k hlt).1
      have hy : wr.cell? ⟨b, off + k * 2 + 1, none⟩ = some (.float .f64 (py k)) := by
        rw [hbl.cell (p := ⟨b, off + k * 2 + 1, none⟩) hb]; exact (HP.out k hlt).2
      clear hbl
      have S : EV.foldO px py (k + 1) = (EV.foldO px py k).stepO (px k) (py k) := rfl
      generalize hf : EV.foldO px py k = e at *
      obtain ⟨lx, ly, hx', hy', fb⟩ := e
      clear hf
      generalize px k = x at *
      generalize py k = y at *
      simp only [EV.none] at *
      unfold EV.stepO at S
      dsimp only at S
      cases fb
      · rw [if_neg Bool.false_ne_true] at S
        replace S := hid S
        go_wp2_with fail
        go_roundw
        case rel =>
          refine ⟨k + 1, by omega, by go_num, ?_⟩
          rw [S.out]
          refine ⟨by simp; omega, by repeat' (first | (with_reducible exact hB.out) | (with_reducible refine Below.setCell ?_ ?_ _) | (with_reducible refine Below.alloc ?_ ?_ _) | omega | (simp; done) | (simp; omega)), show RowAt _ _ 0 [.bool true, .float .f64 x, .float .f64 y, .float .f64 x, .float .f64 y] from row5.2 ⟨by go_cell, by go_cell, by go_cell, by go_cell, by go_cell, trivial⟩, ?_, show RowAt _ _ 0 [.bool false, .float .f64 0, .float .f64 0, .float .f64 0, .float .f64 0] from row5.2 ⟨by go_cell, by go_cell, by go_cell, by go_cell, by go_cell, trivial⟩, ?_⟩
          · intro i hi
            have h9 := F1.out i hi
            simp [go_sem, q1, h9]
          · intro i hi
            have h9 := F0.out i hi
            simp [go_sem, q0, h9]
        case measure => simp [intOf]; omega
      · rw [if_pos rfl] at S
        generalize h1 : ltV x lx = g1 at *
        generalize h2 : gtV x hx' = g2 at *
        generalize h3 : ltV y ly = g3 at *
        generalize h4 : gtV y hy' = g4 at *
        unfold ltV at h1 h3
        unfold gtV at h2 h4
        cases g1 <;> cases g2 <;> cases g3 <;> cases g4
        all_goals
          simp only [if_true, Bool.false_eq_true, if_false] at S
          replace S := hid S
          go_wp2_with fail
          go_roundw
          case rel =>
            refine ⟨k + 1, by omega, by go_num, ?_⟩
            rw [S.out]
            refine ⟨by simp; omega, by repeat' (first | (with_reducible exact hB.out) | (with_reducible refine Below.setCell ?_ ?_ _) | (with_reducible refine Below.alloc ?_ ?_ _) | omega | (simp; done) | (simp; omega)), row5.2 ⟨by go_cell, by go_cell, by go_cell, by go_cell, by go_cell, trivial⟩, ?_, show RowAt _ _ 0 [.bool false, .float .f64 0, .float .f64 0, .float .f64 0, .float .f64 0] from row5.2 ⟨by go_cell, by go_cell, by go_cell, by go_cell, by go_cell, trivial⟩, ?_⟩
            · intro i hi
              have h9 := F1.out i hi
              simp [go_sem, q1, h9]
            · intro i hi
              have h9 := F0.out i hi
              simp [go_sem, q0, h9]
          case measure => simp [intOf]; omega
    · have e : k = n := by omega
      subst e
      simp only [EV.none] at *
      clear hbl
      go_wp2_with fail
      refine bodyPost_ret (ret1 (b := w.heap.size) (cs := [.bool (EV.foldO px py k).full, .float .f64 (EV.foldO px py k).lx, .float .f64 (EV.foldO px py k).ly, .float .f64 (EV.foldO px py k).hx, .float .f64 (EV.foldO px py k).hy]) Try.results51 rfl Try.underlying68 rfl (by kernel_rfl) ⟨by go_cell, by go_cell, by go_cell, by go_cell, by go_cell, trivial⟩) rfl ?_
      exact ⟨rfl, by repeat' (first | (with_reducible exact hB.out) | (with_reducible refine Below.setCell ?_ ?_ _) | (with_reducible refine Below.alloc ?_ ?_ _) | omega | (simp; done) | (simp; omega))⟩
end Go.Proofs.Ytbcjlgkdmkehlaa
