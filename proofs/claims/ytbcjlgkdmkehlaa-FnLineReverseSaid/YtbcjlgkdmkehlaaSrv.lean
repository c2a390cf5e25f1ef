/- The laws' reverse of a line string: its places in reverse order. Condition: at most 2000 numbers, no parts. -/
import Derived.Test.YtbcjlgkdmkehlaaRows
import Derived.Test.YtbcjlgkdmkehlaaNms
import Derived.Test.YtbcjlgkdmkehlaaTre
namespace Go.Proofs.Ytbcjlgkdmkehlaa
open Go.ChangeShapes Go.WideShapes Go.ChangeAt Go.RowKit
set_option maxRecDepth 100000
set_option linter.unusedSimpArgs false
/-- an append as one step of a region -/
theorem step_append_own {P : Program} {ops : Array Oper} {o : Oper} {a : Act} {w : World} {K : Act → World → Prop} {Q : Exit → Act → World → Prop} {E : Prop} (hgd : o.guard = none) (s x : Operand) (t : TypeId)
    (ho : o.op = .call { callee := .builtin .append, args := #[s, x], argTypes := #[t, t] })
    (base : Nat) (e : TypeId) (i : TypeInfo) (z : Value) (size bytes : Nat) (ht : P.underlying t = some (.slice e)) (hi : P.info? e = some i) (hz : i.zero = some z)
    (hsize : i.size = size) (hby : i.bytes = bytes) (hzs : z.cells.size = size) (hsz : 0 < size)
    (v : Value) (n : Nat) (xs : List Value) (hs : a.eval s = v) (hown : w.ownsRow base e size v n xs)
    (ad : Addr) (m c : Nat) (news : List Value) (hx : a.eval x = .slice (some ad) m c) (hl : news.length = m * size) (hnews : ∀ j u, news[j]? = some u → w.cell? (ad.add j) = some u) (h1 : ∀ u ∈ news, u.oneCell' = true)
    (h63 : n + m ≤ maxLen) (hbytes : (n + m) * bytes ≤ 140737488355328) (hbase : base ≤ w.heap.size)
    (h : ∀ v' w', w'.ownsRow base e size v' (n + m) (xs ++ news) → w.grownBy w' v.ownBlock → K (a.put o.dst v') w') :
    if Region.wanted o (yielded ops a.tmps) = true then Oper.wp P o a w K Q else E := by
  have hw : Region.wanted o (yielded ops a.tmps) = true := by simp [Region.wanted, hgd]
  rw [if_pos hw]
  obtain ⟨v', w', hr, h2, h3, h4, h5⟩ := run_append_own_at (P := P) w base t o.type e i z size bytes ht hi hz hsize hby hzs hsz v n xs hown ad m c news hl hnews h1 h63 hbytes hbase
  unfold Oper.wp execOp
  simp only [ho, resolve, invoke, builtin, Sem.run_bind, Sem.run_pure, Result.andThen_ok, List.map_toArray, List.map_cons, List.map_nil, hs, hx, hr]
  exact h v' w' h2 h3
/-- rows of places by their cells -/
def C4At (lo : Nat) (w : World) (a : Option Addr) (q : Nat) (X Y Z M : Nat → Nat) : Prop := ∀ i, i < q → ∃ g, a = some ⟨g, 0, none⟩ ∧ lo ≤ g ∧ w.cell? ⟨g, i * 4, none⟩ = some (.float .f64 (X i)) ∧ w.cell? ⟨g, i * 4 + 1, none⟩ = some (.float .f64 (Y i)) ∧ w.cell? ⟨g, i * 4 + 2, none⟩ = some (.float .f64 (Z i)) ∧ w.cell? ⟨g, i * 4 + 3, none⟩ = some (.float .f64 (M i))
/-- the first i places of the reverse order -/
def bk (q : Nat) (f : Nat → List Value) (i : Nat) : List Value := (List.range i).flatMap (fun j => f (q - 1 - j))
theorem bk_succ (q : Nat) (f : Nat → List Value) (i : Nat) : bk q f (i + 1) = bk q f i ++ f (q - 1 - i) := by
  unfold bk
  rw [List.range_succ, List.flatMap_append, List.flatMap_singleton]
set_option maxHeartbeats 8000000 in
theorem specRev (dm : Int) (ad : Option Addr) (m cp q wn : Nat) (hq : q < 2000) (hwn0 : 0 < wn) (hwn : wn ≤ 4) (X Y Z M : Nat → Nat) (f : Nat → List Value) (w : World)
    (hf : ∀ k, k < q → (f k).length = wn) (h1 : ∀ k, k < q → ∀ u ∈ f k, u.oneCell' = true)
    (hP : ∀ w', Below w.heap.size w w' → Calls Try.prog 36 #[.slice ad m cp, .int .i64 dm] w' fun e w'' => ∃ a c, e = .returned (.slice a q c) ∧ q ≤ c ∧ C4At w'.heap.size w'' a q X Y Z M ∧ Below w'.heap.size w' w'')
    (hN : ∀ k (gp o cp : Nat) w', k < q → w'.cell? ⟨gp, o, none⟩ = some (.float .f64 (X k)) → w'.cell? ⟨gp, o + 1, none⟩ = some (.float .f64 (Y k)) → w'.cell? ⟨gp, o + 2, none⟩ = some (.float .f64 (Z k)) → w'.cell? ⟨gp, o + 3, none⟩ = some (.float .f64 (M k)) →
      Calls Try.prog 87 #[.slice (some ⟨gp, o, none⟩) 1 cp, .int .i64 dm] w' fun e w'' => ∃ v, e = .returned v ∧ w''.ownsRow w'.heap.size 29 1 v wn (f k) ∧ Below w'.heap.size w' w'') :
    Calls Try.prog 48 #[.agg #[.int .i64 2, .int .i64 dm, .slice ad m cp, .slice none 0 0]] w fun e w' => ∃ v B, e = .returned (.agg #[.int .i64 2, .int .i64 dm, v, .slice none 0 0]) ∧ w.heap.size ≤ B ∧ w'.ownsRow B 29 1 v (q * wn) (bk q f q) ∧ Below w.heap.size w w' := by
  obtain ⟨i0, hi, hz0, hz1, hz2⟩ := info_parts Try.info29
  have HI := hid hi
  have HZ0 := hid hz0
  have HZ1 := hid hz1
  have HZ2 := hid hz2
  replace hf := hid hf
  replace h1 := hid h1
  replace hP := hid hP
  replace hN := hid hN
  clear hi hz0 hz1 hz2
  go_enter Try.func48, Try.ntmps48
  go_wp2_with fail
  refine lettered (R := fun wz => Calls _ _ _ wz _) (fun wz => wz.cell? ⟨w.heap.size, 0, none⟩ = some (.int .i64 2) ∧ wz.cell? ⟨w.heap.size, 1, none⟩ = some (.int .i64 dm) ∧ wz.cell? ⟨w.heap.size, 2, none⟩ = some (.slice ad m cp) ∧ wz.cell? ⟨w.heap.size, 3, none⟩ = some (.slice none 0 0) ∧ wz.cell? ⟨w.heap.size + 1, 0, none⟩ = some (.int .i64 0) ∧ wz.cell? ⟨w.heap.size + 1, 1, none⟩ = some (.int .i64 0) ∧ wz.cell? ⟨w.heap.size + 1, 2, none⟩ = some (.slice none 0 0) ∧ wz.cell? ⟨w.heap.size + 1, 3, none⟩ = some (.slice none 0 0) ∧ wz.cell? ⟨w.heap.size + 1 + 1, 0, none⟩ = some (.int .i64 2) ∧ wz.cell? ⟨w.heap.size + 1 + 1, 1, none⟩ = some (.int .i64 dm) ∧ wz.cell? ⟨w.heap.size + 1 + 1, 2, none⟩ = some (.slice none 0 0) ∧ wz.cell? ⟨w.heap.size + 1 + 1, 3, none⟩ = some (.slice none 0 0) ∧ wz.frozen? ⟨w.heap.size + 1, 0, none⟩ = false ∧ wz.frozen? ⟨w.heap.size + 1, 1, none⟩ = false ∧ wz.frozen? ⟨w.heap.size + 1, 2, none⟩ = false ∧ wz.frozen? ⟨w.heap.size + 1, 3, none⟩ = false ∧ wz.frozen? ⟨w.heap.size + 1 + 1, 0, none⟩ = false ∧ wz.frozen? ⟨w.heap.size + 1 + 1, 1, none⟩ = false ∧ wz.frozen? ⟨w.heap.size + 1 + 1, 2, none⟩ = false ∧ wz.frozen? ⟨w.heap.size + 1 + 1, 3, none⟩ = false ∧ w.heap.size + 3 ≤ wz.heap.size ∧ Below w.heap.size w wz) ⟨by go_cell, by go_cell, by go_cell, by go_cell, by go_cell, by go_cell, by go_cell, by go_cell, by go_cell, by go_cell, by go_cell, by go_cell, by go_cell, by go_cell, by go_cell, by go_cell, by go_cell, by go_cell, by go_cell, by go_cell, by simp, by go_grown⟩ ?_
  rintro wz ⟨c00, c01, c02, c03, c10, c11, c12, c13, c20, c21, c22, c23, z10, z11, z12, z13, z20, z21, z22, z23, hsz, hb⟩
  have HB := hid hb
  clear hb
  have W1 : IntKind.i64.wrap ((q : Int) - 1) = (q : Int) - 1 := IntWalk.i64_in _ (by omega)
  go_wp2_with (first | (go_at_call 36; (with_reducible refine (hP.out _ HB.out).mono ?_); rintro e w' ⟨a, c, rfl, hqc, hc4, hbl⟩; obtain ⟨nx, rfl⟩ := later1 (lat (wz := wz) (by repeat (first | (with_reducible exact below_later _ _) | (with_reducible exact Below.refl _ _) | (with_reducible assumption) | (with_reducible refine Below.drew ?_) | (with_reducible refine Below.alloc ?_ (by (first | (with_reducible exact Nat.le_refl _) | (with_reducible exact (below_later _ _).size) | omega | (simp; done) | (simp; omega))) _))) hbl); clear hbl))
  refine lettered (R := fun wz2 => Code.wp _ _ _ _ wz2) (fun wz2 => wz2.cell? ⟨w.heap.size, 0, none⟩ = some (.int .i64 2) ∧ wz2.cell? ⟨w.heap.size, 1, none⟩ = some (.int .i64 dm) ∧ wz2.cell? ⟨w.heap.size, 2, none⟩ = some (.slice ad m cp) ∧ wz2.cell? ⟨w.heap.size, 3, none⟩ = some (.slice none 0 0) ∧ wz2.cell? ⟨w.heap.size + 1, 0, none⟩ = some (.int .i64 0) ∧ wz2.cell? ⟨w.heap.size + 1, 1, none⟩ = some (.int .i64 0) ∧ wz2.cell? ⟨w.heap.size + 1, 2, none⟩ = some (.slice none 0 0) ∧ wz2.cell? ⟨w.heap.size + 1, 3, none⟩ = some (.slice none 0 0) ∧ wz2.cell? ⟨w.heap.size + 1 + 1, 0, none⟩ = some (.int .i64 2) ∧ wz2.cell? ⟨w.heap.size + 1 + 1, 1, none⟩ = some (.int .i64 dm) ∧ wz2.cell? ⟨w.heap.size + 1 + 1, 2, none⟩ = some (.slice none 0 0) ∧ wz2.cell? ⟨w.heap.size + 1 + 1, 3, none⟩ = some (.slice none 0 0) ∧ wz2.frozen? ⟨w.heap.size + 1, 0, none⟩ = false ∧ wz2.frozen? ⟨w.heap.size + 1, 1, none⟩ = false ∧ wz2.frozen? ⟨w.heap.size + 1, 2, none⟩ = false ∧ wz2.frozen? ⟨w.heap.size + 1, 3, none⟩ = false ∧ wz2.frozen? ⟨w.heap.size + 1 + 1, 0, none⟩ = false ∧ wz2.frozen? ⟨w.heap.size + 1 + 1, 1, none⟩ = false ∧ wz2.frozen? ⟨w.heap.size + 1 + 1, 2, none⟩ = false ∧ wz2.frozen? ⟨w.heap.size + 1 + 1, 3, none⟩ = false ∧ C4At wz.heap.size wz2 a q X Y Z M ∧ w.heap.size + 1 + 1 < wz2.heap.size ∧ Below w.heap.size w wz2) ⟨by go_cell, by go_cell, by go_cell, by go_cell, by go_cell, by go_cell, by go_cell, by go_cell, by go_cell, by go_cell, by go_cell, by go_cell, by go_cell, by go_cell, by go_cell, by go_cell, by go_cell, by go_cell, by go_cell, by go_cell, hc4, by have := (below_later wz nx).size; omega, HB.out.trans ((below_later _ _).mono HB.out.size)⟩ ?_
  rintro wz2 ⟨c2_0_0, c2_0_1, c2_0_2, c2_0_3, c2_1_0, c2_1_1, c2_1_2, c2_1_3, c2_2_0, c2_2_1, c2_2_2, c2_2_3, z2_1_0, z2_1_1, z2_1_2, z2_1_3, z2_2_0, z2_2_1, z2_2_2, z2_2_3, hc4', hs2_0, hb⟩
  clear HB
  have HB := hid hb
  clear hb
  have HC4 := hid hc4'
  generalize wz.heap.size = lo at *
  clear hc4 hc4' c00 c01 c02 c03 c10 c11 c12 c13 c20 c21 c22 c23 z10 z11 z12 z13 z20 z21 z22 z23
  go_loopw [5] (fun iv wr => ∃ (k : Nat) (va : Option Addr) (vn vc : Nat), k ≤ q ∧ iv = .int .i64 ((q : Int) - 1 - (k : Int)) ∧ Hid (wr.ownsRow wz2.heap.size 29 1 (.slice va vn vc) (k * wn) (bk q f k)) ∧ wz2.heap.size ≤ wr.heap.size ∧ Below w.heap.size w wr ∧ Hid (C4At lo wr a q X Y Z M) ∧ RowAt wr (w.heap.size) 0 [.int .i64 2, .int .i64 dm, .slice ad m cp, .slice none 0 0] ∧ RowAt wr (w.heap.size + 1) 0 [.int .i64 0, .int .i64 0, .slice none 0 0, .slice none 0 0] ∧ FreeAt wr (w.heap.size + 1) 4 ∧ RowAt wr (w.heap.size + 1 + 1) 0 [.int .i64 2, .int .i64 dm, (.slice va vn vc), .slice none 0 0] ∧ FreeAt wr (w.heap.size + 1 + 1) 4) (fun iv _ => (intOf iv + 1).toNat)
  case atStart => exact ⟨0, none, 0, 0, Nat.zero_le _, by simp, hid (by rw [Nat.zero_mul]; exact World.ownsRow_nil _ _ _ _), Nat.le_refl _, HB.out, HC4, row4.2 ⟨by go_cell, by go_cell, by go_cell, by go_cell, trivial⟩, row4.2 ⟨by go_cell, by go_cell, by go_cell, by go_cell, trivial⟩, mkF4 (by go_cell) (by go_cell) (by go_cell) (by go_cell), row4.2 ⟨by go_cell, by go_cell, by go_cell, by go_cell, trivial⟩, mkF4 (by go_cell) (by go_cell) (by go_cell) (by go_cell)⟩
  case round =>
    obtain ⟨k, va, vn, vc, hkq, rfl, HO, hBw, hbl, hC, r1, r2, f2, r3, f3⟩ := hrel
    obtain ⟨a0, a1, a2, a3, -⟩ := row4.1 r1
    obtain ⟨d0, d1, d2, d3, -⟩ := row4.1 r2
    obtain ⟨t0, t1, t2, t3⟩ := free4 f2
    obtain ⟨p0, p1, p2, p3, -⟩ := row4.1 r3
    obtain ⟨y0, y1, y2, y3⟩ := free4 f3
    clear r1 r2 f2 r3 f3
    have HBr := hid hbl
    clear hbl
    by_cases hlt : k < q
    · obtain ⟨j, hj⟩ : ∃ j, j = q - 1 - k := ⟨_, rfl⟩
      have hjq : j < q := by omega
      have hji : (q : Int) - 1 - (k : Int) = (j : Int) := by omega
      rw [hji]
      obtain ⟨gp, rfl, hlo, u0, u1, u2, u3⟩ := hC.out j hjq
      obtain ⟨gp', hgp, _, x0, _, _, _⟩ := HC4.out j hjq
      cases hgp
      have hgz : gp < wz2.heap.size := World.block_lt_of_cell? _ _ x0
      clear x0
      have HNj := hid (fun o cp w' => hN.out j gp o cp w' hjq)
      have hfj := hf.out j hjq
      have h1j := hid (h1.out j hjq)
      have hkw : k * wn ≤ 2000 * 4 := Nat.mul_le_mul (by omega) hwn
      have HMX : Hid (k * wn + wn ≤ maxLen) := hid (by unfold maxLen; omega)
      have HBY : Hid ((k * wn + wn) * 8 ≤ 140737488355328) := hid (by omega)
      have HJ := hid hj
      have HJI := hid hji
      clear hj hji
      generalize X j = x at *
      generalize Y j = y at *
      generalize Z j = z at *
      generalize M j = mm at *
      have m1 : IntKind.i64.wrap ((j : Int) + 1) = (j : Int) + 1 := IntWalk.i64_in _ (by omega)
      have m2 : IntKind.i64.wrap ((j : Int) - 1) = (j : Int) - 1 := IntWalk.i64_in _ (by omega)
      have j0 : (0 : Int) ≤ (j : Int) := by omega
      have i1 : (0 : Int) ≤ (j : Int) ∧ (j : Int) ≤ (j : Int) + 1 ∧ (j : Int) + 1 ≤ (c : Int) := by omega
      have tn : ((j : Int) + 1).toNat - j = 1 := by omega
      have nc : ¬ c = j := by omega
      go_wp2_with fail
      have hA0 : w.heap.size < wr.heap.size := by omega
      have hA1 : w.heap.size + 1 < wr.heap.size := by omega
      have hA2 : w.heap.size + 1 + 1 < wr.heap.size := by omega
      refine wp_region_tree (S := fun _ => True) (.lt 0 (.lt 2 (.lt 3 (.lt 4 (.lt 5 (.lt 6 (.lt 7 (.soft [(1, 1), (8, 8), (9, 9)] [] (.hv 10 (.lt 11 (.hv 12 .nil))))))))))) (by kernel_rfl) (by kernel_rfl) (fun _ _ d _ _ h => by cases d <;> exact h) trivial ?_
      simp only [pickT, List.filterMap_cons, List.filterMap_nil, List.getElem?_cons_succ, List.getElem?_cons_zero, Option.map_some]
      repeat ((with_reducible refine wpTr_lt (fun K hK => ?_)); go_simp; (first | (with_reducible refine hK _ ?_) | (rw [if_neg (by intro h; cases h)]; with_reducible refine hK _ ?_)); clear hK K)
      refine wpTr_soft [1, 8, 9] (fun k v w' => if k = 1 then v = .slice va vn vc else if k = 8 then v = .int .i64 dm else if k = 9 then ∃ Bn, wr.heap.size ≤ Bn ∧ w'.ownsRow Bn 29 1 v wn (f j) else True) [] rfl ?_ ?_ ?_ ?_ ?_ ?_
      · rfl
      · intro p hp
        simp only [List.mem_cons, List.not_mem_nil, or_false] at hp
        rcases hp with rfl | rfl | rfl <;> rfl
      · intro k v a b hb h
        by_cases h1 : k = 1
        · rw [if_pos h1] at h ⊢; exact h
        rw [if_neg h1] at h ⊢
        by_cases h8 : k = 8
        · rw [if_pos h8] at h ⊢; exact h
        rw [if_neg h8] at h ⊢
        by_cases h9 : k = 9
        · rw [if_pos h9] at h ⊢; exact (let ⟨Bn, g1, g2⟩ := h; ⟨Bn, g1, own_below g2 hb⟩)
        rw [if_neg h9] at h ⊢
        trivial
      · intro p hp hnl u w' hbu hSu hd K hK
        have hb1 : Below wr.heap.size wr w' := by first | exact (below_later _ _).drew.trans (hbu.mono (below_later _ _).size) | exact (Below.refl _ _).drew.trans hbu | exact (below_later _ _).trans (hbu.mono (below_later _ _).size)
        have hb0 : Below w.heap.size w w' := HBr.out.trans (hb1.mono HBr.out.size)
        have hsz3 : wr.heap.size ≤ w'.heap.size := hb1.size
        have HS : ∀ w'', Below w'.heap.size w' w'' → True := fun _ _ => trivial
        clear hbu hSu
        simp only [List.mem_cons, List.not_mem_nil, or_false] at hp
        rcases hp with rfl | rfl | rfl
        · have e1 := (hb1.cell (p := ⟨w.heap.size + 1 + 1, 2, none⟩) hA2).trans p2
          have h := hK _ w' rfl (fun h => absurd h (by decide)) (Below.refl _ _) (HS _ (Below.refl _ _))
          simp [tmOf, Act.put, upd] at h ⊢
          go_simp
          exact h
        · have e1 := (hb1.cell (p := ⟨w.heap.size, 1, none⟩) hA0).trans a1
          have h := hK _ w' rfl (fun h => absurd h (by decide)) (Below.refl _ _) (HS _ (Below.refl _ _))
          simp [tmOf, Act.put, upd] at h ⊢
          go_simp
          exact h
        · have f8 : u 8 = .int .i64 dm := hd 8 (by decide) (by simp [Region.binds])
          simp [tmOf, Act.put, upd, f8]
          go_simp
          go_at_call 87
          refine (HNj.out (j * 4) (c - j) w' ((hb1.cell (World.block_lt_of_cell? _ _ u0)).trans u0) ((hb1.cell (World.block_lt_of_cell? _ _ u1)).trans u1) ((hb1.cell (World.block_lt_of_cell? _ _ u2)).trans u2) ((hb1.cell (World.block_lt_of_cell? _ _ u3)).trans u3)).mono ?_
          rintro e w'' ⟨vv, rfl, hov, hbl⟩
          have h := hK _ w'' (show ∃ Bn, wr.heap.size ≤ Bn ∧ w''.ownsRow Bn 29 1 vv wn (f j) from ⟨w'.heap.size, hsz3, hov⟩) (fun h => absurd h (by decide)) hbl (HS _ hbl)
          simp [tmOf, Act.put, upd, f8] at h
          exact h
      · intro p hp hli u w' hbu hSu hd
        simp only [List.mem_cons, List.not_mem_nil, or_false] at hp
        rcases hp with rfl | rfl | rfl
        · simp at hli
        · simp at hli
        · simp at hli
      · intro u w' hbu hSu hF hD
        conv => arg 6; simp [tmOf, Act.put]
        have hb1 : Below wr.heap.size wr w' := by first | exact (below_later _ _).drew.trans (hbu.mono (below_later _ _).size) | exact (Below.refl _ _).drew.trans hbu | exact (below_later _ _).trans (hbu.mono (below_later _ _).size)
        have hb0 : Below w.heap.size w w' := HBr.out.trans (hb1.mono HBr.out.size)
        have hsz3 : wr.heap.size ≤ w'.heap.size := hb1.size
        have f1 : u 1 = .slice va vn vc := hF 1 (by decide)
        have f8 : u 8 = .int .i64 dm := hF 8 (by decide)
        have f9 : ∃ Bn, wr.heap.size ≤ Bn ∧ w'.ownsRow Bn 29 1 (u 9) wn (f j) := hF 9 (by decide)
        obtain ⟨Bn, hbn, own9⟩ := f9
        obtain ⟨_, hv | ⟨g9, cap, cur, e9, hg9, _⟩⟩ := id own9
        · exact absurd hv.2 (by omega)
        rw [f1, f8, e9] 
        rw [e9] at own9
        have C9 := own9.cells (g := g9) rfl
        clear hF hD hbu hSu f1 f8 e9
        refine wpTr_hv (fun K L hK hL => ?_)
        refine step_append_own rfl (.tmp 26) (.tmp 34) 46 rfl wz2.heap.size 29 i0 _ 1 8 Try.underlying46 HI.out HZ0.out HZ1.out HZ2.out rfl (by decide) (.slice va vn vc) (k * wn) (bk q f k) rfl (own_below HO.out hb1) ⟨g9, 0, none⟩ wn cap (f j) rfl (by rw [hfj, Nat.mul_one]) C9 h1j.out HMX.out HBY.out (by omega) ?_
        intro v' w4 hown hgr
        obtain ⟨va', vn', vc', rfl⟩ := own_slice hown
        refine hK _ _ trivial ?_
        have HO4 := hid hown
        have hs4 := hgr.size
        have ne0 : some (w.heap.size) ≠ (Value.slice va vn vc).ownBlock := fun e => by have := (HO.out.lt (w.heap.size) e.symm).1; omega
        have q00 := hgr.cell ((hb1.cell (p := ⟨w.heap.size, 0, none⟩) hA0).trans a0) ne0
        have q01 := hgr.cell ((hb1.cell (p := ⟨w.heap.size, 1, none⟩) hA0).trans a1) ne0
        have q02 := hgr.cell ((hb1.cell (p := ⟨w.heap.size, 2, none⟩) hA0).trans a2) ne0
        have q03 := hgr.cell ((hb1.cell (p := ⟨w.heap.size, 3, none⟩) hA0).trans a3) ne0
        have ne1 : some (w.heap.size + 1) ≠ (Value.slice va vn vc).ownBlock := fun e => by have := (HO.out.lt (w.heap.size + 1) e.symm).1; omega
        have q10 := hgr.cell ((hb1.cell (p := ⟨w.heap.size + 1, 0, none⟩) hA1).trans d0) ne1
        have q11 := hgr.cell ((hb1.cell (p := ⟨w.heap.size + 1, 1, none⟩) hA1).trans d1) ne1
        have q12 := hgr.cell ((hb1.cell (p := ⟨w.heap.size + 1, 2, none⟩) hA1).trans d2) ne1
        have q13 := hgr.cell ((hb1.cell (p := ⟨w.heap.size + 1, 3, none⟩) hA1).trans d3) ne1
        have x10 := (World.frozen?_of_block (a := ⟨w.heap.size + 1, 0, none⟩) (hgr.block (w.heap.size + 1) (by have := hb1.size; omega) ne1)).trans ((hb1.frozen (p := ⟨w.heap.size + 1, 0, none⟩) hA1).trans t0)
        have x11 := (World.frozen?_of_block (a := ⟨w.heap.size + 1, 1, none⟩) (hgr.block (w.heap.size + 1) (by have := hb1.size; omega) ne1)).trans ((hb1.frozen (p := ⟨w.heap.size + 1, 1, none⟩) hA1).trans t1)
        have x12 := (World.frozen?_of_block (a := ⟨w.heap.size + 1, 2, none⟩) (hgr.block (w.heap.size + 1) (by have := hb1.size; omega) ne1)).trans ((hb1.frozen (p := ⟨w.heap.size + 1, 2, none⟩) hA1).trans t2)
        have x13 := (World.frozen?_of_block (a := ⟨w.heap.size + 1, 3, none⟩) (hgr.block (w.heap.size + 1) (by have := hb1.size; omega) ne1)).trans ((hb1.frozen (p := ⟨w.heap.size + 1, 3, none⟩) hA1).trans t3)
        have ne2 : some (w.heap.size + 1 + 1) ≠ (Value.slice va vn vc).ownBlock := fun e => by have := (HO.out.lt (w.heap.size + 1 + 1) e.symm).1; omega
        have q20 := hgr.cell ((hb1.cell (p := ⟨w.heap.size + 1 + 1, 0, none⟩) hA2).trans p0) ne2
        have q21 := hgr.cell ((hb1.cell (p := ⟨w.heap.size + 1 + 1, 1, none⟩) hA2).trans p1) ne2
        have q22 := hgr.cell ((hb1.cell (p := ⟨w.heap.size + 1 + 1, 2, none⟩) hA2).trans p2) ne2
        have q23 := hgr.cell ((hb1.cell (p := ⟨w.heap.size + 1 + 1, 3, none⟩) hA2).trans p3) ne2
        have x20 := (World.frozen?_of_block (a := ⟨w.heap.size + 1 + 1, 0, none⟩) (hgr.block (w.heap.size + 1 + 1) (by have := hb1.size; omega) ne2)).trans ((hb1.frozen (p := ⟨w.heap.size + 1 + 1, 0, none⟩) hA2).trans y0)
        have x21 := (World.frozen?_of_block (a := ⟨w.heap.size + 1 + 1, 1, none⟩) (hgr.block (w.heap.size + 1 + 1) (by have := hb1.size; omega) ne2)).trans ((hb1.frozen (p := ⟨w.heap.size + 1 + 1, 1, none⟩) hA2).trans y1)
        have x22 := (World.frozen?_of_block (a := ⟨w.heap.size + 1 + 1, 2, none⟩) (hgr.block (w.heap.size + 1 + 1) (by have := hb1.size; omega) ne2)).trans ((hb1.frozen (p := ⟨w.heap.size + 1 + 1, 2, none⟩) hA2).trans y2)
        have x23 := (World.frozen?_of_block (a := ⟨w.heap.size + 1 + 1, 3, none⟩) (hgr.block (w.heap.size + 1 + 1) (by have := hb1.size; omega) ne2)).trans ((hb1.frozen (p := ⟨w.heap.size + 1 + 1, 3, none⟩) hA2).trans y3)
        have HB4 := hid (Below.grown (B := w.heap.size) (a := w) hb0 hgr (by omega) (fun kk hk => by have := (HO.out.lt kk hk).1; omega))
        have HC' : Hid (C4At lo (w4.setCell ⟨w.heap.size + 1 + 1, 2, none⟩ (.slice va' vn' vc')) (some ⟨gp, 0, none⟩) q X Y Z M) := hid (fun ii hii => by
          obtain ⟨gi, hgi, hlo', w0, w1, w2, w3⟩ := hC.out ii hii
          cases hgi
          have neg : some gp ≠ (Value.slice va vn vc).ownBlock := fun e => by have := (HO.out.lt gp e.symm).1; omega
          have ned : ∀ (oo : Nat), (⟨w.heap.size + 1 + 1, 2, none⟩ : Addr) ≠ ⟨gp, oo, none⟩ := fun oo e => by injection e; omega
          refine ⟨gp, rfl, hlo', ?_, ?_, ?_, ?_⟩
          · rw [World.cell?_setCell_other _ _ _ _ (ned _)]; exact hgr.cell ((hb1.cell (World.block_lt_of_cell? _ _ w0)).trans w0) neg
          · rw [World.cell?_setCell_other _ _ _ _ (ned _)]; exact hgr.cell ((hb1.cell (World.block_lt_of_cell? _ _ w1)).trans w1) neg
          · rw [World.cell?_setCell_other _ _ _ _ (ned _)]; exact hgr.cell ((hb1.cell (World.block_lt_of_cell? _ _ w2)).trans w2) neg
          · rw [World.cell?_setCell_other _ _ _ _ (ned _)]; exact hgr.cell ((hb1.cell (World.block_lt_of_cell? _ _ w3)).trans w3) neg)
        clear hown hgr hb0 hb1 hK hL K L u0 u1 u2 u3 own9 C9
        refine wpTr_lt (fun K hK => ?_)
        go_simp
        refine hK _ ?_
        clear hK K
        refine wpTr_hv (fun K L hK hL => ?_)
        go_simp
        refine hK _ _ trivial ?_
        clear hK hL K L
        refine wpTr_nil ?_
        go_wp2_with fail
        go_roundw
        case rel =>
          have hB := HB4.out
          have hAz : w.heap.size + 1 + 1 < wz2.heap.size := by omega
          refine ⟨k + 1, _, _, _, by omega, ?_, hid ?_, by simp; omega, by
            repeat' (first | (with_reducible exact hB) | (with_reducible refine Below.setCell ?_ ?_ _) | (with_reducible refine Below.alloc ?_ ?_ _) | (with_reducible refine Below.drew ?_) | (with_reducible exact hB.size) | omega | (simp; done) | (simp; omega)), HC', row4.2 ⟨by go_cell, by go_cell, by go_cell, by go_cell, trivial⟩, row4.2 ⟨by go_cell, by go_cell, by go_cell, by go_cell, trivial⟩, mkF4 (by go_cell) (by go_cell) (by go_cell) (by go_cell), row4.2 ⟨by go_cell, by go_cell, by go_cell, by go_cell, trivial⟩, mkF4 (by go_cell) (by go_cell) (by go_cell) (by go_cell)⟩
          · have := HJI.out
            congr 1
            omega
          · rw [bk_succ, ← HJ.out, Nat.succ_mul]
            exact ownsRow_setCell_below HO4.out hAz _
        case measure => simp [intOf] <;> omega
    · have hkk : k = q := by omega
      have hneg : (q : Int) - 1 - (k : Int) = -1 := by omega
      rw [hneg]
      have HOF : Hid (wr.ownsRow wz2.heap.size 29 1 (.slice va vn vc) (q * wn) (bk q f q)) := hid (by rw [← hkk]; rw [← hkk] at HO; exact HO.out)
      have hA1 : w.heap.size + 1 < wz2.heap.size := by omega
      clear hneg hkk
      go_wp2_with fail
      refine wp_loop_rounds 1 ?_
      rw [rounds_succ]
      go_wp2_with fail
      refine bodyPost_ret (ret1 (b := w.heap.size + 1) (cs := [.int .i64 2, .int .i64 dm, (.slice va vn vc), .slice none 0 0]) Try.results48 rfl Try.underlying49 rfl (by kernel_rfl) ⟨by go_cell, by go_cell, by go_cell, by go_cell, trivial⟩) rfl ?_
      refine ⟨_, wz2.heap.size, rfl, HB.out.size, by repeat' (first | (with_reducible exact HOF.out) | (with_reducible refine ownsRow_setCell_below ?_ ?_ _) | omega | (show _ < _; omega)), by
        have hB := HBr.out
        repeat' (first | (with_reducible exact hB) | (with_reducible refine Below.setCell ?_ ?_ _) | (with_reducible refine Below.alloc ?_ ?_ _) | (with_reducible refine Below.drew ?_) | (with_reducible exact hB.size) | omega | (simp; done) | (simp; omega))⟩
end Go.Proofs.Ytbcjlgkdmkehlaa
