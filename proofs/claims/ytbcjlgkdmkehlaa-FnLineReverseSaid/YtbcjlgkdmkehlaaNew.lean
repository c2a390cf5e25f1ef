/- What the laws' made geometry is of a line string: its kind, a type of coordinates that is one, its whole places' numbers in a new row. -/
import Derived.Test.YtbcjlgkdmkehlaaRows
import Derived.Test.YtbcjlgkdmkehlaaSml
import Derived.StillTailTactics
namespace Go.Proofs.Ytbcjlgkdmkehlaa
open Go.ChangeShapes Go.WideShapes Go.ChangeAt Go.RowKit
set_option maxRecDepth 100000
def widthN (d : Int) : Nat := if d % 4 = 0 then 2 else if d % 4 = 3 then 4 else 3
theorem widthI_eq (d : Int) : widthI (d % 4) = (widthN d : Int) := by
  unfold widthI widthN
  split
  · rfl
  · split <;> rfl
theorem widthN_pos (d : Int) : 2 ≤ widthN d ∧ widthN d ≤ 4 := by
  unfold widthN
  split
  · omega
  · split <;> omega
theorem wrap64_small (n : Int) (h1 : -9223372036854775808 ≤ n) (h2 : n ≤ 9223372036854775807) : wrap64 n = n := by
  unfold wrap64
  omega
theorem add_plain0 (b off j : Nat) : (⟨b, off, none⟩ : Addr).add j = ⟨b, off + j, none⟩ := by unfold Addr.add; split <;> simp_all
theorem RowOf.setCell {w : World} {g : Nat} {xs : List Value} {p : Addr} {v : Value} (h : RowOf w g xs) (hne : ¬ p.block = g) : RowOf (w.setCell p v) g xs := fun j u hu =>
  (World.cell?_setCell_other w p _ v (fun e => hne (by rw [e]))).trans (h j u hu)
set_option maxHeartbeats 1000000 in
theorem newLineC (d : Int) (b off : Nat) (nl ncp : Nat) (kad : Option Addr) (kl kcp : Nat) (xs : List Nat) (hxl : xs.length = nl) (hl : nl < 2000) (hcp : nl ≤ ncp) (hcm : ncp ≤ maxLen) (m : Nat) (hm : m = nl / widthN d * widthN d) (hm0 : 0 < m) (w : World) (hF : FRow w (some ⟨b, off, none⟩) xs) :
    Calls Try.prog 37 #[gv 2 d (some ⟨b, off, none⟩) nl ncp kad kl kcp] w fun e w' => ∃ g cp, e = .returned (gv 2 (d % 4) (some ⟨g, 0, none⟩) m cp none 0 0) ∧ RowOf w' g ((xs.take m).map (Value.float .f64)) ∧ m ≤ cp ∧ w.heap.size ≤ g ∧ g < w'.heap.size ∧ Below w.heap.size w w' := by
  have h3 := and3 d
  have W := fun w => width (d % 4) (isDim4 d) w
  have WS := fun w => widthS (d % 4) (isDim4 d) w
  rw [widthI_eq] at W WS
  have hw := widthN_pos d
  have L := leafL
  replace W := hid W
  replace WS := hid WS
  replace L := hid L
  unfold gv
  generalize hdm : d % 4 = dm at *
  generalize hwn : widthN d = wn at *
  clear hdm hwn
  have HCM := hid hcm
  clear hcm
  obtain ⟨hw1, hw2⟩ := hw
  have hml : m ≤ nl := by rw [hm]; exact Nat.div_mul_le_self _ _
  obtain ⟨q, hq⟩ : ∃ q, q = nl / wn := ⟨_, rfl⟩
  rw [← hq] at hm
  have hql : q ≤ nl := by rw [hq]; exact Nat.div_le_self _ _
  have hml2 : (m : Int) ≤ (ncp : Int) := by omega
  have hml3 : m ≤ ncp := by omega
  have hw0 : ¬ (wn : Int) = 0 := by omega
  have hwu : ¬ wn = 0 := by omega
  have HQ : Hid (wrap64 ((nl : Int) / (wn : Int)) = (q : Int)) := by
    refine hid ?_
    rw [← Int.natCast_ediv, ← hq]
    exact wrap64_small _ (by omega) (by omega)
  have HM : Hid (IntKind.i64.wrap ((q : Int) * (wn : Int)) = (m : Int)) := by
    refine hid ?_
    have hz : (q : Int) * (wn : Int) = (m : Int) := by rw [hm, ← Int.natCast_mul]
    rw [hz]
    exact IntWalk.i64_in _ (by omega)
  have hmx : m ≤ maxLen := Nat.le_trans hml3 HCM.out
  have HMX := hid hmx
  clear hmx HCM
  have hx : ∀ j u, ((xs.take m).map (Value.float .f64))[j]? = some u → w.cell? ((⟨b, off, none⟩ : Addr).add j) = some u := by
    intro j u hu
    rw [List.getElem?_map] at hu
    obtain ⟨x, hx, rfl⟩ := Option.map_eq_some_iff.1 hu
    rw [List.getElem?_take] at hx
    split at hx
    · obtain ⟨b', off', e, hc⟩ := hF j x hx
      simp only [Option.some.injEq, Addr.mk.injEq, and_true] at e
      obtain ⟨rfl, rfl⟩ := e
      rw [add_plain0]
      exact hc
    · cases hx
  have hnl : ((xs.take m).map (Value.float .f64)).length = m := by rw [List.length_map, List.length_take]; exact Nat.min_eq_left (by rw [hxl]; exact hml)
  have hone : ∀ u ∈ (xs.take m).map (Value.float .f64), u.oneCell' = true := by
    intro u hu
    obtain ⟨x, -, rfl⟩ := List.mem_map.1 hu
    rfl
  generalize (xs.take m).map (Value.float .f64) = news at *
  have HX := hid hx
  clear hx hF hxl hm hq
  go_enter Try.func37, Try.ntmps37
  go_wp2_with fail
  refine lettered (R := fun wz => Calls _ _ _ wz _) (fun wz => wz.cell? ⟨w.heap.size, 0, none⟩ = some (.int .i64 2) ∧ wz.cell? ⟨w.heap.size, 1, none⟩ = some (.int .i64 d) ∧ wz.cell? ⟨w.heap.size, 2, none⟩ = some (.slice (some ⟨b, off, none⟩) nl ncp) ∧ wz.cell? ⟨w.heap.size, 3, none⟩ = some (.slice kad kl kcp) ∧ wz.cell? ⟨w.heap.size + 1, 0, none⟩ = some (.int .i64 0) ∧ wz.cell? ⟨w.heap.size + 1, 1, none⟩ = some (.int .i64 0) ∧ wz.cell? ⟨w.heap.size + 1, 2, none⟩ = some (.slice none 0 0) ∧ wz.cell? ⟨w.heap.size + 1, 3, none⟩ = some (.slice none 0 0) ∧ wz.cell? ⟨w.heap.size + 1 + 1, 0, none⟩ = some (.int .i64 2) ∧ wz.cell? ⟨w.heap.size + 1 + 1, 1, none⟩ = some (.int .i64 dm) ∧ wz.cell? ⟨w.heap.size + 1 + 1, 2, none⟩ = some (.slice none 0 0) ∧ wz.cell? ⟨w.heap.size + 1 + 1, 3, none⟩ = some (.slice none 0 0) ∧ wz.frozen? ⟨w.heap.size + 1, 0, none⟩ = false ∧ wz.frozen? ⟨w.heap.size + 1, 1, none⟩ = false ∧ wz.frozen? ⟨w.heap.size + 1, 2, none⟩ = false ∧ wz.frozen? ⟨w.heap.size + 1, 3, none⟩ = false ∧ wz.frozen? ⟨w.heap.size + 1 + 1, 0, none⟩ = false ∧ wz.frozen? ⟨w.heap.size + 1 + 1, 1, none⟩ = false ∧ wz.frozen? ⟨w.heap.size + 1 + 1, 2, none⟩ = false ∧ wz.frozen? ⟨w.heap.size + 1 + 1, 3, none⟩ = false ∧ w.heap.size + 3 ≤ wz.heap.size ∧ Below w.heap.size w wz) ⟨by go_cell, by go_cell, by go_cell, by go_cell, by go_cell, by go_cell, by go_cell, by go_cell, by go_cell, by go_cell, by go_cell, by go_cell, by go_cell, by go_cell, by go_cell, by go_cell, by go_cell, by go_cell, by go_cell, by go_cell, by simp, by go_grown⟩ ?_
  rintro wz ⟨c00, c01, c02, c03, c10, c11, c12, c13, c20, c21, c22, c23, z10, z11, z12, z13, z20, z21, z22, z23, hsz, hb⟩
  have HB := hid hb
  clear hb
  go_wp2_with (first | (go_at_call 74; (with_reducible refine (L.out _).mono ?_); rintro e w' ⟨rfl, hbl⟩; obtain ⟨nx, rfl⟩ := later1 (lat (wz := wz) (by repeat (first | (with_reducible exact below_later _ _) | (with_reducible exact Below.refl _ _) | (with_reducible assumption) | (with_reducible refine Below.drew ?_) | (with_reducible refine Below.alloc ?_ (by (first | (with_reducible exact Nat.le_refl _) | (with_reducible exact (below_later _ _).size) | omega | (simp; done) | (simp; omega))) _))) hbl); clear hbl))
  refine wp_region_calm (by kernel_rfl) (by kernel_rfl) ?_
  repeat (go_big_quiet_step ((go_at_call 73; (with_reducible exact calm_of (W.out _)))))
  refine wpQuiet_nil ?_
  rintro _ ⟨nq, rfl⟩
  simp only [HQ.out]
  go_wp2_with fail
  refine lettered (R := fun wz2 => Code.wp _ _ _ _ wz2) (fun wz2 => wz2.cell? ⟨w.heap.size, 0, none⟩ = some (.int .i64 2) ∧ wz2.cell? ⟨w.heap.size, 1, none⟩ = some (.int .i64 d) ∧ wz2.cell? ⟨w.heap.size, 2, none⟩ = some (.slice (some ⟨b, off, none⟩) nl ncp) ∧ wz2.cell? ⟨w.heap.size, 3, none⟩ = some (.slice kad kl kcp) ∧ wz2.cell? ⟨w.heap.size + 1, 0, none⟩ = some (.int .i64 0) ∧ wz2.cell? ⟨w.heap.size + 1, 1, none⟩ = some (.int .i64 0) ∧ wz2.cell? ⟨w.heap.size + 1, 2, none⟩ = some (.slice none 0 0) ∧ wz2.cell? ⟨w.heap.size + 1, 3, none⟩ = some (.slice none 0 0) ∧ wz2.cell? ⟨w.heap.size + 1 + 1, 0, none⟩ = some (.int .i64 2) ∧ wz2.cell? ⟨w.heap.size + 1 + 1, 1, none⟩ = some (.int .i64 dm) ∧ wz2.cell? ⟨w.heap.size + 1 + 1, 2, none⟩ = some (.slice none 0 0) ∧ wz2.cell? ⟨w.heap.size + 1 + 1, 3, none⟩ = some (.slice none 0 0) ∧ wz2.frozen? ⟨w.heap.size + 1, 0, none⟩ = false ∧ wz2.frozen? ⟨w.heap.size + 1, 1, none⟩ = false ∧ wz2.frozen? ⟨w.heap.size + 1, 2, none⟩ = false ∧ wz2.frozen? ⟨w.heap.size + 1, 3, none⟩ = false ∧ wz2.frozen? ⟨w.heap.size + 1 + 1, 0, none⟩ = false ∧ wz2.frozen? ⟨w.heap.size + 1 + 1, 1, none⟩ = false ∧ wz2.frozen? ⟨w.heap.size + 1 + 1, 2, none⟩ = false ∧ wz2.frozen? ⟨w.heap.size + 1 + 1, 3, none⟩ = false ∧ w.heap.size < wz2.heap.size ∧ w.heap.size + 1 < wz2.heap.size ∧ w.heap.size + 1 + 1 < wz2.heap.size ∧ Below w.heap.size w wz2) ⟨by go_cell, by go_cell, by go_cell, by go_cell, by go_cell, by go_cell, by go_cell, by go_cell, by go_cell, by go_cell, by go_cell, by go_cell, by go_cell, by go_cell, by go_cell, by go_cell, by go_cell, by go_cell, by go_cell, by go_cell, by have := (below_later wz nx).size; have := (below_later (later wz nx) nq).size; omega, by have := (below_later wz nx).size; have := (below_later (later wz nx) nq).size; omega, by have := (below_later wz nx).size; have := (below_later (later wz nx) nq).size; omega, HB.out.trans (((below_later _ _).trans ((below_later _ _).mono (below_later _ _).size)).mono HB.out.size)⟩ ?_
  rintro wz2 ⟨c2_0_0, c2_0_1, c2_0_2, c2_0_3, c2_1_0, c2_1_1, c2_1_2, c2_1_3, c2_2_0, c2_2_1, c2_2_2, c2_2_3, z2_1_0, z2_1_1, z2_1_2, z2_1_3, z2_2_0, z2_2_1, z2_2_2, z2_2_3, hs2_0, hs2_1, hs2_2, hb⟩
  clear HB
  have HB := hid hb
  clear hb
  go_still_tail 10, (by kernel_rfl)
  still_call (WS.out _)
  still_step
  simp only [HM.out]
  repeat still_step
  try refine wpStill_nil ?_
  change wpList _ _ _ _ _ wz2.drew
  have HBd := hid HB.out.drew
  refine append_nil rfl (.tmp 40) (.tmp 48) 46 rfl 29 (.float .f64 0) 1 8 Try.underlying46 Try.info29 rfl (by decide) rfl ⟨b, off, none⟩ m ncp news rfl hm0 (by rw [hnl]; exact (Nat.mul_one m).symm) (fun j u hu => (HBd.out.cell (World.block_lt_of_cell? w _ (HX.out j u hu))).trans (HX.out j u hu)) hone HMX.out (by omega) ?_
  intro g cap wr hgr hgs hcap hrow hbl
  have d0 := (hbl.cell (p := ⟨w.heap.size + 1, 0, none⟩) hs2_1).trans c2_1_0
  have HR := hid hrow
  have hgl : w.heap.size ≤ g := Nat.le_trans HB.out.size hgr
  have : wr.cell? ⟨w.heap.size + 1, 0, none⟩ = some (.int .i64 0) := (hbl.cell hs2_1).trans (by go_cell)
  have : wr.cell? ⟨w.heap.size + 1, 1, none⟩ = some (.int .i64 0) := (hbl.cell hs2_1).trans (by go_cell)
  have : wr.cell? ⟨w.heap.size + 1, 2, none⟩ = some (.slice none 0 0) := (hbl.cell hs2_1).trans (by go_cell)
  have : wr.cell? ⟨w.heap.size + 1, 3, none⟩ = some (.slice none 0 0) := (hbl.cell hs2_1).trans (by go_cell)
  have : wr.frozen? ⟨w.heap.size + 1, 0, none⟩ = false := (hbl.frozen hs2_1).trans (by go_cell)
  have : wr.frozen? ⟨w.heap.size + 1, 1, none⟩ = false := (hbl.frozen hs2_1).trans (by go_cell)
  have : wr.frozen? ⟨w.heap.size + 1, 2, none⟩ = false := (hbl.frozen hs2_1).trans (by go_cell)
  have : wr.frozen? ⟨w.heap.size + 1, 3, none⟩ = false := (hbl.frozen hs2_1).trans (by go_cell)
  have : wr.cell? ⟨w.heap.size + 1 + 1, 0, none⟩ = some (.int .i64 2) := (hbl.cell hs2_2).trans (by go_cell)
  have : wr.cell? ⟨w.heap.size + 1 + 1, 1, none⟩ = some (.int .i64 dm) := (hbl.cell hs2_2).trans (by go_cell)
  have : wr.cell? ⟨w.heap.size + 1 + 1, 2, none⟩ = some (.slice none 0 0) := (hbl.cell hs2_2).trans (by go_cell)
  have : wr.cell? ⟨w.heap.size + 1 + 1, 3, none⟩ = some (.slice none 0 0) := (hbl.cell hs2_2).trans (by go_cell)
  have : wr.frozen? ⟨w.heap.size + 1 + 1, 0, none⟩ = false := (hbl.frozen hs2_2).trans (by go_cell)
  have : wr.frozen? ⟨w.heap.size + 1 + 1, 1, none⟩ = false := (hbl.frozen hs2_2).trans (by go_cell)
  have : wr.frozen? ⟨w.heap.size + 1 + 1, 2, none⟩ = false := (hbl.frozen hs2_2).trans (by go_cell)
  have : wr.frozen? ⟨w.heap.size + 1 + 1, 3, none⟩ = false := (hbl.frozen hs2_2).trans (by go_cell)
  have n0 : ¬ w.heap.size + 1 = g := by have : wz2.heap.size ≤ g := hgr; omega
  have n1 : ¬ w.heap.size + 1 + 1 = g := by have : wz2.heap.size ≤ g := hgr; omega
  have hsr : wz2.heap.size ≤ wr.heap.size := hbl.size
  have n2 : w.heap.size + 1 < wr.heap.size := by omega
  have n3 : w.heap.size + 1 + 1 < wr.heap.size := by omega
  have HB3 := hid (HBd.out.trans (hbl.mono HB.out.size))
  clear hrow hbl d0
  go_wp2_with fail
  refine bodyPost_ret (ret1 (b := w.heap.size + 1) (cs := [.int .i64 2, .int .i64 dm, .slice (some ⟨g, 0, none⟩) m cap, .slice none 0 0]) Try.results37 rfl Try.underlying49 rfl (by kernel_rfl) ⟨by go_cell, by go_cell, by go_cell, by go_cell, trivial⟩) rfl ?_
  refine ⟨g, cap, rfl, by repeat' (first | (with_reducible exact HR.out) | (with_reducible refine RowOf.setCell ?_ ?_) | assumption), hcap, hgl, by simp; omega, by
    repeat' (first | (with_reducible exact HB3.out) | (with_reducible refine Below.setCell ?_ ?_ _) | omega | (simp; done) | (simp; omega))⟩
theorem newLineN (d : Int)  (kad : Option Addr) (kl kcp : Nat) (w : World) :
    Calls Try.prog 37 #[gv 2 d none 0 0 kad kl kcp] w fun e w' => e = .returned (gv 2 (d % 4) none 0 0 none 0 0) ∧ Below w.heap.size w w' := by
  have h3 := and3 d
  have W := fun w => width (d % 4) (isDim4 d) w
  have WS := fun w => widthS (d % 4) (isDim4 d) w
  rw [widthI_eq] at W WS
  have hw := widthN_pos d
  have L := leafL
  replace W := hid W
  replace WS := hid WS
  replace L := hid L
  unfold gv
  generalize hdm : d % 4 = dm at *
  generalize hwn : widthN d = wn at *
  clear hdm hwn
  obtain ⟨hw1, hw2⟩ := hw
  have hw0 : ¬ (wn : Int) = 0 := by omega
  have hwu : ¬ wn = 0 := by omega
  have HQ : Hid (wrap64 ((0 : Int) / (wn : Int)) = 0) := by
    refine hid ?_
    rw [Int.zero_ediv]
    exact wrap64_small 0 (by omega) (by omega)
  have HM : Hid (IntKind.i64.wrap 0 = 0) := hid (IntWalk.i64_in _ (by omega))
  go_enter Try.func37, Try.ntmps37
  go_wp2_with fail
  refine lettered (R := fun wz => Calls _ _ _ wz _) (fun wz => wz.cell? ⟨w.heap.size, 0, none⟩ = some (.int .i64 2) ∧ wz.cell? ⟨w.heap.size, 1, none⟩ = some (.int .i64 d) ∧ wz.cell? ⟨w.heap.size, 2, none⟩ = some (.slice none 0 0) ∧ wz.cell? ⟨w.heap.size, 3, none⟩ = some (.slice kad kl kcp) ∧ wz.cell? ⟨w.heap.size + 1, 0, none⟩ = some (.int .i64 0) ∧ wz.cell? ⟨w.heap.size + 1, 1, none⟩ = some (.int .i64 0) ∧ wz.cell? ⟨w.heap.size + 1, 2, none⟩ = some (.slice none 0 0) ∧ wz.cell? ⟨w.heap.size + 1, 3, none⟩ = some (.slice none 0 0) ∧ wz.cell? ⟨w.heap.size + 1 + 1, 0, none⟩ = some (.int .i64 2) ∧ wz.cell? ⟨w.heap.size + 1 + 1, 1, none⟩ = some (.int .i64 dm) ∧ wz.cell? ⟨w.heap.size + 1 + 1, 2, none⟩ = some (.slice none 0 0) ∧ wz.cell? ⟨w.heap.size + 1 + 1, 3, none⟩ = some (.slice none 0 0) ∧ wz.frozen? ⟨w.heap.size + 1, 0, none⟩ = false ∧ wz.frozen? ⟨w.heap.size + 1, 1, none⟩ = false ∧ wz.frozen? ⟨w.heap.size + 1, 2, none⟩ = false ∧ wz.frozen? ⟨w.heap.size + 1, 3, none⟩ = false ∧ wz.frozen? ⟨w.heap.size + 1 + 1, 0, none⟩ = false ∧ wz.frozen? ⟨w.heap.size + 1 + 1, 1, none⟩ = false ∧ wz.frozen? ⟨w.heap.size + 1 + 1, 2, none⟩ = false ∧ wz.frozen? ⟨w.heap.size + 1 + 1, 3, none⟩ = false ∧ w.heap.size + 3 ≤ wz.heap.size ∧ Below w.heap.size w wz) ⟨by go_cell, by go_cell, by go_cell, by go_cell, by go_cell, by go_cell, by go_cell, by go_cell, by go_cell, by go_cell, by go_cell, by go_cell, by go_cell, by go_cell, by go_cell, by go_cell, by go_cell, by go_cell, by go_cell, by go_cell, by simp, by go_grown⟩ ?_
  rintro wz ⟨c00, c01, c02, c03, c10, c11, c12, c13, c20, c21, c22, c23, z10, z11, z12, z13, z20, z21, z22, z23, hsz, hb⟩
  have HB := hid hb
  clear hb
  go_wp2_with (first | (go_at_call 74; (with_reducible refine (L.out _).mono ?_); rintro e w' ⟨rfl, hbl⟩; obtain ⟨nx, rfl⟩ := later1 (lat (wz := wz) (by repeat (first | (with_reducible exact below_later _ _) | (with_reducible exact Below.refl _ _) | (with_reducible assumption) | (with_reducible refine Below.drew ?_) | (with_reducible refine Below.alloc ?_ (by (first | (with_reducible exact Nat.le_refl _) | (with_reducible exact (below_later _ _).size) | omega | (simp; done) | (simp; omega))) _))) hbl); clear hbl))
  refine wp_region_calm (by kernel_rfl) (by kernel_rfl) ?_
  repeat (go_big_quiet_step ((go_at_call 73; (with_reducible exact calm_of (W.out _)))))
  refine wpQuiet_nil ?_
  rintro _ ⟨nq, rfl⟩
  try simp only [HQ.out]
  go_wp2_with fail
  refine lettered (R := fun wz2 => Code.wp _ _ _ _ wz2) (fun wz2 => wz2.cell? ⟨w.heap.size, 0, none⟩ = some (.int .i64 2) ∧ wz2.cell? ⟨w.heap.size, 1, none⟩ = some (.int .i64 d) ∧ wz2.cell? ⟨w.heap.size, 2, none⟩ = some (.slice none 0 0) ∧ wz2.cell? ⟨w.heap.size, 3, none⟩ = some (.slice kad kl kcp) ∧ wz2.cell? ⟨w.heap.size + 1, 0, none⟩ = some (.int .i64 0) ∧ wz2.cell? ⟨w.heap.size + 1, 1, none⟩ = some (.int .i64 0) ∧ wz2.cell? ⟨w.heap.size + 1, 2, none⟩ = some (.slice none 0 0) ∧ wz2.cell? ⟨w.heap.size + 1, 3, none⟩ = some (.slice none 0 0) ∧ wz2.cell? ⟨w.heap.size + 1 + 1, 0, none⟩ = some (.int .i64 2) ∧ wz2.cell? ⟨w.heap.size + 1 + 1, 1, none⟩ = some (.int .i64 dm) ∧ wz2.cell? ⟨w.heap.size + 1 + 1, 2, none⟩ = some (.slice none 0 0) ∧ wz2.cell? ⟨w.heap.size + 1 + 1, 3, none⟩ = some (.slice none 0 0) ∧ wz2.frozen? ⟨w.heap.size + 1, 0, none⟩ = false ∧ wz2.frozen? ⟨w.heap.size + 1, 1, none⟩ = false ∧ wz2.frozen? ⟨w.heap.size + 1, 2, none⟩ = false ∧ wz2.frozen? ⟨w.heap.size + 1, 3, none⟩ = false ∧ wz2.frozen? ⟨w.heap.size + 1 + 1, 0, none⟩ = false ∧ wz2.frozen? ⟨w.heap.size + 1 + 1, 1, none⟩ = false ∧ wz2.frozen? ⟨w.heap.size + 1 + 1, 2, none⟩ = false ∧ wz2.frozen? ⟨w.heap.size + 1 + 1, 3, none⟩ = false ∧ w.heap.size < wz2.heap.size ∧ w.heap.size + 1 < wz2.heap.size ∧ w.heap.size + 1 + 1 < wz2.heap.size ∧ Below w.heap.size w wz2) ⟨by go_cell, by go_cell, by go_cell, by go_cell, by go_cell, by go_cell, by go_cell, by go_cell, by go_cell, by go_cell, by go_cell, by go_cell, by go_cell, by go_cell, by go_cell, by go_cell, by go_cell, by go_cell, by go_cell, by go_cell, by have := (below_later wz nx).size; have := (below_later (later wz nx) nq).size; omega, by have := (below_later wz nx).size; have := (below_later (later wz nx) nq).size; omega, by have := (below_later wz nx).size; have := (below_later (later wz nx) nq).size; omega, HB.out.trans (((below_later _ _).trans ((below_later _ _).mono (below_later _ _).size)).mono HB.out.size)⟩ ?_
  rintro wz2 ⟨c2_0_0, c2_0_1, c2_0_2, c2_0_3, c2_1_0, c2_1_1, c2_1_2, c2_1_3, c2_2_0, c2_2_1, c2_2_2, c2_2_3, z2_1_0, z2_1_1, z2_1_2, z2_1_3, z2_2_0, z2_2_1, z2_2_2, z2_2_3, hs2_0, hs2_1, hs2_2, hb⟩
  clear HB
  have HB := hid hb
  clear hb
  go_still_tail 10, (by kernel_rfl)
  still_call (WS.out _)
  still_step
  try simp only [HM.out]
  repeat still_step
  try refine wpStill_nil ?_
  change wpList _ _ _ _ _ wz2.drew
  have HBd := hid HB.out.drew
  go_wp2_with fail
  refine bodyPost_ret (ret1 (b := w.heap.size + 1) (cs := [.int .i64 2, .int .i64 dm, .slice none 0 0, .slice none 0 0]) Try.results37 rfl Try.underlying49 rfl (by kernel_rfl) ⟨by go_cell, by go_cell, by go_cell, by go_cell, trivial⟩) rfl ?_
  refine ⟨rfl, by
    repeat' (first | (with_reducible exact HBd.out) | (with_reducible exact HB.out) | (with_reducible refine Below.setCell ?_ ?_ _) | (with_reducible refine Below.drew ?_) | omega | (simp; done) | (simp; omega))⟩
theorem newLineZ (d : Int) (ad : Addr) (nl ncp : Nat) (hm : nl / widthN d = 0) (kad : Option Addr) (kl kcp : Nat) (w : World) :
    Calls Try.prog 37 #[gv 2 d (some ad) nl ncp kad kl kcp] w fun e w' => e = .returned (gv 2 (d % 4) none 0 0 none 0 0) ∧ Below w.heap.size w w' := by
  have h3 := and3 d
  have W := fun w => width (d % 4) (isDim4 d) w
  have WS := fun w => widthS (d % 4) (isDim4 d) w
  rw [widthI_eq] at W WS
  have hw := widthN_pos d
  have L := leafL
  replace W := hid W
  replace WS := hid WS
  replace L := hid L
  unfold gv
  generalize hdm : d % 4 = dm at *
  generalize hwn : widthN d = wn at *
  clear hdm hwn
  obtain ⟨hw1, hw2⟩ := hw
  have hw0 : ¬ (wn : Int) = 0 := by omega
  have hwu : ¬ wn = 0 := by omega
  have HQ : Hid (wrap64 ((nl : Int) / (wn : Int)) = 0) := by
    refine hid ?_
    rw [← Int.natCast_ediv, hm]
    exact wrap64_small 0 (by omega) (by omega)
  clear hm
  have HM : Hid (IntKind.i64.wrap 0 = 0) := hid (IntWalk.i64_in _ (by omega))
  go_enter Try.func37, Try.ntmps37
  go_wp2_with fail
  refine lettered (R := fun wz => Calls _ _ _ wz _) (fun wz => wz.cell? ⟨w.heap.size, 0, none⟩ = some (.int .i64 2) ∧ wz.cell? ⟨w.heap.size, 1, none⟩ = some (.int .i64 d) ∧ wz.cell? ⟨w.heap.size, 2, none⟩ = some (.slice (some ad) nl ncp) ∧ wz.cell? ⟨w.heap.size, 3, none⟩ = some (.slice kad kl kcp) ∧ wz.cell? ⟨w.heap.size + 1, 0, none⟩ = some (.int .i64 0) ∧ wz.cell? ⟨w.heap.size + 1, 1, none⟩ = some (.int .i64 0) ∧ wz.cell? ⟨w.heap.size + 1, 2, none⟩ = some (.slice none 0 0) ∧ wz.cell? ⟨w.heap.size + 1, 3, none⟩ = some (.slice none 0 0) ∧ wz.cell? ⟨w.heap.size + 1 + 1, 0, none⟩ = some (.int .i64 2) ∧ wz.cell? ⟨w.heap.size + 1 + 1, 1, none⟩ = some (.int .i64 dm) ∧ wz.cell? ⟨w.heap.size + 1 + 1, 2, none⟩ = some (.slice none 0 0) ∧ wz.cell? ⟨w.heap.size + 1 + 1, 3, none⟩ = some (.slice none 0 0) ∧ wz.frozen? ⟨w.heap.size + 1, 0, none⟩ = false ∧ wz.frozen? ⟨w.heap.size + 1, 1, none⟩ = false ∧ wz.frozen? ⟨w.heap.size + 1, 2, none⟩ = false ∧ wz.frozen? ⟨w.heap.size + 1, 3, none⟩ = false ∧ wz.frozen? ⟨w.heap.size + 1 + 1, 0, none⟩ = false ∧ wz.frozen? ⟨w.heap.size + 1 + 1, 1, none⟩ = false ∧ wz.frozen? ⟨w.heap.size + 1 + 1, 2, none⟩ = false ∧ wz.frozen? ⟨w.heap.size + 1 + 1, 3, none⟩ = false ∧ w.heap.size + 3 ≤ wz.heap.size ∧ Below w.heap.size w wz) ⟨by go_cell, by go_cell, by go_cell, by go_cell, by go_cell, by go_cell, by go_cell, by go_cell, by go_cell, by go_cell, by go_cell, by go_cell, by go_cell, by go_cell, by go_cell, by go_cell, by go_cell, by go_cell, by go_cell, by go_cell, by simp, by go_grown⟩ ?_
  rintro wz ⟨c00, c01, c02, c03, c10, c11, c12, c13, c20, c21, c22, c23, z10, z11, z12, z13, z20, z21, z22, z23, hsz, hb⟩
  have HB := hid hb
  clear hb
  go_wp2_with (first | (go_at_call 74; (with_reducible refine (L.out _).mono ?_); rintro e w' ⟨rfl, hbl⟩; obtain ⟨nx, rfl⟩ := later1 (lat (wz := wz) (by repeat (first | (with_reducible exact below_later _ _) | (with_reducible exact Below.refl _ _) | (with_reducible assumption) | (with_reducible refine Below.drew ?_) | (with_reducible refine Below.alloc ?_ (by (first | (with_reducible exact Nat.le_refl _) | (with_reducible exact (below_later _ _).size) | omega | (simp; done) | (simp; omega))) _))) hbl); clear hbl))
  refine wp_region_calm (by kernel_rfl) (by kernel_rfl) ?_
  repeat (go_big_quiet_step ((go_at_call 73; (with_reducible exact calm_of (W.out _)))))
  refine wpQuiet_nil ?_
  rintro _ ⟨nq, rfl⟩
  try simp only [HQ.out]
  go_wp2_with fail
  refine lettered (R := fun wz2 => Code.wp _ _ _ _ wz2) (fun wz2 => wz2.cell? ⟨w.heap.size, 0, none⟩ = some (.int .i64 2) ∧ wz2.cell? ⟨w.heap.size, 1, none⟩ = some (.int .i64 d) ∧ wz2.cell? ⟨w.heap.size, 2, none⟩ = some (.slice (some ad) nl ncp) ∧ wz2.cell? ⟨w.heap.size, 3, none⟩ = some (.slice kad kl kcp) ∧ wz2.cell? ⟨w.heap.size + 1, 0, none⟩ = some (.int .i64 0) ∧ wz2.cell? ⟨w.heap.size + 1, 1, none⟩ = some (.int .i64 0) ∧ wz2.cell? ⟨w.heap.size + 1, 2, none⟩ = some (.slice none 0 0) ∧ wz2.cell? ⟨w.heap.size + 1, 3, none⟩ = some (.slice none 0 0) ∧ wz2.cell? ⟨w.heap.size + 1 + 1, 0, none⟩ = some (.int .i64 2) ∧ wz2.cell? ⟨w.heap.size + 1 + 1, 1, none⟩ = some (.int .i64 dm) ∧ wz2.cell? ⟨w.heap.size + 1 + 1, 2, none⟩ = some (.slice none 0 0) ∧ wz2.cell? ⟨w.heap.size + 1 + 1, 3, none⟩ = some (.slice none 0 0) ∧ wz2.frozen? ⟨w.heap.size + 1, 0, none⟩ = false ∧ wz2.frozen? ⟨w.heap.size + 1, 1, none⟩ = false ∧ wz2.frozen? ⟨w.heap.size + 1, 2, none⟩ = false ∧ wz2.frozen? ⟨w.heap.size + 1, 3, none⟩ = false ∧ wz2.frozen? ⟨w.heap.size + 1 + 1, 0, none⟩ = false ∧ wz2.frozen? ⟨w.heap.size + 1 + 1, 1, none⟩ = false ∧ wz2.frozen? ⟨w.heap.size + 1 + 1, 2, none⟩ = false ∧ wz2.frozen? ⟨w.heap.size + 1 + 1, 3, none⟩ = false ∧ w.heap.size < wz2.heap.size ∧ w.heap.size + 1 < wz2.heap.size ∧ w.heap.size + 1 + 1 < wz2.heap.size ∧ Below w.heap.size w wz2) ⟨by go_cell, by go_cell, by go_cell, by go_cell, by go_cell, by go_cell, by go_cell, by go_cell, by go_cell, by go_cell, by go_cell, by go_cell, by go_cell, by go_cell, by go_cell, by go_cell, by go_cell, by go_cell, by go_cell, by go_cell, by have := (below_later wz nx).size; have := (below_later (later wz nx) nq).size; omega, by have := (below_later wz nx).size; have := (below_later (later wz nx) nq).size; omega, by have := (below_later wz nx).size; have := (below_later (later wz nx) nq).size; omega, HB.out.trans (((below_later _ _).trans ((below_later _ _).mono (below_later _ _).size)).mono HB.out.size)⟩ ?_
  rintro wz2 ⟨c2_0_0, c2_0_1, c2_0_2, c2_0_3, c2_1_0, c2_1_1, c2_1_2, c2_1_3, c2_2_0, c2_2_1, c2_2_2, c2_2_3, z2_1_0, z2_1_1, z2_1_2, z2_1_3, z2_2_0, z2_2_1, z2_2_2, z2_2_3, hs2_0, hs2_1, hs2_2, hb⟩
  clear HB
  have HB := hid hb
  clear hb
  go_still_tail 10, (by kernel_rfl)
  still_call (WS.out _)
  still_step
  try simp only [HM.out]
  repeat still_step
  try refine wpStill_nil ?_
  change wpList _ _ _ _ _ wz2.drew
  have HBd := hid HB.out.drew
  go_wp2_with fail
  refine bodyPost_ret (ret1 (b := w.heap.size + 1) (cs := [.int .i64 2, .int .i64 dm, .slice none 0 0, .slice none 0 0]) Try.results37 rfl Try.underlying49 rfl (by kernel_rfl) ⟨by go_cell, by go_cell, by go_cell, by go_cell, trivial⟩) rfl ?_
  refine ⟨rfl, by
    repeat' (first | (with_reducible exact HBd.out) | (with_reducible exact HB.out) | (with_reducible refine Below.setCell ?_ ?_ _) | (with_reducible refine Below.drew ?_) | omega | (simp; done) | (simp; omega))⟩
end Go.Proofs.Ytbcjlgkdmkehlaa
