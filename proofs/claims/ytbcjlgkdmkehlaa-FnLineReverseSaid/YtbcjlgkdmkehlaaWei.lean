/- The laws' size of a geometry: none of a small one's rows is longer than the bound. -/
import Derived.Test.YtbcjlgkdmkehlaaRows
import Derived.Test.YtbcjlgkdmkehlaaGeo
namespace Go.Proofs.Ytbcjlgkdmkehlaa
open Go.ChangeShapes Go.WideShapes Go.ChangeAt Go.RowKit
set_option maxRecDepth 100000
set_option maxHeartbeats 1000000 in
theorem gWeight1 (k d : Int) (nad : Option Addr) (ncp : Nat) (xs : List Nat) (kad : Option Addr) (kcp : Nat) (ks : List Value) (left : Int) (w : World) (ho : Own w k d nad ncp xs kad kcp ks) (hl : -1 ≤ left) (hl2 : left ≤ 2000)
    (KID : ∀ (i : Nat) u, ks[i]? = some u → ∀ l wr, -1 ≤ l → l ≤ 2000 → Below w.heap.size w wr → Calls Try.prog 71 #[u, .int .i64 l] wr fun e w' => ∃ r : Int, e = .returned (.int .i64 r) ∧ -1 ≤ r ∧ r ≤ l ∧ Below wr.heap.size wr w') :
    Calls Try.prog 71 #[gv k d nad xs.length ncp kad ks.length kcp, .int .i64 left] w fun e w' => ∃ r : Int, e = .returned (.int .i64 r) ∧ -1 ≤ r ∧ r ≤ left ∧ (0 ≤ r → (xs.length : Int) < left ∧ (ks.length : Int) ≤ left) ∧ Below w.heap.size w w' := by
  have hn := ho.nCap
  have hn2 := ho.nMax
  have hk := ho.kCap
  have hk2 := ho.kMax
  have KR := hid ho.kids
  clear ho
  have KID' := hid KID
  clear KID
  unfold gv
  unfold maxLen at hn2 hk2
  generalize hnl : xs.length = nl at *
  generalize hkl : ks.length = kl at *
  by_cases h1 : left < 1
  · go_enter Try.func71, Try.ntmps71
    go_wp2
    go_ret
    exact ⟨-1, rfl, by omega, by omega, fun h => by omega, by go_grown⟩
  · by_cases h2 : (nl : Int) > left
    · go_enter Try.func71, Try.ntmps71
      go_wp2
      go_ret
      exact ⟨-1, rfl, by omega, by omega, fun h => by omega, by go_grown⟩
    · by_cases h3 : (kl : Int) > left
      · go_enter Try.func71, Try.ntmps71
        go_wp2
        go_ret
        exact ⟨-1, rfl, by omega, by omega, fun h => by omega, by go_grown⟩
      · go_enter Try.func71, Try.ntmps71
        go_wp2_with fail
        go_loopw [5, 1] (fun iv lv wr => ∃ (i : Nat) (l : Int), i ≤ kl ∧ iv = .int .i64 i ∧ lv = .int .i64 l ∧ -1 ≤ l ∧ l ≤ left - 1 - nl ∧ w.heap.size < wr.heap.size ∧ Below w.heap.size w wr ∧ RowAt wr w.heap.size 0 [.int .i64 k, .int .i64 d, .slice nad nl ncp, .slice kad kl kcp])
          (fun iv _ _ => kl - (intOf iv).toNat)
        case atStart => exact ⟨0, _, Nat.zero_le _, rfl, rfl, by omega, by omega, by simp, by go_grown, row4.2 ⟨by go_cell, by go_cell, by go_cell, by go_cell, trivial⟩⟩
        case round =>
          obtain ⟨i, l, hi, rfl, rfl, hl3, hl4, hsz, hbl, hr⟩ := hrel
          obtain ⟨c0, c1, c2, c3, -⟩ := row4.1 hr
          clear hr
          have HB := hid hbl
          by_cases hlt : i < kl
          · by_cases hl0 : 0 ≤ l
            · obtain ⟨b, off, u0, u1, u2, u3, rfl, hu, d0, d1, d2, d3⟩ := KR.out i ks[i] (List.getElem?_eq_getElem (by omega))
              have e0 := (hbl.cell (World.block_lt_of_cell? w _ d0)).trans d0
              have e1 := (hbl.cell (World.block_lt_of_cell? w _ d1)).trans d1
              have e2 := (hbl.cell (World.block_lt_of_cell? w _ d2)).trans d2
              have e3 := (hbl.cell (World.block_lt_of_cell? w _ d3)).trans d3
              have IH := KID'.out i ks[i] (List.getElem?_eq_getElem (by omega)) l wr (by omega) (by omega) hbl
              rw [hu] at IH
              replace IH := hid IH
              clear hbl d0 d1 d2 d3 hu
              go_wp2_with (go_at_call 71; (with_reducible refine IH.out.mono ?_); rintro e w' ⟨r, rfl, hr1, hr2, hbl⟩; have f0 := (hbl.cell (World.block_lt_of_cell? wr _ c0)).trans c0; have f1 := (hbl.cell (World.block_lt_of_cell? wr _ c1)).trans c1; have f2 := (hbl.cell (World.block_lt_of_cell? wr _ c2)).trans c2; have f3 := (hbl.cell (World.block_lt_of_cell? wr _ c3)).trans c3; have HB2 := hid (HB.out.trans (hbl.mono HB.out.size)); have hsz2 := Nat.lt_of_lt_of_le hsz hbl.size; clear hbl)
              go_roundw
              case rel => exact ⟨i + 1, r, by omega, by go_num, rfl, by omega, by omega, hsz2, HB2.out, row4.2 ⟨f0, f1, f2, f3, trivial⟩⟩
              case measure => simp [intOf]; omega
            · clear hbl
              go_wp2_with fail
              go_ret
              exact ⟨l, rfl, by omega, by omega, fun h => by omega, HB.out⟩
          · clear hbl
            go_wp2_with fail
            go_ret
            exact ⟨l, rfl, by omega, by omega, fun h => by omega, HB.out⟩
theorem gWeight : ∀ (n : Nat) (k d : Int) (nad : Option Addr) (ncp : Nat) (xs : List Nat) (kad : Option Addr) (kcp : Nat) (ks : List Value) (left : Int) (w : World), Own w k d nad ncp xs kad kcp ks → (∀ u ∈ ks, GeoAt w n u) → -1 ≤ left → left ≤ 2000 →
    Calls Try.prog 71 #[gv k d nad xs.length ncp kad ks.length kcp, .int .i64 left] w fun e w' => ∃ r : Int, e = .returned (.int .i64 r) ∧ -1 ≤ r ∧ r ≤ left ∧ (0 ≤ r → (xs.length : Int) < left ∧ (ks.length : Int) ≤ left) ∧ Below w.heap.size w w'
  | 0, k, d, nad, ncp, xs, kad, kcp, ks, left, w, ho, hk, hl, hl2 => gWeight1 k d nad ncp xs kad kcp ks left w ho hl hl2 fun _ u hu => (hk u (List.mem_of_getElem? hu)).elim
  | n + 1, k, d, nad, ncp, xs, kad, kcp, ks, left, w, ho, hk, hl, hl2 => gWeight1 k d nad ncp xs kad kcp ks left w ho hl hl2 fun _ u hu l wr h1 h2 hb => by
    obtain ⟨k', d', nad', ncp', xs', kad', kcp', ks', rfl, ho', hk'⟩ := hk u (List.mem_of_getElem? hu)
    exact (gWeight n k' d' nad' ncp' xs' kad' kcp' ks' l wr (ho'.below hb) (fun u hu => (hk' u hu).below hb) h1 h2).mono fun _ _ ⟨r, a, b, c, _, e⟩ => ⟨r, a, b, c, e⟩
end Go.Proofs.Ytbcjlgkdmkehlaa
