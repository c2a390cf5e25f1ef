/- The laws' test of all numbers of a geometry: each is finite. -/
import Derived.Test.YtbcjlgkdmkehlaaRows
import Derived.Test.YtbcjlgkdmkehlaaSml
import Derived.Test.YtbcjlgkdmkehlaaEnv
namespace Go.Proofs.Ytbcjlgkdmkehlaa
open Go.ChangeShapes Go.WideShapes Go.ChangeAt Go.RowKit Fl
set_option maxRecDepth 100000
set_option linter.unusedSimpArgs false
/-- not finite -/
def nfB (x : Nat) : Bool := !finB x
theorem gFin (x : Nat) (h : x < 18446744073709551616) (w : World) : Calls Try.prog 42 #[.float .f64 x] w fun e w' => e = .returned (.bool (!nfB x)) ∧ Below w.heap.size w w' := by
  unfold nfB
  rw [Bool.not_not]
  exact quiet_below (gFinite x h w)
set_option maxHeartbeats 2000000 in
theorem gAllF1 (k d : Int) (nad : Option Addr) (ncp : Nat) (xs : List Nat) (kad : Option Addr) (kcp : Nat) (ks : List Value) (w : World) (ho : Own w k d nad ncp xs kad kcp ks)
    (KV : ∀ (i : Nat) u, ks[i]? = some u → ∃ k d nad nl ncp kad kl kcp, u = gv k d nad nl ncp kad kl kcp)
    (KID : ∀ (i : Nat) u, ks[i]? = some u → ∀ wr, Below w.heap.size w wr → Calls Try.prog 34 #[u, .func (.func 42) #[] #[]] wr (Says (fun _ => True) wr)) :
    Calls Try.prog 34 #[gv k d nad xs.length ncp kad ks.length kcp, .func (.func 42) #[] #[]] w (Says (fun r => r = true → ∀ x ∈ xs, nfB x = false) w) := by
  have hxl : xs.length ≤ 9223372036854775807 := by
    have h1 := ho.nCap
    have h2 := ho.nMax
    unfold maxLen at h2
    omega
  have hkl2 : ks.length ≤ 9223372036854775807 := by
    have h1 := ho.kCap
    have h2 := ho.kMax
    unfold maxLen at h2
    omega
  have KR := hid ho.kids
  have FR := hid ho.nums
  have BT := hid ho.bits
  clear ho
  have KID' := hid KID
  have KV' := hid KV
  clear KV
  clear KID
  have GN := hid gFin
  unfold gv
  generalize hnl : xs.length = nl at *
  generalize hkl : ks.length = kl at *
  go_enter Try.func34, Try.ntmps34
  go_wp2_with fail
  go_loopw [12] (fun iv wr => ∃ i : Nat, i ≤ nl ∧ iv = .int .i64 i ∧ (∀ x ∈ xs.take i, nfB x = false) ∧ w.heap.size < wr.heap.size ∧ Below w.heap.size w wr ∧ RowAt wr w.heap.size 0 [.int .i64 k, .int .i64 d, .slice nad nl ncp, .slice kad kl kcp])
    (fun iv _ => nl - (intOf iv).toNat)
  case atStart => exact ⟨0, Nat.zero_le _, rfl, by simp, by simp, by go_grown, row4.2 ⟨by go_cell, by go_cell, by go_cell, by go_cell, trivial⟩⟩
  case round =>
    obtain ⟨i, hi, rfl, hok, hsz, hbl, hr⟩ := hrel
    obtain ⟨c0, c1, c2, c3, -⟩ := row4.1 hr
    clear hr
    have HB := hid hbl
    have HOK := hid hok
    clear hok
    by_cases hlt : i < nl
    · obtain ⟨x, hx⟩ : ∃ x, xs[i]? = some x := ⟨_, List.getElem?_eq_getElem (by omega)⟩
      obtain ⟨b, off, rfl, hc⟩ := FR.out i x hx
      have e0 := (hbl.cell (World.block_lt_of_cell? w _ hc)).trans hc
      clear hbl
      have HX := hid hx
      clear hx hc
      have GX := hid (GN.out x (BT.out x (List.mem_of_getElem? HX.out)))
      have HN : Hid (∀ b, nfB x = b → (b = false → ∀ y ∈ xs.take (i + 1), nfB y = false)) := hid (fun b hb hb0 y hy => by
        rw [List.take_add_one, HX.out] at hy
        rcases List.mem_append.1 hy with hy | hy
        · exact HOK.out y hy
        · simp at hy; subst hy; exact hb.trans hb0)
      have HN2 := hid (HN.out _ rfl)
      clear HN
      generalize nfB x = nb at *
      cases nb
      · go_wp2_with (go_at_call 42; (with_reducible refine (GX.out _).mono ?_); rintro e w' ⟨rfl, hbl⟩; have f0 := (hbl.cell (World.block_lt_of_cell? wr _ c0)).trans c0; have f1 := (hbl.cell (World.block_lt_of_cell? wr _ c1)).trans c1; have f2 := (hbl.cell (World.block_lt_of_cell? wr _ c2)).trans c2; have f3 := (hbl.cell (World.block_lt_of_cell? wr _ c3)).trans c3; have HB2 := hid (HB.out.trans (hbl.mono HB.out.size)); have hsz2 := Nat.lt_of_lt_of_le hsz hbl.size; clear hbl)
        go_roundw
        case rel => exact ⟨i + 1, by omega, by go_num, (by first | exact HN2.out rfl | exact HN2.out trivial | exact HN2.out), hsz2, HB2.out, row4.2 ⟨f0, f1, f2, f3, trivial⟩⟩
        case measure => simp [intOf]; omega
      · go_wp2_with (go_at_call 42; (with_reducible refine (GX.out _).mono ?_); rintro e w' ⟨rfl, hbl⟩; have HB2 := hid (HB.out.trans (hbl.mono HB.out.size)); clear hbl)
        go_ret
        exact ⟨false, rfl, (fun h => by cases h), HB2.out⟩
    · clear hbl
      have HALL : Hid (∀ x ∈ xs, nfB x = false) := hid (fun x hx => HOK.out x (by rw [show i = xs.length from by omega, List.take_length]; exact hx))
      clear HOK
      go_wp2_with fail
      go_loopw [24] (fun iv ws => ∃ i : Nat, i ≤ kl ∧ iv = .int .i64 i ∧ w.heap.size < ws.heap.size ∧ Below w.heap.size w ws) (fun iv _ => kl - (intOf iv).toNat)
      case atStart => exact ⟨0, Nat.zero_le _, rfl, hsz, HB.out⟩
      case round =>
        obtain ⟨j, hj, rfl, hsz', hbl⟩ := hrel
        have HC := hid hbl
        by_cases hjt : j < kl
        · obtain ⟨b, off, u0, u1, u2, u3, rfl, hu, d0, d1, d2, d3⟩ := KR.out j ks[j] (List.getElem?_eq_getElem (by omega))
          have e0 := (hbl.cell (World.block_lt_of_cell? w _ d0)).trans d0
          have e1 := (hbl.cell (World.block_lt_of_cell? w _ d1)).trans d1
          have e2 := (hbl.cell (World.block_lt_of_cell? w _ d2)).trans d2
          have e3 := (hbl.cell (World.block_lt_of_cell? w _ d3)).trans d3
          have IH := KID'.out j ks[j] (List.getElem?_eq_getElem (by omega))
          obtain ⟨k', d', nad', nl', ncp', kad', kl', kcp', hv⟩ := KV'.out j ks[j] (List.getElem?_eq_getElem (by omega))
          rw [hu] at IH hv
          simp only [gv, Value.agg.injEq, Array.mk.injEq, List.cons.injEq, and_true] at hv
          obtain ⟨rfl, rfl, rfl, rfl⟩ := hv
          replace IH := hid IH
          clear hbl d0 d1 d2 d3 hu
          have q0 : b < wr.heap.size := World.block_lt_of_cell? _ _ e0
          have q1 : ¬ b = wr.heap.size := by omega
          go_wp2_with (go_at_call 34; (with_reducible refine (IH.out _ (HC.out.alloc (by omega) _)).mono ?_); rintro e w' ⟨r, rfl, -, hbl⟩; have HB2 := hid (HC.out.trans ((Below.alloc (Below.refl _ _) (by omega) _).trans (hbl.mono (by simp; omega)))); have hsz2 : w.heap.size < w'.heap.size := (by have := hbl.size; simp at this; omega); clear hbl; cases r)
          · go_ret
            exact ⟨false, rfl, (fun h => by cases h), HB2.out⟩
          · go_roundw
            case rel => exact ⟨j + 1, by omega, by go_num, hsz2, HB2.out⟩
            case measure => simp [intOf]; omega
        · clear hbl
          go_wp2_with fail
          go_ret
          exact ⟨true, rfl, fun _ => HALL.out, HC.out⟩
theorem gAllF : ∀ (n : Nat) (k d : Int) (nad : Option Addr) (ncp : Nat) (xs : List Nat) (kad : Option Addr) (kcp : Nat) (ks : List Value) (w : World), Own w k d nad ncp xs kad kcp ks → (∀ u ∈ ks, GeoAt w n u) →
    Calls Try.prog 34 #[gv k d nad xs.length ncp kad ks.length kcp, .func (.func 42) #[] #[]] w (Says (fun r => r = true → ∀ x ∈ xs, nfB x = false) w)
  | 0, k, d, nad, ncp, xs, kad, kcp, ks, w, ho, hk => gAllF1 k d nad ncp xs kad kcp ks w ho (fun _ u hu => (hk u (List.mem_of_getElem? hu)).elim) fun _ u hu => (hk u (List.mem_of_getElem? hu)).elim
  | n + 1, k, d, nad, ncp, xs, kad, kcp, ks, w, ho, hk => gAllF1 k d nad ncp xs kad kcp ks w ho
      (fun _ u hu => by
        obtain ⟨k', d', nad', ncp', xs', kad', kcp', ks', e, -⟩ := hk u (List.mem_of_getElem? hu)
        exact ⟨_, _, _, _, _, _, _, _, e⟩)
      fun _ u hu wr hb => by
        obtain ⟨k', d', nad', ncp', xs', kad', kcp', ks', rfl, ho', hk'⟩ := hk u (List.mem_of_getElem? hu)
        exact (gAllF n k' d' nad' ncp' xs' kad' kcp' ks' wr (ho'.below hb) (fun u hu => (hk' u hu).below hb)).mono fun _ _ ⟨r, a, _, c⟩ => ⟨r, a, trivial, c⟩
end Go.Proofs.Ytbcjlgkdmkehlaa
