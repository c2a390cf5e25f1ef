/- How a geometry that came in reads: a kind, a type of coordinates, numbers in a row, kids in a row of four cells each, to the bottom. It reads the same behind calls that make new memory alone. -/
import Derived.Test.YtbcjlgkdmkehlaaRows
import Derived.Test.YtbcjlgkdmkehlaaRead
import Derived.Test.YtbcjlgkdmkehlaaApp
namespace Go.Proofs.Ytbcjlgkdmkehlaa
open Go.ChangeShapes Go.WideShapes Go.ChangeAt Go.RowKit
set_option maxRecDepth 100000
/-- the numbers lie in a row from an address on (none need be there where there are no numbers) -/
def FRow (w : World) (ad : Option Addr) (xs : List Nat) : Prop := ∀ (i : Nat) (x : Nat), xs[i]? = some x → ∃ b off, ad = some ⟨b, off, none⟩ ∧ w.cell? ⟨b, off + i, none⟩ = some (.float .f64 x)
/-- values of four cells each lie in a row from an address on -/
def KRow (w : World) (ad : Option Addr) (ks : List Value) : Prop := ∀ (i : Nat) (u : Value), ks[i]? = some u → ∃ b off c0 c1 c2 c3, ad = some ⟨b, off, none⟩ ∧ u = .agg #[c0, c1, c2, c3] ∧ w.cell? ⟨b, off + i * 4, none⟩ = some c0 ∧ w.cell? ⟨b, off + i * 4 + 1, none⟩ = some c1 ∧ w.cell? ⟨b, off + i * 4 + 2, none⟩ = some c2 ∧ w.cell? ⟨b, off + i * 4 + 3, none⟩ = some c3
/-- the value of a geometry -/
def gv (k d : Int) (nad : Option Addr) (nl ncp : Nat) (kad : Option Addr) (kl kcp : Nat) : Value := .agg #[.int .i64 k, .int .i64 d, .slice nad nl ncp, .slice kad kl kcp]
def i64in (k : Int) : Prop := -9223372036854775808 ≤ k ∧ k ≤ 9223372036854775807
/-- a geometry's own cells are in order -/
structure Own (w : World) (k d : Int) (nad : Option Addr) (ncp : Nat) (xs : List Nat) (kad : Option Addr) (kcp : Nat) (ks : List Value) : Prop where
  kIn : i64in k
  dIn : i64in d
  nCap : xs.length ≤ ncp
  nMax : ncp ≤ maxLen
  kCap : ks.length ≤ kcp
  kMax : kcp ≤ maxLen
  nNil : nad = none → ncp = 0
  kNil : kad = none → kcp = 0
  bits : ∀ x ∈ xs, x < 18446744073709551616
  nums : FRow w nad xs
  kids : KRow w kad ks
def GeoAt (w : World) : Nat → Value → Prop
  | 0, _ => False
  | n + 1, v => ∃ k d nad ncp xs kad kcp ks, v = gv k d nad xs.length ncp kad ks.length kcp ∧ Own w k d nad ncp xs kad kcp ks ∧ ∀ u ∈ ks, GeoAt w n u
theorem FRow.below {w w' : World} {ad : Option Addr} {xs : List Nat} (h : FRow w ad xs) (hb : Below w.heap.size w w') : FRow w' ad xs := fun i x hx => by
  obtain ⟨b, off, e, hc⟩ := h i x hx
  exact ⟨b, off, e, (hb.cell (World.block_lt_of_cell? w _ hc)).trans hc⟩
theorem KRow.below {w w' : World} {ad : Option Addr} {ks : List Value} (h : KRow w ad ks) (hb : Below w.heap.size w w') : KRow w' ad ks := fun i u hu => by
  obtain ⟨b, off, c0, c1, c2, c3, e, eu, h0, h1, h2, h3⟩ := h i u hu
  exact ⟨b, off, c0, c1, c2, c3, e, eu, (hb.cell (World.block_lt_of_cell? w _ h0)).trans h0, (hb.cell (World.block_lt_of_cell? w _ h1)).trans h1, (hb.cell (World.block_lt_of_cell? w _ h2)).trans h2, (hb.cell (World.block_lt_of_cell? w _ h3)).trans h3⟩
theorem Own.below {w w' : World} {k d : Int} {nad : Option Addr} {ncp : Nat} {xs : List Nat} {kad : Option Addr} {kcp : Nat} {ks : List Value} (h : Own w k d nad ncp xs kad kcp ks) (hb : Below w.heap.size w w') : Own w' k d nad ncp xs kad kcp ks :=
  ⟨h.kIn, h.dIn, h.nCap, h.nMax, h.kCap, h.kMax, h.nNil, h.kNil, h.bits, h.nums.below hb, h.kids.below hb⟩
theorem GeoAt.below {w w' : World} (hb : Below w.heap.size w w') : ∀ {n : Nat} {v : Value}, GeoAt w n v → GeoAt w' n v
  | 0, _, h => h
  | _ + 1, _, ⟨k, d, nad, ncp, xs, kad, kcp, ks, e, ho, hk⟩ => ⟨k, d, nad, ncp, xs, kad, kcp, ks, e, ho.below hb, fun u hu => (hk u hu).below hb⟩
theorem GeoAt.mono {w : World} : ∀ {n : Nat} {v : Value}, GeoAt w n v → GeoAt w (n + 1) v
  | 0, _, h => h.elim
  | _ + 1, _, ⟨k, d, nad, ncp, xs, kad, kcp, ks, e, ho, hk⟩ => ⟨k, d, nad, ncp, xs, kad, kcp, ks, e, ho, fun u hu => (hk u hu).mono⟩
theorem add_cell {w : World} {a : Addr} {i : Nat} {v : Value} (h : w.cell? (a.add i) = some v) (h0 : a.spot = none) : w.cell? ⟨a.block, a.off + i, none⟩ = some v := by
  obtain ⟨b, off, spot⟩ := a
  simp only at h0
  subst h0
  unfold Addr.add at h
  split at h
  · subst i; simpa using h
  · exact h
theorem spot_of {w : World} {a : Addr} {v : Value} (h : w.cell? (a.add 0) = some v) : a.spot = none := by
  have := World.cell?_spot h
  simpa [Addr.add] using this
theorem Try.cells49 : Try.prog.cellsOf 49 = 4 := by kernel_rfl
theorem Try.cells3 : Try.prog.cellsOf 3 = 1 := by kernel_rfl
theorem Try.cells46 : Try.prog.cellsOf 46 = 1 := by kernel_rfl
theorem Try.cells47 : Try.prog.cellsOf 47 = 1 := by kernel_rfl
theorem Try.cells29 : Try.prog.cellsOf 29 = 1 := by kernel_rfl
section
variable {H : Type} {enc : TypeId × Value → H} {W : World} {base : Nat} {spare : Nat → Bool} {held : Bool}
theorem floats_of {n : Nat} {c : Value} {x : DataW H × List MemPlace} (h : DataW.trod enc Try.prog W base spare held n 46 [c] = some x) :
    ∃ nad ncp xs, c = .slice nad (List.length xs) ncp ∧ xs.length ≤ ncp ∧ ncp ≤ maxLen ∧ (nad = none → ncp = 0) ∧ (∀ x ∈ xs, x < 18446744073709551616) ∧ FRow W nad xs := by
  rcases Go.Deep.open_slice1 Try.underlying46 Try.cells29 h with ⟨hc, -⟩ | ⟨a, len, cap, m, n', V, D, Pl, hc, hb, hl, hm, hmm, -, hx⟩
  · refine ⟨none, 0, [], by simpa using hc, Nat.le_refl _, by decide, fun _ => rfl, by simp, fun i x hx => by simp at hx⟩
  · have hlm : len ≤ m := by rw [hmm]; split <;> omega
    have hV : ∀ i, i < len → ∃ x, V i = .float .f64 x ∧ x < 18446744073709551616 := fun i hi => trod_f64 Try.underlying29 (hx i (by omega)).2
    obtain ⟨X, hX⟩ := Classical.axiomOfChoice (r := fun (i : Nat) (x : Nat) => i < len → V i = .float .f64 x ∧ x < 18446744073709551616) (fun i => by
      by_cases hi : i < len
      · obtain ⟨x, hx⟩ := hV i hi; exact ⟨x, fun _ => hx⟩
      · exact ⟨0, fun h => absurd h hi⟩)
    refine ⟨some a, cap, (List.range len).map X, by simpa using hc, by simpa using hl, hm, (fun h => by cases h), ?_, ?_⟩
    · intro x hx
      obtain ⟨i, hi, rfl⟩ := List.mem_map.1 hx
      exact (hX i (List.mem_range.1 hi)).2
    · intro i x hi
      have hil : i < len := by
        rcases Nat.lt_or_ge i len with h | h
        · exact h
        · rw [List.getElem?_eq_none (by simpa using h)] at hi; cases hi
      have e : X i = x := by simpa [hil] using hi
      have hs := spot_of (hx 0 (by omega)).1
      refine ⟨a.block, a.off, by cases a; simp at hs; rw [hs], ?_⟩
      have := add_cell (hx i (by omega)).1 hs
      rw [this, (hX i hil).1, e]
theorem geo_of : ∀ (fuel : Nat) (cs : List Value) (x : DataW H × List MemPlace), DataW.trod enc Try.prog W base spare held fuel 49 cs = some x → ∃ c0 c1 c2 c3, cs = [c0, c1, c2, c3] ∧ GeoAt W (fuel + 1) (.agg #[c0, c1, c2, c3]) := by
  intro fuel
  induction fuel using Nat.strongRecOn with
  | _ fuel ih =>
    intro cs x h
    obtain ⟨xs, n, rfl, -, hl, hlen, hf⟩ := DataW.trod_struct Try.underlying49 h
    rw [Try.cells49] at hl
    match cs, hl with
    | [c0, c1, c2, c3], _ =>
      refine ⟨c0, c1, c2, c3, rfl, ?_⟩
      obtain ⟨y0, y1, y2, y3, rfl⟩ : ∃ y0 y1 y2 y3, xs = [y0, y1, y2, y3] := by
        match xs, hlen with
        | [y0, y1, y2, y3], _ => exact ⟨_, _, _, _, rfl⟩
      have e0 : DataW.trod enc Try.prog W base spare held n 3 [c0] = some y0 := by simpa [Try.cells3] using hf 0 _ rfl
      have e1 : DataW.trod enc Try.prog W base spare held n 3 [c1] = some y1 := by simpa [Try.cells3] using hf 1 _ rfl
      have e2 : DataW.trod enc Try.prog W base spare held n 46 [c2] = some y2 := by simpa [Try.cells46] using hf 2 _ rfl
      have e3 : DataW.trod enc Try.prog W base spare held n 47 [c3] = some y3 := by simpa [Try.cells47] using hf 3 _ rfl
      clear hf
      obtain ⟨k, hk, -, wk⟩ := DataW.trod_int Try.underlying3 e0
      obtain ⟨d, hd, -, wd⟩ := DataW.trod_int Try.underlying3 e1
      simp only [List.cons.injEq, and_true] at hk hd
      subst hk hd
      obtain ⟨nad, ncp, ys, rfl, h1, h2, h2', h3, h4⟩ := floats_of e2
      rcases DataW.trod_slice Try.underlying47 e3 with ⟨hc, -⟩ | ⟨a, len, cap, elems, rest, n', rfl, hc, -, hb, hle, hm, hel, hx, -, -⟩
      · simp only [List.cons.injEq, and_true] at hc
        subst hc
        exact ⟨k, d, nad, ncp, ys, none, 0, [], rfl, ⟨wf_i64 wk, wf_i64 wd, h1, h2, Nat.le_refl _, by decide, h2', fun _ => rfl, h3, h4, fun i u hu => by simp at hu⟩, fun u hu => by simp at hu⟩
      · simp only [List.cons.injEq, and_true] at hc
        subst hc
        rw [Try.cells49] at hx
        have E : ∀ i, i < len → ∃ u0 u1 u2 u3, W.cells? base (a.add (i * 4)) 4 = some [u0, u1, u2, u3] ∧ GeoAt W (n' + 1 + 1) (.agg #[u0, u1, u2, u3]) := by
          intro i hi
          have hxi := hx i hi
          rw [List.getElem?_eq_getElem (by omega)] at hxi
          obtain ⟨cs', h5, h6⟩ := Option.bind_eq_some_iff.1 hxi
          obtain ⟨u0, u1, u2, u3, rfl, hg⟩ := ih n' (by omega) cs' _ h6
          exact ⟨u0, u1, u2, u3, h5, hg.mono⟩
        obtain ⟨U, hU⟩ := Classical.axiomOfChoice (r := fun (i : Nat) (u : Value × Value × Value × Value) => i < len → W.cells? base (a.add (i * 4)) 4 = some [u.1, u.2.1, u.2.2.1, u.2.2.2] ∧ GeoAt W (n' + 1 + 1) (.agg #[u.1, u.2.1, u.2.2.1, u.2.2.2])) (fun i => by
          by_cases hi : i < len
          · obtain ⟨u0, u1, u2, u3, hu⟩ := E i hi; exact ⟨(u0, u1, u2, u3), fun _ => hu⟩
          · exact ⟨(.nilIface, .nilIface, .nilIface, .nilIface), fun h => absurd h hi⟩)
        refine ⟨k, d, nad, ncp, ys, some a, cap, (List.range len).map fun i => .agg #[(U i).1, (U i).2.1, (U i).2.2.1, (U i).2.2.2], ?_, ⟨wf_i64 wk, wf_i64 wd, h1, h2, by simpa using hle, hm, h2', (fun h => by cases h), h3, h4, ?_⟩, ?_⟩
        · simp [gv]
        · intro i u hu
          have hil : i < len := by
            rcases Nat.lt_or_ge i len with h | h
            · exact h
            · rw [List.getElem?_eq_none (by simpa using h)] at hu; cases hu
          have e : Value.agg #[(U i).1, (U i).2.1, (U i).2.2.1, (U i).2.2.2] = u := by simpa [hil] using hu
          have hs : a.spot = none := by
            have := (World.cells?_some (hU 0 (by omega)).1).2.2 0 (by omega)
            simp only [Nat.zero_mul, List.getElem?_cons_zero] at this
            rw [show (a.add 0).add 0 = a.add 0 from by simp [Addr.add]] at this
            exact spot_of this
          have hc := (World.cells?_some (hU i hil).1).2.2
          have key : ∀ j v, j < 4 → [(U i).1, (U i).2.1, (U i).2.2.1, (U i).2.2.2][j]? = some v → W.cell? ⟨a.block, a.off + i * 4 + j, none⟩ = some v := by
            intro j v hj hv
            have h7 := hc j hj
            rw [hv, Go.Deep.add_add] at h7
            have := add_cell h7 hs
            rwa [← Nat.add_assoc] at this
          refine ⟨a.block, a.off, (U i).1, (U i).2.1, (U i).2.2.1, (U i).2.2.2, by cases a; simp at hs; rw [hs], e.symm, key 0 _ (by omega) rfl, key 1 _ (by omega) rfl, key 2 _ (by omega) rfl, key 3 _ (by omega) rfl⟩
        · intro u hu
          obtain ⟨i, hi, rfl⟩ := List.mem_map.1 hu
          exact (hU i (List.mem_range.1 hi)).2
theorem readGeom {r : Reach} {b0 : Nat} {v : Value} {d : DataW H} {p : List MemPlace} (hv : Value.okWide Try.prog W r b0 49 v) (h : DataW.Trod enc Try.prog W base spare held 49 v d p) : ∃ n, GeoAt W n v := by
  obtain ⟨cs, rfl, -⟩ := okWide_struct Try.underlying49 hv
  obtain ⟨fuel, hf⟩ := h
  obtain ⟨c0, c1, c2, c3, e, hg⟩ := geo_of fuel _ _ hf
  refine ⟨fuel + 1, ?_⟩
  have : cs = #[c0, c1, c2, c3] := by
    cases cs
    simpa [Value.cells] using e
  rw [this]
  exact hg
end
end Go.Proofs.Ytbcjlgkdmkehlaa
