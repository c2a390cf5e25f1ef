/- All numbers of a line string: its own. Condition: at most 2000 of them, no parts. -/
import Derived.Test.YtbcjlgkdmkehlaaRows
import Derived.Test.YtbcjlgkdmkehlaaSen
namespace Go.Proofs.Ytbcjlgkdmkehlaa
open Go.ChangeShapes Go.WideShapes Go.ChangeAt Go.RowKit Fl
set_option maxRecDepth 100000
set_option linter.unusedSimpArgs false
/-- append to an empty row -/
theorem append_empty {P : Program} {w : World} {ops : Array Oper} {rest : List Oper} {o : Oper} {a : Act} {Q : Exit → Act → World → Prop} (hgd : o.guard = none) (s x : Operand) (t : TypeId)
    (ho : o.op = .call { callee := .builtin .append, args := #[s, x], argTypes := #[t, t] })
    (e : TypeId) (z : Value) (size bytes : Nat) (ht : P.underlying t = some (.slice e)) (hi : (P.info? e).map (fun i => (i.zero, i.size, i.bytes)) = some (some z, size, bytes)) (hzs : z.cells.size = size) (hsz : 0 < size)
    (base b0 : Nat) (h0 : w.heap[b0]? = some (.cells #[] e (0, 0))) (hb0 : base ≤ b0) (hs : a.eval s = .slice (some ⟨b0, 0, none⟩) 0 0)
    (ad : Addr) (m c : Nat) (news : List Value) (hx : a.eval x = .slice (some ad) m c) (hl : news.length = m * size) (hnews : ∀ j u, news[j]? = some u → w.cell? (ad.add j) = some u) (h1 : ∀ u ∈ news, u.oneCell' = true)
    (h63 : m ≤ maxLen) (hbytes : m * bytes ≤ 140737488355328)
    (h : ∀ g cap w', base ≤ g → g < w'.heap.size → m ≤ cap → RowOf w' g news → Below base w w' → wpList P ops Q rest (a.put o.dst (.slice (some ⟨g, 0, none⟩) m cap)) w') : wpList P ops Q (o :: rest) a w := by
  obtain ⟨i, hi, hz, hsize, hby⟩ := info_parts hi
  have hb0w : b0 < w.heap.size := by
    rcases Nat.lt_or_ge b0 w.heap.size with h | h
    · exact h
    · rw [Array.getElem?_eq_none h] at h0; cases h0
  refine wpList_append_own w hgd s x t ho base e i z size bytes ht hi hz hsize hby hzs hsz (.slice (some ⟨b0, 0, none⟩) 0 0) 0 [] hs ⟨by simp, .inr ⟨b0, 0, #[], rfl, hb0, h0, Nat.le_refl _, Nat.zero_le _, by simp, by simp⟩⟩ ad m c news hx hl hnews h1 (by omega) (by simpa using hbytes) (by omega) ?_
  intro v' w' hown hgr hnil
  obtain ⟨hlen, hv | ⟨g, cap, cur, rfl, hg, hh, hn, hc, hcs, htk⟩⟩ := hown
  · have := (hnil.1 hv.1).1; cases this
  · have C := World.ownsRow.cells (w := w') (base := base) (e := e) (size := size) (v := .slice (some ⟨g, 0, none⟩) (0 + m) cap) (n := 0 + m) (xs := [] ++ news) ⟨hlen, .inr ⟨g, cap, cur, rfl, hg, hh, hn, hc, hcs, htk⟩⟩ rfl
    have hlt : g < w'.heap.size := by
      rcases Nat.lt_or_ge g w'.heap.size with h | h
      · exact h
      · rw [Array.getElem?_eq_none h] at hh; cases hh
    have := h g cap w' hg hlt (by omega) (fun j u hu => by
      have := C j u (by simpa using hu)
      have hadd : (⟨g, 0, none⟩ : Addr).add j = ⟨g, j, none⟩ := by unfold Addr.add; split <;> simp_all
      rwa [hadd] at this) ((Below.refl _ _).grown hgr (by omega) (fun k hk => by cases hk; exact hb0))
    simpa using this
theorem heap_last (w : World) (o : Obj) : (w.alloc o).heap[w.heap.size]? = some o := by
  show (w.heap.push o)[w.heap.size]? = some o
  simp
theorem allNumsC (dm : Int) (b off m cp : Nat) (ys : List Nat) (hl : ys.length = m) (hm : 0 < m) (hm2 : m < 2000) (w : World) (hF : FRow w (some ⟨b, off, none⟩) ys) :
    Calls Try.prog 90 #[.agg #[.int .i64 2, .int .i64 dm, .slice (some ⟨b, off, none⟩) m cp, .slice none 0 0]] w fun e w' => ∃ g c, e = .returned (.slice (some ⟨g, 0, none⟩) m c) ∧ RowOf w' g (ys.map (Value.float .f64)) ∧ g < w'.heap.size ∧ Below w.heap.size w w' := by
  have HMX : Hid (m ≤ maxLen) := hid (by unfold maxLen; omega)
  have HNL : Hid ((ys.map (Value.float .f64)).length = m * 1) := hid (by rw [List.length_map, hl, Nat.mul_one])
  have HC : Hid (∀ j u, (ys.map (Value.float .f64))[j]? = some u → w.cell? ((⟨b, off, none⟩ : Addr).add j) = some u) := hid (fun j u hu => by
    rw [List.getElem?_map] at hu
    cases hx : ys[j]? with
    | none => rw [hx] at hu; cases hu
    | some x =>
      rw [hx] at hu
      obtain ⟨b', off', e, hc⟩ := hF j x hx
      cases e
      cases hu
      rw [add_plain0]
      exact hc)
  have H1 : Hid (∀ u ∈ ys.map (Value.float .f64), u.oneCell' = true) := hid (fun u hu => by
    obtain ⟨x, _, rfl⟩ := List.mem_map.1 hu
    rfl)
  generalize ys.map (Value.float .f64) = news at *
  clear hF hl
  go_enter Try.func90, Try.ntmps90
  go_wp2_with (at_builtin; refine append_empty rfl (.tmp 6) (.tmp 8) 46 rfl 29 (.float .f64 0) 1 8 Try.underlying46 Try.info29 rfl (by decide) (w.heap.size + 1) (w.heap.size + 1) (by have h := heap_last (w.alloc (Obj.cells #[.int .i64 2, .int .i64 dm, .slice (some ⟨b, off, none⟩) m cp, .slice none 0 0] 49)) (Obj.cells #[] 29); simpa using h) (Nat.le_refl _) rfl ⟨b, off, none⟩ m cp news rfl HNL.out (fun j u hu => ((Below.alloc (Below.alloc (Below.refl w.heap.size w) (Nat.le_refl _) _) (by simp) _).cell (World.block_lt_of_cell? w _ (HC.out j u hu))).trans (HC.out j u hu)) H1.out HMX.out (by omega) ?_; intro g cap w2 hg1 hg2 hcap hrow hbl; have HR := hid hrow; have f3 : w2.cell? ⟨w.heap.size, 3, none⟩ = some (.slice none 0 0) := (hbl.cell (by simp)).trans (by go_cell); have HB2 := hid ((Below.alloc (Below.alloc (Below.refl w.heap.size w) (Nat.le_refl _) (Obj.cells #[.int .i64 2, .int .i64 dm, .slice (some ⟨b, off, none⟩) m cp, .slice none 0 0] 49)) (by simp) (Obj.cells #[] 29)).trans (hbl.mono (by omega))); clear hrow hbl)
  refine wp_loop_rounds 1 ?_
  rw [rounds_succ]
  go_wp2_with fail
  go_ret
  exact ⟨g, cap, rfl, HR.out, hg2, HB2.out⟩
theorem allNums0 (dm : Int) (w : World) : Calls Try.prog 90 #[.agg #[.int .i64 2, .int .i64 dm, .slice none 0 0, .slice none 0 0]] w fun e w' => ∃ a c, e = .returned (.slice a 0 c) ∧ Below w.heap.size w w' := by
  go_enter Try.func90, Try.ntmps90
  go_wp2_with fail
  refine wp_loop_rounds 1 ?_
  rw [rounds_succ]
  go_wp2_with fail
  go_ret
  exact ⟨some ⟨w.heap.size + 1, 0, none⟩, 0, rfl, by go_grown⟩
end Go.Proofs.Ytbcjlgkdmkehlaa
