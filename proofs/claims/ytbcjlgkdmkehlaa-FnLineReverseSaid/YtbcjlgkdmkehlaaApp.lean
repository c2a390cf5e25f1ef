/- Appends that make a new array: onto nil. The new row, where it lies, what it holds. -/
import Derived.OwnWalk
import Derived.Test.YtbcjlgkdmkehlaaRows
import Derived.Test.YtbcjlgkdmkehlaaBase
namespace Go.Proofs.Ytbcjlgkdmkehlaa
open Go.ChangeShapes Go.WideShapes Go.ChangeAt Go.RowKit
set_option maxRecDepth 100000
theorem Try.info29 : (Try.prog.info? 29).map (fun i => (i.zero, i.size, i.bytes)) = some (some (.float .f64 0), 1, 8) := by kernel_rfl
/-- the cells of a list lie in a block from its head, none frozen; the block is a row of type e -/
def RowOf (w : World) (g : Nat) (xs : List Value) : Prop := ∀ j u, xs[j]? = some u → w.cell? ⟨g, j, none⟩ = some u
theorem rowOf2 {w : World} {g : Nat} {u0 u1 : Value} (h0 : w.cell? ⟨g, 0, none⟩ = some u0) (h1 : w.cell? ⟨g, 1, none⟩ = some u1) : RowOf w g [u0, u1] := fun j u hu => by
  match j, hu with
  | 0, hu => simp at hu; subst hu; exact h0
  | 1, hu => simp at hu; subst hu; exact h1
theorem RowAt.news {w : World} {b : Nat} {xs : List Value} (h : RowAt w b 0 xs) : ∀ j u, xs[j]? = some u → w.cell? ((⟨b, 0, none⟩ : Addr).add j) = some u := fun j u hu => by
  have hadd : (⟨b, 0, none⟩ : Addr).add j = ⟨b, j, none⟩ := by unfold Addr.add; split <;> simp_all
  rw [hadd]
  simpa using h.get j u hu
theorem append_nil {P : Program} {w : World} {ops : Array Oper} {rest : List Oper} {o : Oper} {a : Act} {Q : Exit → Act → World → Prop} (hgd : o.guard = none) (s x : Operand) (t : TypeId)
    (ho : o.op = .call { callee := .builtin .append, args := #[s, x], argTypes := #[t, t] })
    (e : TypeId) (z : Value) (size bytes : Nat) (ht : P.underlying t = some (.slice e)) (hi : (P.info? e).map (fun i => (i.zero, i.size, i.bytes)) = some (some z, size, bytes)) (hzs : z.cells.size = size) (hsz : 0 < size)
    (hs : a.eval s = .slice none 0 0)
    (ad : Addr) (m c : Nat) (news : List Value) (hx : a.eval x = .slice (some ad) m c) (hm : 0 < m) (hl : news.length = m * size) (hnews : ∀ j u, news[j]? = some u → w.cell? (ad.add j) = some u) (h1 : ∀ u ∈ news, u.oneCell' = true)
    (h63 : m ≤ maxLen) (hbytes : m * bytes ≤ 140737488355328)
    (h : ∀ g cap w', w.heap.size ≤ g → g < w'.heap.size → m ≤ cap → RowOf w' g news → Below w.heap.size w w' → wpList P ops Q rest (a.put o.dst (.slice (some ⟨g, 0, none⟩) m cap)) w') : wpList P ops Q (o :: rest) a w := by
  obtain ⟨i, hi, hz, hsize, hby⟩ := info_parts hi
  refine wpList_append_own w hgd s x t ho w.heap.size e i z size bytes ht hi hz hsize hby hzs hsz (.slice none 0 0) 0 [] hs (World.ownsRow_nil _ _ _ _) ad m c news hx hl hnews h1 (by omega) (by simpa using hbytes) (Nat.le_refl _) ?_
  intro v' w' hown hgr hnil
  obtain ⟨hlen, hv | ⟨g, cap, cur, rfl, hg, hh, hn, hc, hcs, htk⟩⟩ := hown
  · have := (hnil.1 hv.1).2; omega
  · have hgb : (Value.slice (some ⟨g, 0, none⟩) (0 + m) cap).ownBlock = some g := rfl
    have C := World.ownsRow.cells (w := w') (base := w.heap.size) (e := e) (size := size) (v := .slice (some ⟨g, 0, none⟩) (0 + m) cap) (n := 0 + m) (xs := [] ++ news) ⟨hlen, .inr ⟨g, cap, cur, rfl, hg, hh, hn, hc, hcs, htk⟩⟩ rfl
    have hlt : g < w'.heap.size := by
      rcases Nat.lt_or_ge g w'.heap.size with h | h
      · exact h
      · rw [Array.getElem?_eq_none h] at hh; cases hh
    have := h g cap w' hg hlt (by omega) (fun j u hu => by
      have := C j u (by simpa using hu)
      have hadd : (⟨g, 0, none⟩ : Addr).add j = ⟨g, j, none⟩ := by unfold Addr.add; split <;> simp_all
      rwa [hadd] at this) ((Below.refl _ _).grown hgr (Nat.le_refl _) (fun k hk => by cases hk))
    simpa using this
end Go.Proofs.Ytbcjlgkdmkehlaa
