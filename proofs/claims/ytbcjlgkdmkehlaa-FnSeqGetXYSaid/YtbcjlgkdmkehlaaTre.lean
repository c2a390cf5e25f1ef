/- Regions that draw their order, walked along a tree of orders: where two heavy operations are ready at once, both ways. -/
import Derived.Test.YtbcjlgkdmkehlaaBase
namespace Go.Proofs.Ytbcjlgkdmkehlaa
open Go.ChangeShapes Go.WideShapes Go.ChangeAt Go.RowKit
set_option maxRecDepth 100000
/-- a tree of orders: light, heavy, two heavy ones in either order -/
inductive OT (α : Type) where
  | nil
  | lt (a : α) (t : OT α)
  | hv (a : α) (t : OT α)
  | hv2 (a : α) (t : OT α) (b : α) (u : OT α)
namespace OT
def depth {α : Type} : OT α → Nat
  | nil => 0
  | lt _ t => t.depth + 1
  | hv _ t => t.depth + 1
  | hv2 _ t _ _ => t.depth + 1
end OT
section
variable {P : Program} {ops : Array Oper} {S : World → Prop} {Q : Exit → Act → World → Prop} {md : Region.Mode}
def wpTr (P : Program) (ops : Array Oper) (S : World → Prop) (Q : Exit → Act → World → Prop) : OT Oper → Act → World → Prop
  | .nil, a, w => Q .normal a w
  | .lt o t, a, w => if Region.wanted o (yielded ops a.tmps) then (∃ v, (∀ w', S w' → (execOp a.eval o).run P w' = .ok (.value v) w') ∧ wpTr P ops S Q t (a.put o.dst v) w) else wpTr P ops S Q t (a.put o.dst undef) w
  | .hv o t, a, w => if Region.wanted o (yielded ops a.tmps) then o.wp P a w (fun a' w' => S w' ∧ wpTr P ops S Q t a' w') Q else wpTr P ops S Q t (a.put o.dst undef) w
  | .hv2 o t o' u, a, w => (if Region.wanted o (yielded ops a.tmps) then o.wp P a w (fun a' w' => S w' ∧ wpTr P ops S Q t a' w') Q else wpTr P ops S Q t (a.put o.dst undef) w) ∧
      (if Region.wanted o' (yielded ops a.tmps) then o'.wp P a w (fun a' w' => S w' ∧ wpTr P ops S Q u a' w') Q else wpTr P ops S Q u (a.put o'.dst undef) w)
theorem wpTr_hv {o : Oper} {t : OT Oper} {a : Act} {w : World}
    (h : ∀ (K : Act → World → Prop) (L : Act → Prop), (∀ a w, S w → wpTr P ops S Q t a w → K a w) → (∀ a, wpTr P ops S Q t a w → L a) → if Region.wanted o (yielded ops a.tmps) then o.wp P a w K Q else L (a.put o.dst undef)) : wpTr P ops S Q (.hv o t) a w := by
  have := h (fun a' w' => S w' ∧ wpTr P ops S Q t a' w') (fun a' => wpTr P ops S Q t a' w) (fun _ _ h1 h2 => ⟨h1, h2⟩) (fun _ h => h)
  unfold wpTr; exact this
theorem wpTr_hv2 {o o' : Oper} {t u : OT Oper} {a : Act} {w : World} (h : wpTr P ops S Q (.hv o t) a w) (h' : wpTr P ops S Q (.hv o' u) a w) : wpTr P ops S Q (.hv2 o t o' u) a w := by
  unfold wpTr at h h'
  unfold wpTr; exact ⟨h, h'⟩
theorem wpTr_lt {o : Oper} {t : OT Oper} {a : Act} {w : World}
    (h : ∀ K : Act → Prop, (∀ a, wpTr P ops S Q t a w → K a) → if Region.wanted o (yielded ops a.tmps) then (∃ v, (∀ w', S w' → (execOp a.eval o).run P w' = .ok (.value v) w') ∧ K (a.put o.dst v)) else K (a.put o.dst undef)) : wpTr P ops S Q (.lt o t) a w := by
  have := h (fun a' => wpTr P ops S Q t a' w) (fun _ h => h)
  unfold wpTr; exact this
theorem wpTr_nil {a : Act} {w : World} (h : Q .normal a w) : wpTr P ops S Q .nil a w := h
def trB (md : Region.Mode) (ops : Array Oper) : OT Nat → Array Bool → Bool
  | .nil, listed => Region.ready md ops listed == []
  | .hv i t, listed => (Region.ready md ops listed == [i]) && trB md ops t (listed.setIfInBounds i true)
  | .hv2 i t j u, listed => (Region.ready md ops listed == [i, j]) && trB md ops t (listed.setIfInBounds i true) && trB md ops u (listed.setIfInBounds j true) && (t.depth == u.depth)
  | .lt i t, listed => Region.free md ops listed i && (Region.ready md ops listed).contains i && trB md ops t (listed.setIfInBounds i true)
def pickT (l : List Oper) : OT Nat → OT Oper
  | .nil => .nil
  | .lt i t => match l[i]? with | some o => .lt o (pickT l t) | none => pickT l t
  | .hv i t => match l[i]? with | some o => .hv o (pickT l t) | none => pickT l t
  | .hv2 i t j u => match l[i]?, l[j]? with | some o, some o' => .hv2 o (pickT l t) o' (pickT l u) | _, _ => pickT l t
theorem tr_any (hs : Region.noSelect ops = true) (hQ : ∀ c (a : Act) d v w, Q (.panic c) (a.put d v) w → Q (.panic c) a w) : ∀ (t : OT Nat) (listed : Array Bool) (a : Act) (w : World), trB md ops t listed = true → S w →
    wpTr P ops S Q (pickT ops.toList t) a w → wpAnyH P md ops Q S t.depth listed a w
  | .nil, listed, a, w, hB, _, h => ⟨by simpa [trB] using hB, h⟩
  | .hv i t, listed, a, w, hB, hS, h => by
    simp only [trB, Bool.and_eq_true, beq_iff_eq] at hB
    obtain ⟨hr, hB⟩ := hB
    refine wpAnyH_all hr (by simp) ?_
    intro j hj
    obtain rfl : j = i := by simpa using hj
    obtain ⟨_, o, ho, _⟩ := mem_ready.1 (show j ∈ Region.ready md ops listed by rw [hr]; exact hj)
    have ho' : ops.toList[j]? = some o := by simpa using ho
    have e : pickT ops.toList (.hv j t) = .hv o (pickT ops.toList t) := by simp only [pickT, ho']
    rw [e] at h
    unfold wpOp
    simp only [ho]
    unfold wpTr at h
    by_cases hw : Region.wanted o (yielded ops a.tmps) = true
    · simp only [hw, if_true] at h ⊢
      exact .inl (Oper.wp_mono (fun a' w' h0 => ⟨h0.1, tr_any hs hQ t _ a' w' hB h0.1 h0.2⟩) h)
    · simp only [hw] at h ⊢
      exact ⟨hS, tr_any hs hQ t _ _ w hB hS h⟩
  | .hv2 i t i' u, listed, a, w, hB, hS, h => by
    simp only [trB, Bool.and_eq_true, beq_iff_eq] at hB
    obtain ⟨⟨⟨hr, hB⟩, hB'⟩, hd⟩ := hB
    obtain ⟨_, o, ho, _⟩ := mem_ready.1 (show i ∈ Region.ready md ops listed by rw [hr]; simp)
    obtain ⟨_, o', ho', _⟩ := mem_ready.1 (show i' ∈ Region.ready md ops listed by rw [hr]; simp)
    have hl : ops.toList[i]? = some o := by simpa using ho
    have hl' : ops.toList[i']? = some o' := by simpa using ho'
    have e : pickT ops.toList (.hv2 i t i' u) = .hv2 o (pickT ops.toList t) o' (pickT ops.toList u) := by simp only [pickT, hl, hl']
    rw [e] at h
    unfold wpTr at h
    obtain ⟨h1, h2⟩ := h
    refine wpAnyH_all hr (by simp) ?_
    intro j hj
    have hj' : j = i ∨ j = i' := by simpa using hj
    rcases hj' with rfl | rfl
    · unfold wpOp
      simp only [ho]
      by_cases hw : Region.wanted o (yielded ops a.tmps) = true
      · simp only [hw, if_true] at h1 ⊢
        exact .inl (Oper.wp_mono (fun a' w' h0 => ⟨h0.1, tr_any hs hQ t _ a' w' hB h0.1 h0.2⟩) h1)
      · simp only [hw] at h1 ⊢
        exact ⟨hS, tr_any hs hQ t _ _ w hB hS h1⟩
    · unfold wpOp
      simp only [ho']
      have hd' : (OT.hv2 i t j u).depth = u.depth + 1 := by simp only [OT.depth, hd]
      by_cases hw : Region.wanted o' (yielded ops a.tmps) = true
      · simp only [hw, if_true] at h2 ⊢
        exact .inl (Oper.wp_mono (fun a' w' h0 => ⟨h0.1, by rw [hd]; exact tr_any hs hQ u _ a' w' hB' h0.1 h0.2⟩) h2)
      · simp only [hw] at h2 ⊢
        exact ⟨hS, by rw [hd]; exact tr_any hs hQ u _ _ w hB' hS h2⟩
  | .lt i t, listed, a, w, hB, hS, h => by
    simp only [trB, Bool.and_eq_true] at hB
    obtain ⟨⟨hf, hr⟩, hB⟩ := hB
    obtain ⟨_, o, ho, _⟩ := mem_ready.1 (show i ∈ Region.ready md ops listed by simpa using hr)
    have ho' : ops.toList[i]? = some o := by simpa using ho
    have e : pickT ops.toList (.lt i t) = .lt o (pickT ops.toList t) := by simp only [pickT, ho']
    rw [e] at h
    unfold wpTr at h
    by_cases hw : Region.wanted o (yielded ops a.tmps) = true
    · simp only [hw, if_true] at h
      obtain ⟨v, h1, h2⟩ := h
      exact wpAnyH_take ho hs hf hr (fun c a w h => hQ c a _ _ w h) (.inl ⟨hw, h1⟩) hS (tr_any hs hQ t _ _ w hB hS h2)
    · simp only [hw] at h
      exact wpAnyH_take ho hs hf hr (fun c a w h => hQ c a _ _ w h) (.inr ⟨by simpa using hw, rfl⟩) hS (tr_any hs hQ t _ _ w hB hS h)
def trAll (l : List Oper) (t : OT Nat) : Bool := Region.noSelect l.toArray && (t.depth == l.length) && trB .any l.toArray t (Array.replicate l.length false)
/-- a region that draws its order, walked along a tree of orders -/
theorem wp_region_tree {id : Nat} {a : Act} {w : World} {l : List Oper} (t : OT Nat) (hm : P.follows .mixedOrders = true) (hB : trAll l t = true) (hQ : ∀ c (a : Act) d v w, Q (.panic c) (a.put d v) w → Q (.panic c) a w) (hS : S w.drew)
    (h : wpTr P l.toArray S Q (pickT l t) a w.drew) : (Code.region id l.toArray true).wp P Q a w := by
  simp only [trAll, Bool.and_eq_true, beq_iff_eq] at hB
  obtain ⟨⟨h1, h2⟩, h3⟩ := hB
  refine wp_region_held (S := S) hm ?_
  have := tr_any (md := .any) h1 hQ t (Array.replicate l.length false) a w.drew h3 hS (by simpa using h)
  rw [h2] at this
  simpa using this
end
end Go.Proofs.Ytbcjlgkdmkehlaa
