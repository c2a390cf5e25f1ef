/- Regions that draw their order, walked along a tree of orders: where two heavy operations are ready at once, both ways; where more are, in any order, by facts that new memory does not touch. -/
import Derived.Test.YtbcjlgkdmkehlaaBase
namespace Go.Proofs.Ytbcjlgkdmkehlaa
open Go.ChangeShapes Go.WideShapes Go.ChangeAt Go.RowKit
set_option maxRecDepth 100000
/-- a tree of orders: light, heavy, two heavy ones in either order, some heavy ones in any order -/
inductive OT (α : Type) where
  | nil
  | lt (a : α) (t : OT α)
  | hv (a : α) (t : OT α)
  | hv2 (a : α) (t : OT α) (b : α) (u : OT α)
  | soft (ks : List (Nat × α)) (li : List Nat) (t : OT α)
namespace OT
def depth {α : Type} : OT α → Nat
  | nil => 0
  | lt _ t => t.depth + 1
  | hv _ t => t.depth + 1
  | hv2 _ t _ _ => t.depth + 1
  | soft ks _ t => ks.length + t.depth
end OT
section
variable {P : Program} {ops : Array Oper} {S : World → Prop} {Q : Exit → Act → World → Prop}
/-- the block to which a value leads: a pointer's, a slice's, that of a struct's third part -/
def blockOf : Value → Nat
  | .pointer (some a) => a.block
  | .slice (some a) _ _ => a.block
  | .agg cs => match cs[2]? with | some (Value.slice (some a) _ _) => a.block | _ => 0
  | _ => 0
def upd (u : Nat → Value) (k : Nat) (v : Value) : Nat → Value := fun i => if i = k then v else u i
/-- some operations in any order: each yields a value of which a fact holds that new memory does not touch -/
def softP (P : Program) (S : World → Prop) (Q : Exit → Act → World → Prop) (os : List (Nat × Oper)) (li : List Nat) (K : Act → World → Prop) (a : Act) (w0 : World) : Prop :=
  ∃ (tm : (Nat → Value) → Act) (u0 : Nat → Value) (F : Nat → Value → World → Prop) (al : List Nat),
    a = tm u0 ∧ (∀ p ∈ os, p.2.guard = none) ∧ (∀ k v w w', Below w.heap.size w w' → F k v w → F k v w') ∧
    (∀ p ∈ os, p.1 ∉ li → ∀ u w, Below w0.heap.size w0 w → S w → (∀ p' ∈ os, p.2.after.any (fun e => e.on == p'.1 && Region.binds .any e) = true → F p'.1 (u p'.1) w) → p.2.wp P (tm u) w (fun a' w' => ∃ v, a' = tm (upd u p.1 v) ∧ F p.1 v w' ∧ (p.1 ∈ al → ∀ p' ∈ os, p'.1 ∈ al → F p'.1 (u p'.1) w → ¬ blockOf (u p'.1) = blockOf v) ∧ Below w.heap.size w w' ∧ S w') Q) ∧
    (∀ p ∈ os, p.1 ∈ li → ∀ u w, Below w0.heap.size w0 w → S w → (∀ p' ∈ os, p.2.after.any (fun e => e.on == p'.1 && Region.binds .any e) = true → F p'.1 (u p'.1) w) → ∃ v, (∀ w', S w' → (execOp (tm u).eval p.2).run P w' = .ok (.value v) w') ∧ (tm u).put p.2.dst v = tm (upd u p.1 v) ∧ F p.1 v w ∧ p.1 ∉ al) ∧
    (∀ u w, Below w0.heap.size w0 w → S w → (∀ p ∈ os, F p.1 (u p.1) w) → (∀ p ∈ os, ∀ p' ∈ os, p.1 ∈ al → p'.1 ∈ al → ¬ p.1 = p'.1 → ¬ blockOf (u p.1) = blockOf (u p'.1)) → K (tm u) w)
def wpTr (P : Program) (ops : Array Oper) (S : World → Prop) (Q : Exit → Act → World → Prop) : OT Oper → Act → World → Prop
  | .nil, a, w => Q .normal a w
  | .lt o t, a, w => if Region.wanted o (yielded ops a.tmps) then (∃ v, (∀ w', S w' → (execOp a.eval o).run P w' = .ok (.value v) w') ∧ wpTr P ops S Q t (a.put o.dst v) w) else wpTr P ops S Q t (a.put o.dst undef) w
  | .hv o t, a, w => if Region.wanted o (yielded ops a.tmps) then o.wp P a w (fun a' w' => S w' ∧ wpTr P ops S Q t a' w') Q else wpTr P ops S Q t (a.put o.dst undef) w
  | .hv2 o t o' u, a, w => (if Region.wanted o (yielded ops a.tmps) then o.wp P a w (fun a' w' => S w' ∧ wpTr P ops S Q t a' w') Q else wpTr P ops S Q t (a.put o.dst undef) w) ∧
      (if Region.wanted o' (yielded ops a.tmps) then o'.wp P a w (fun a' w' => S w' ∧ wpTr P ops S Q u a' w') Q else wpTr P ops S Q u (a.put o'.dst undef) w)
  | .soft os li t, a, w => softP P S Q os li (wpTr P ops S Q t) a w
theorem wpTr_hv {o : Oper} {t : OT Oper} {a : Act} {w : World}
    (h : ∀ (K : Act → World → Prop) (L : Act → Prop), (∀ a w, S w → wpTr P ops S Q t a w → K a w) → (∀ a, wpTr P ops S Q t a w → L a) → if Region.wanted o (yielded ops a.tmps) then o.wp P a w K Q else L (a.put o.dst undef)) : wpTr P ops S Q (.hv o t) a w := by
  have := h (fun a' w' => S w' ∧ wpTr P ops S Q t a' w') (fun a' => wpTr P ops S Q t a' w) (fun _ _ h1 h2 => ⟨h1, h2⟩) (fun _ h => h)
  unfold wpTr; exact this
theorem wpTr_hv2 {o o' : Oper} {t u : OT Oper} {a : Act} {w : World} (h : wpTr P ops S Q (.hv o t) a w) (h' : wpTr P ops S Q (.hv o' u) a w) : wpTr P ops S Q (.hv2 o t o' u) a w := by
  unfold wpTr at h h'
  unfold wpTr; exact ⟨h, h'⟩
theorem wpTr_lt {o : Oper} {t : OT Oper} {a : Act} {w : World}
    (h : ∀ K : Act → Prop, (∀ a, wpTr P ops S Q t a w → K a) → if Region.wanted o (yielded ops a.tmps) then (∃ v, (∀ w', S w' → (execOp a.eval o).run P w' = .ok (.value v) w') ∧ K (a.put o.dst v)) else K (a.put o.dst undef)) : wpTr P ops S Q (.lt o t) a w := by
  have := h (fun a' => wpTr P ops S Q t a' w) (fun _ h => h)
  unfold wpTr; exact this
theorem wpTr_nil {a : Act} {w : World} (h : Q .normal a w) : wpTr P ops S Q .nil a w := h
def tmOf (os : List (Nat × Oper)) (a : Act) (u : Nat → Value) : Act := os.foldl (fun a p => a.put p.2.dst (u p.1)) a
/-- what lies in the operations' slots now -/
def ownAt (os : List (Nat × Oper)) (a : Act) (k : Nat) : Value := a.tmps.getD (((os.find? (fun p => p.1 == k)).bind (·.2.dst)).getD 0) undef
theorem wpTr_soft {os : List (Nat × Oper)} {li : List Nat} {t : OT Oper} {a : Act} {w : World} (ks : List Nat) (F : Nat → Value → World → Prop) (al : List Nat) (hks : os.map (·.1) = ks) (h0 : a = tmOf os a (ownAt os a)) (hg : ∀ p ∈ os, p.2.guard = none) (hst : ∀ k v w w', Below w.heap.size w w' → F k v w → F k v w')
    (hstep : ∀ p ∈ os, p.1 ∉ li → ∀ u w', Below w.heap.size w w' → S w' → (∀ k ∈ ks, p.2.after.any (fun e => e.on == k && Region.binds .any e) = true → F k (u k) w') →
      ∀ K : Act → World → Prop, (∀ v w'', F p.1 v w'' → (p.1 ∈ al → ∀ p' ∈ os, p'.1 ∈ al → F p'.1 (u p'.1) w' → ¬ blockOf (u p'.1) = blockOf v) → Below w'.heap.size w' w'' → S w'' → K (tmOf os a (upd u p.1 v)) w'') → p.2.wp P (tmOf os a u) w' K Q)
    (hlight : ∀ p ∈ os, p.1 ∈ li → ∀ u w', Below w.heap.size w w' → S w' → (∀ k ∈ ks, p.2.after.any (fun e => e.on == k && Region.binds .any e) = true → F k (u k) w') → ∃ v, (∀ w'', S w'' → (execOp (tmOf os a u).eval p.2).run P w'' = .ok (.value v) w'') ∧ (tmOf os a u).put p.2.dst v = tmOf os a (upd u p.1 v) ∧ F p.1 v w' ∧ p.1 ∉ al)
    (hend : ∀ u w', Below w.heap.size w w' → S w' → (∀ k ∈ ks, F k (u k) w') → (∀ k ∈ ks, ∀ k' ∈ ks, k ∈ al → k' ∈ al → ¬ k = k' → ¬ blockOf (u k) = blockOf (u k')) → wpTr P ops S Q t (tmOf os a u) w') : wpTr P ops S Q (.soft os li t) a w := by
  unfold wpTr
  have hk : ∀ (o : Oper) (u : Nat → Value) (w' : World), (∀ p' ∈ os, o.after.any (fun e => e.on == p'.1 && Region.binds .any e) = true → F p'.1 (u p'.1) w') → ∀ k ∈ ks, o.after.any (fun e => e.on == k && Region.binds .any e) = true → F k (u k) w' := fun o u w' h k hk ha => by
    rw [← hks] at hk
    obtain ⟨p, hp, rfl⟩ := List.mem_map.1 hk
    exact h p hp ha
  exact ⟨tmOf os a, ownAt os a, F, al, h0, hg, hst, fun p hp hl u w' hb hS hd => hstep p hp hl u w' hb hS (hk _ u w' hd) _ fun v w'' h1 h2 h3 h4 => ⟨v, rfl, h1, h2, h3, h4⟩, fun p hp hl u w' hb hS hd => hlight p hp hl u w' hb hS (hk _ u w' hd), fun u w' h1 h2 h3 h4 => hend u w' h1 h2 (fun k hk => by
    rw [← hks] at hk
    obtain ⟨p, hp, rfl⟩ := List.mem_map.1 hk
    exact h3 p hp) fun k hk k' hk' => by
    rw [← hks] at hk hk'
    obtain ⟨p, hp, rfl⟩ := List.mem_map.1 hk
    obtain ⟨p', hp', rfl⟩ := List.mem_map.1 hk'
    exact h4 p hp p' hp'⟩
def softB (md : Region.Mode) (ops : Array Oper) (li : List Nat) (K : Array Bool → Bool) : Nat → List Nat → Array Bool → Bool
  | 0, rem, listed => rem.isEmpty && K listed
  | n + 1, rem, listed => rem.all (fun i => !(listed.getD i false)) &&
      match rem.find? (fun j => li.contains j && Region.free md ops listed j && (Region.ready md ops listed).contains j) with
      | some j => softB md ops li K n (rem.filter (· != j)) (listed.setIfInBounds j true)
      | none => !(Region.ready md ops listed).isEmpty && (Region.ready md ops listed).all (fun j => rem.contains j && !li.contains j && softB md ops li K n (rem.filter (· != j)) (listed.setIfInBounds j true))
def trB (md : Region.Mode) (ops : Array Oper) : OT Nat → Array Bool → Bool
  | .nil, listed => Region.ready md ops listed == []
  | .hv i t, listed => (Region.ready md ops listed == [i]) && trB md ops t (listed.setIfInBounds i true)
  | .hv2 i t j u, listed => (Region.ready md ops listed == [i, j]) && trB md ops t (listed.setIfInBounds i true) && trB md ops u (listed.setIfInBounds j true) && (t.depth == u.depth)
  | .soft ks li t, listed => ks.all (fun p => p.1 == p.2) && ks.all (fun p => decide (p.1 < ops.size)) && softB md ops li (trB md ops t) ks.length (ks.map (·.1)) listed
  | .lt i t, listed => Region.free md ops listed i && (Region.ready md ops listed).contains i && trB md ops t (listed.setIfInBounds i true)
def pickT (l : List Oper) : OT Nat → OT Oper
  | .nil => .nil
  | .soft ks li t => .soft (ks.filterMap fun p => (l[p.1]?).map fun o => (p.1, o)) li (pickT l t)
  | .lt i t => match l[i]? with | some o => .lt o (pickT l t) | none => pickT l t
  | .hv i t => match l[i]? with | some o => .hv o (pickT l t) | none => pickT l t
  | .hv2 i t j u => match l[i]?, l[j]? with | some o, some o' => .hv2 o (pickT l t) o' (pickT l u) | _, _ => pickT l t
theorem soft_any {K : Array Bool → Bool} {d : Nat} {os : List (Nat × Oper)} {li : List Nat} {tm : (Nat → Value) → Act} {F : Nat → Value → World → Prop} {al : List Nat} {w0 : World} {Z : Act → World → Prop}
    (hs : Region.noSelect ops = true) (hQ : ∀ c (a : Act) d v w, Q (.panic c) (a.put d v) w → Q (.panic c) a w)
    (hos : ∀ p ∈ os, ops[p.1]? = some p.2) (hg : ∀ p ∈ os, p.2.guard = none) (hst : ∀ k v w w', Below w.heap.size w w' → F k v w → F k v w')
    (hstep : ∀ p ∈ os, p.1 ∉ li → ∀ u w, Below w0.heap.size w0 w → S w → (∀ p' ∈ os, p.2.after.any (fun e => e.on == p'.1 && Region.binds .any e) = true → F p'.1 (u p'.1) w) → p.2.wp P (tm u) w (fun a' w' => ∃ v, a' = tm (upd u p.1 v) ∧ F p.1 v w' ∧ (p.1 ∈ al → ∀ p' ∈ os, p'.1 ∈ al → F p'.1 (u p'.1) w → ¬ blockOf (u p'.1) = blockOf v) ∧ Below w.heap.size w w' ∧ S w') Q)
    (hlight : ∀ p ∈ os, p.1 ∈ li → ∀ u w, Below w0.heap.size w0 w → S w → (∀ p' ∈ os, p.2.after.any (fun e => e.on == p'.1 && Region.binds .any e) = true → F p'.1 (u p'.1) w) → ∃ v, (∀ w', S w' → (execOp (tm u).eval p.2).run P w' = .ok (.value v) w') ∧ (tm u).put p.2.dst v = tm (upd u p.1 v) ∧ F p.1 v w ∧ p.1 ∉ al)
    (hend : ∀ u w, Below w0.heap.size w0 w → S w → (∀ p ∈ os, F p.1 (u p.1) w) → (∀ p ∈ os, ∀ p' ∈ os, p.1 ∈ al → p'.1 ∈ al → ¬ p.1 = p'.1 → ¬ blockOf (u p.1) = blockOf (u p'.1)) → Z (tm u) w)
    (hZ : ∀ listed u w, K listed = true → S w → Z (tm u) w → wpAnyH P .any ops Q S d listed (tm u) w) :
    ∀ (n : Nat) (rem : List Nat) (listed : Array Bool) (u : Nat → Value) (w : World), softB .any ops li K n rem listed = true → (∀ i ∈ rem, ∃ o, (i, o) ∈ os) → Below w0.heap.size w0 w → S w → (∀ p ∈ os, p.1 ∉ rem → F p.1 (u p.1) w) → (∀ p ∈ os, ∀ p' ∈ os, p.1 ∉ rem → p'.1 ∉ rem → p.1 ∈ al → p'.1 ∈ al → ¬ p.1 = p'.1 → ¬ blockOf (u p.1) = blockOf (u p'.1)) →
      wpAnyH P .any ops Q S (n + d) listed (tm u) w
  | 0, rem, listed, u, w, hB, hin, hb, hS, hF, hE => by
    simp only [softB, Bool.and_eq_true, List.isEmpty_iff] at hB
    obtain ⟨rfl, hK⟩ := hB
    rw [Nat.zero_add]
    exact hZ listed u w hK hS (hend u w hb hS (fun p hp => hF p hp (by simp)) fun p hp p' hp' a a' => hE p hp p' hp' (by simp) (by simp) a a')
  | n + 1, rem, listed, u, w, hB, hin, hb, hS, hF, hE => by
    simp only [softB, Bool.and_eq_true, List.all_eq_true, Bool.not_eq_true'] at hB
    obtain ⟨h1, hB⟩ := hB
    have old : ∀ j (p : Nat × Oper), p.1 ∉ rem.filter (· != j) → ¬ p.1 = j → p.1 ∉ rem := fun j p hnm hpj hm => hnm (List.mem_filter.2 ⟨hm, by simpa using hpj⟩)
    have deps : ∀ (o : Oper), (∀ e ∈ o.after, Region.binds .any e = true → listed.getD e.on false = true) → ∀ p' ∈ os, o.after.any (fun e => e.on == p'.1 && Region.binds .any e) = true → F p'.1 (u p'.1) w := fun o haft p' hp' ha => hF p' hp' fun hm => by
      obtain ⟨e, he, he2⟩ := Array.any_eq_true'.1 ha
      simp only [Bool.and_eq_true, beq_iff_eq] at he2
      have := haft e he he2.2
      rw [he2.1, h1 _ hm] at this
      cases this
    rw [Nat.add_right_comm]
    split at hB
    · rename_i j hj
      have hjr := List.mem_of_find?_eq_some hj
      have hjp := List.find?_some hj
      simp only [Bool.and_eq_true, List.contains_iff_mem] at hjp
      obtain ⟨⟨hli, hfr⟩, hrd⟩ := hjp
      obtain ⟨o, ho⟩ := hin j hjr
      obtain ⟨_, o', ho', haft⟩ := mem_ready.1 hrd
      obtain rfl : o = o' := by have := hos _ ho; rw [ho'] at this; exact (Option.some.inj this).symm
      have hw : Region.wanted o (yielded ops (tm u).tmps) = true := by unfold Region.wanted; rw [hg _ ho]
      obtain ⟨v, hv1, hv2, hv3, hv4⟩ := hlight _ ho hli u w hb hS (deps o haft)
      refine wpAnyH_take ho' hs hfr (by simpa using hrd) (fun c a w h => hQ c a _ _ w h) (.inl ⟨hw, hv1⟩) hS ?_
      rw [hv2]
      refine soft_any hs hQ hos hg hst hstep hlight hend hZ n _ _ _ w hB (fun i hi => hin i (List.mem_filter.1 hi).1) hb hS (fun p hp hnm => ?_) (fun p hp p' hp' hn hn' ha ha' hne => ?_)
      · by_cases hpj : p.1 = j
        · simp only [upd, hpj, if_true]; exact hv3
        · simp only [upd, hpj, if_false]; exact hF p hp (old j p hnm hpj)
      · have hpj : ¬ p.1 = j := fun e => hv4 (e ▸ ha)
        have hpj' : ¬ p'.1 = j := fun e => hv4 (e ▸ ha')
        simp only [upd, hpj, hpj', if_false]
        exact hE p hp p' hp' (old j p hn hpj) (old j p' hn' hpj') ha ha' hne
    · simp only [Bool.and_eq_true, List.all_eq_true, Bool.not_eq_true', List.contains_iff_mem] at hB
      obtain ⟨h2, h3⟩ := hB
      refine wpAnyH_all rfl (by intro h; rw [h] at h2; simp at h2) ?_
      intro j hj
      obtain ⟨⟨hjr, hjl⟩, hjB⟩ := h3 j hj
      obtain ⟨o, ho⟩ := hin j hjr
      obtain ⟨_, o', ho', haft⟩ := mem_ready.1 hj
      obtain rfl : o = o' := by have := hos _ ho; rw [ho'] at this; exact (Option.some.inj this).symm
      unfold wpOp
      simp only [ho']
      have hw : Region.wanted o (yielded ops (tm u).tmps) = true := by unfold Region.wanted; rw [hg _ ho]
      simp only [hw, if_true]
      refine .inl (Oper.wp_mono (fun a' w' h0 => ?_) (hstep _ ho (fun h => by simp [h] at hjl) u w hb hS (deps o haft)))
      obtain ⟨v, rfl, hv, hap, hbl, hS'⟩ := h0
      refine ⟨hS', soft_any hs hQ hos hg hst hstep hlight hend hZ n _ _ _ w' hjB (fun i hi => hin i (List.mem_filter.1 hi).1) (hb.trans (hbl.mono hb.size)) hS' (fun p hp hnm => ?_) (fun p hp p' hp' hn hn' ha ha' hne => ?_)⟩
      · by_cases hpj : p.1 = j
        · simp only [upd, hpj, if_true]; exact hv
        · simp only [upd, hpj, if_false]
          exact hst _ _ _ _ hbl (hF p hp (old j p hnm hpj))
      · by_cases hpj : p.1 = j
        · have hpj' : ¬ p'.1 = j := fun e => hne (hpj.trans e.symm)
          simp only [upd, hpj, hpj', if_true, if_false]
          exact fun h => hap (hpj ▸ ha) p' hp' ha' (hF p' hp' (old j p' hn' hpj')) h.symm
        · by_cases hpj' : p'.1 = j
          · simp only [upd, hpj, hpj', if_true, if_false]
            exact hap (hpj' ▸ ha') p hp ha (hF p hp (old j p hn hpj))
          · simp only [upd, hpj, hpj', if_false]
            exact hE p hp p' hp' (old j p hn hpj) (old j p' hn' hpj') ha ha' hne
theorem tr_any (hs : Region.noSelect ops = true) (hQ : ∀ c (a : Act) d v w, Q (.panic c) (a.put d v) w → Q (.panic c) a w) : ∀ (t : OT Nat) (listed : Array Bool) (a : Act) (w : World), trB .any ops t listed = true → S w →
    wpTr P ops S Q (pickT ops.toList t) a w → wpAnyH P .any ops Q S t.depth listed a w
  | .nil, listed, a, w, hB, _, h => ⟨by simpa [trB] using hB, h⟩
  | .hv i t, listed, a, w, hB, hS, h => by
    simp only [trB, Bool.and_eq_true, beq_iff_eq] at hB
    obtain ⟨hr, hB⟩ := hB
    refine wpAnyH_all hr (by simp) ?_
    intro j hj
    obtain rfl : j = i := by simpa using hj
    obtain ⟨_, o, ho, _⟩ := mem_ready.1 (show j ∈ Region.ready .any ops listed by rw [hr]; exact hj)
    have ho' : ops.toList[j]? = some o := by simpa using ho
    have e : pickT ops.toList (.hv j t) = .hv o (pickT ops.toList t) := by simp only [pickT, ho']
    rw [e] at h
    unfold wpOp
    simp only [ho]
    unfold wpTr at h
    by_cases hw : Region.wanted o (yielded ops a.tmps) = true
    · simp only [hw, if_true] at h ⊢
      exact .inl (Oper.wp_mono (fun a' w' h0 => ⟨h0.1, tr_any hs hQ t _ a' w' hB h0.1 h0.2⟩) h)
    · simp only [hw] at h ⊢
      exact ⟨hS, tr_any hs hQ t _ _ w hB hS h⟩
  | .hv2 i t i' u, listed, a, w, hB, hS, h => by
    simp only [trB, Bool.and_eq_true, beq_iff_eq] at hB
    obtain ⟨⟨⟨hr, hB⟩, hB'⟩, hd⟩ := hB
    obtain ⟨_, o, ho, _⟩ := mem_ready.1 (show i ∈ Region.ready .any ops listed by rw [hr]; simp)
    obtain ⟨_, o', ho', _⟩ := mem_ready.1 (show i' ∈ Region.ready .any ops listed by rw [hr]; simp)
    have hl : ops.toList[i]? = some o := by simpa using ho
    have hl' : ops.toList[i']? = some o' := by simpa using ho'
    have e : pickT ops.toList (.hv2 i t i' u) = .hv2 o (pickT ops.toList t) o' (pickT ops.toList u) := by simp only [pickT, hl, hl']
    rw [e] at h
    unfold wpTr at h
    obtain ⟨h1, h2⟩ := h
    refine wpAnyH_all hr (by simp) ?_
    intro j hj
    have hj' : j = i ∨ j = i' := by simpa using hj
    rcases hj' with rfl | rfl
    · unfold wpOp
      simp only [ho]
      by_cases hw : Region.wanted o (yielded ops a.tmps) = true
      · simp only [hw, if_true] at h1 ⊢
        exact .inl (Oper.wp_mono (fun a' w' h0 => ⟨h0.1, tr_any hs hQ t _ a' w' hB h0.1 h0.2⟩) h1)
      · simp only [hw] at h1 ⊢
        exact ⟨hS, tr_any hs hQ t _ _ w hB hS h1⟩
    · unfold wpOp
      simp only [ho']
      have hd' : (OT.hv2 i t j u).depth = u.depth + 1 := by simp only [OT.depth, hd]
      by_cases hw : Region.wanted o' (yielded ops a.tmps) = true
      · simp only [hw, if_true] at h2 ⊢
        exact .inl (Oper.wp_mono (fun a' w' h0 => ⟨h0.1, by rw [hd]; exact tr_any hs hQ u _ a' w' hB' h0.1 h0.2⟩) h2)
      · simp only [hw] at h2 ⊢
        exact ⟨hS, by rw [hd]; exact tr_any hs hQ u _ _ w hB' hS h2⟩
  | .soft ks li t, listed, a, w, hB, hS, h => by
    simp only [trB, Bool.and_eq_true, List.all_eq_true, beq_iff_eq, decide_eq_true_eq] at hB
    obtain ⟨⟨hk, hlt⟩, hB⟩ := hB
    simp only [pickT] at h
    unfold wpTr at h
    obtain ⟨tm, u0, F, al, rfl, hg, hst, hstep, hlight, hend⟩ := h
    refine soft_any (w0 := w) hs hQ ?_ hg hst hstep hlight hend (fun listed u w hK hS hZ => tr_any hs hQ t listed (tm u) w hK hS hZ) ks.length _ listed u0 w hB ?_ (Below.refl _ _) hS ?_ ?_
    · intro p hp
      obtain ⟨q, hq, e⟩ := List.mem_filterMap.1 hp
      cases ho : ops.toList[q.1]? with
      | none => rw [ho] at e; simp at e
      | some o => rw [ho] at e; simp at e; subst e; simpa using ho
    · intro i hi
      obtain ⟨q, hq, rfl⟩ := List.mem_map.1 hi
      obtain ⟨o, ho⟩ : ∃ o, ops.toList[q.1]? = some o := ⟨_, List.getElem?_eq_getElem (by simpa using hlt q hq)⟩
      exact ⟨o, List.mem_filterMap.2 ⟨q, hq, by rw [ho]; rfl⟩⟩
    · intro p hp hn
      obtain ⟨q, hq, e⟩ := List.mem_filterMap.1 hp
      cases ho : ops.toList[q.1]? with
      | none => rw [ho] at e; simp at e
      | some o => rw [ho] at e; simp at e; subst e; exact absurd (List.mem_map.2 ⟨q, hq, rfl⟩) hn
    · intro p hp p' _ hn _ _ _ _
      obtain ⟨q, hq, e⟩ := List.mem_filterMap.1 hp
      cases ho : ops.toList[q.1]? with
      | none => rw [ho] at e; simp at e
      | some o => rw [ho] at e; simp at e; subst e; exact absurd (List.mem_map.2 ⟨q, hq, rfl⟩) hn
  | .lt i t, listed, a, w, hB, hS, h => by
    simp only [trB, Bool.and_eq_true] at hB
    obtain ⟨⟨hf, hr⟩, hB⟩ := hB
    obtain ⟨_, o, ho, _⟩ := mem_ready.1 (show i ∈ Region.ready .any ops listed by simpa using hr)
    have ho' : ops.toList[i]? = some o := by simpa using ho
    have e : pickT ops.toList (.lt i t) = .lt o (pickT ops.toList t) := by simp only [pickT, ho']
    rw [e] at h
    unfold wpTr at h
    by_cases hw : Region.wanted o (yielded ops a.tmps) = true
    · simp only [hw, if_true] at h
      obtain ⟨v, h1, h2⟩ := h
      exact wpAnyH_take ho hs hf hr (fun c a w h => hQ c a _ _ w h) (.inl ⟨hw, h1⟩) hS (tr_any hs hQ t _ _ w hB hS h2)
    · simp only [hw] at h
      exact wpAnyH_take ho hs hf hr (fun c a w h => hQ c a _ _ w h) (.inr ⟨by simpa using hw, rfl⟩) hS (tr_any hs hQ t _ _ w hB hS h)
def trAll (l : List Oper) (t : OT Nat) : Bool := Region.noSelect l.toArray && (t.depth == l.length) && trB .any l.toArray t (Array.replicate l.length false)
/-- a region that draws its order, walked along a tree of orders -/
theorem wp_region_tree {id : Nat} {a : Act} {w : World} {l : List Oper} (t : OT Nat) (hm : P.follows .mixedOrders = true) (hB : trAll l t = true) (hQ : ∀ c (a : Act) d v w, Q (.panic c) (a.put d v) w → Q (.panic c) a w) (hS : S w.drew)
    (h : wpTr P l.toArray S Q (pickT l t) a w.drew) : (Code.region id l.toArray true).wp P Q a w := by
  simp only [trAll, Bool.and_eq_true, beq_iff_eq] at hB
  obtain ⟨⟨h1, h2⟩, h3⟩ := hB
  refine wp_region_held (S := S) hm ?_
  have := tr_any h1 hQ t (Array.replicate l.length false) a w.drew h3 hS (by simpa using h)
  rw [h2] at this
  simpa using this
end
/-- a new row of cells: whose value it is, where it lies, what it holds; none of them frozen -/
def NewAt (B : Nat) (sh : Nat → Value) (vals : List Value) (v : Value) (w : World) : Prop := ∃ b, v = sh b ∧ B ≤ b ∧ b < w.heap.size ∧ RowAt w b 0 vals ∧ FreeAt w b vals.length
theorem RowAt.below {w w' : World} {b : Nat} (hb : Below w.heap.size w w') : ∀ {cs : List Value} {i : Nat}, RowAt w b i cs → RowAt w' b i cs
  | [], _, _ => trivial
  | _ :: _, _, ⟨h1, h2⟩ => ⟨(hb.cell (World.block_lt_of_cell? w _ h1)).trans h1, RowAt.below hb h2⟩
theorem NewAt.below {B : Nat} {sh : Nat → Value} {vals : List Value} {v : Value} {w w' : World} (h : NewAt B sh vals v w) (hb : Below w.heap.size w w') : NewAt B sh vals v w' := by
  obtain ⟨b, e, h1, h2, h3, h4⟩ := h
  exact ⟨b, e, h1, Nat.lt_of_lt_of_le h2 hb.size, h3.below hb, fun i hi => (hb.frozen (p := ⟨b, i, none⟩) h2).trans (h4 i hi)⟩
theorem NewAt.apart {B : Nat} {sh : Nat → Value} {vals : List Value} {v v' : Value} {w : World} (h : NewAt B sh vals v w) (hi : ∀ b, blockOf (sh b) = b) (h' : w.heap.size ≤ blockOf v') : ¬ blockOf v = blockOf v' := by
  obtain ⟨b, e, _, h2, _⟩ := h
  rw [e, hi]
  omega
theorem ptr_block (b : Nat) : blockOf ((fun b => Value.pointer (some ⟨b, 0, none⟩)) b) = b := rfl
theorem newAt_alloc {B : Nat} (sh : Nat → Value) (vals : List Value) (T : TypeId) (w : World) (hB : B ≤ w.heap.size) : NewAt B sh vals (sh w.heap.size) (w.alloc (.cells vals.toArray T)) := by
  refine ⟨w.heap.size, rfl, hB, by simp, ?_, fun i _ => World.frozen?_alloc_at _ _ _ _ rfl⟩
  have : ∀ (l : List Value) (i : Nat), (∀ j, j < l.length → vals[i + j]? = l[j]?) → RowAt (w.alloc (.cells vals.toArray T)) w.heap.size i l := by
    intro l
    induction l with
    | nil => exact fun _ _ => trivial
    | cons v l ih =>
      intro i h
      refine ⟨?_, ih (i + 1) fun j hj => ?_⟩
      · have := h 0 (by simp)
        simp at this
        rw [World.cell?_alloc_at _ _ _ _ rfl]
        simpa using this
      · have := h (j + 1) (by simp; omega)
        rw [show i + 1 + j = i + (j + 1) by omega, this]
        simp
  exact this vals 0 (fun j _ => by rw [Nat.zero_add])
end Go.Proofs.Ytbcjlgkdmkehlaa
