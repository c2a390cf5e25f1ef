/- Small laws that the walks of this seat use: a float stored into a cell, float arithmetic whose bits are known. -/
import Derived.WalkKit
import Derived.ProofKit
import Derived.OpenShut
import Derived.Handy
import Derived.WalkLawsBesides
import Derived.WalkSpells
import Derived.Below
import Derived.Laws.FloatArith
import Derived.Laws.StructEq
import Derived.BigQuiet
import Derived.Deep.RegionHeld3
import Derived.Test.YtbcjlgkdmkehlaaFl
namespace Go.Proofs.Ytbcjlgkdmkehlaa
open Go.ChangeShapes Go.WideShapes Go.ChangeAt Go.RowKit

/-- a fact laid aside from the walk -/
theorem hid {p : Prop} (h : p) : Hid p := h

@[go_sem] theorem run_store_float (P : Program) (w : World) (a : Addr) (m : Mode) (k : FloatKind) (n : Nat) : (store a (.float k n) m).run P w = stored P w a (.float k n) m := run_store P w a _ m rfl

@[go_sem] theorem run_equalIn_float {P : Program} (w : World) (d : Nat) (t : TypeId) (k k' : FloatKind) (a b : Nat) (h : P.underlying t = some (.float k')) : (Op.equalIn (d + 1) t (.float k a) (.float k b)).run P w = .ok (k.format.order a b == some .eq) w := by
  simp [Op.equalIn, run_underlying h, Op.floatEq]

/-- float arithmetic whose bits are known, in every world: as a hypothesis it is a rule of the walk -/
theorem fAdd {P : Program} (t : TypeId) {x y r : Nat} (h : Ieee.double.add x y = some r) : ∀ w, (binOp .add t (.float .f64 x) (.float .f64 y)).run P w = .ok (.float .f64 r) w := fun w => run_float_arith w .add t .f64 x y r h
theorem fSub {P : Program} (t : TypeId) {x y r : Nat} (h : Ieee.double.sub x y = some r) : ∀ w, (binOp .sub t (.float .f64 x) (.float .f64 y)).run P w = .ok (.float .f64 r) w := fun w => run_float_arith w .sub t .f64 x y r h
theorem fMul {P : Program} (t : TypeId) {x y r : Nat} (h : Ieee.double.mul x y = some r) : ∀ w, (binOp .mul t (.float .f64 x) (.float .f64 y)).run P w = .ok (.float .f64 r) w := fun w => run_float_arith w .mul t .f64 x y r h
theorem fQuo {P : Program} (t : TypeId) {x y r : Nat} (h : Ieee.double.div x y = some r) : ∀ w, (binOp .quo t (.float .f64 x) (.float .f64 y)).run P w = .ok (.float .f64 r) w := fun w => run_float_arith w .quo t .f64 x y r h

open Classical in
/-- whatever world comes of w by new blocks and draws alone (e, if it is one; else w) -/
noncomputable def later (w e : World) : World := if Below w.heap.size w e then e else w
theorem below_later (w e : World) : Below w.heap.size w (later w e) := by
  unfold later; split
  · assumption
  · exact Below.refl _ _
theorem later_of {w e : World} (h : Below w.heap.size w e) : later w e = e := by unfold later; rw [if_pos h]
@[simp, go_sem] theorem cell?_later (w e : World) (a : Addr) (h : (w.cell? a).isSome = true) : (later w e).cell? a = w.cell? a := by
  obtain ⟨u, hu⟩ := Option.isSome_iff_exists.1 h
  exact (below_later w e).cell (World.block_lt_of_cell? w a hu)
@[simp, go_sem] theorem frozen?_later (w e : World) (a : Addr) (h : (w.cell? a).isSome = true) : (later w e).frozen? a = w.frozen? a := by
  obtain ⟨u, hu⟩ := Option.isSome_iff_exists.1 h
  exact (below_later w e).frozen (World.block_lt_of_cell? w a hu)
open Classical in
/-- whatever world is as w below block B -/
noncomputable def laterB (B : Nat) (w e : World) : World := if Below B w e then e else w
theorem below_laterB (B : Nat) (w e : World) : Below B w (laterB B w e) := by
  unfold laterB; split
  · assumption
  · exact Below.refl _ _
theorem laterB_of {B : Nat} {w e : World} (h : Below B w e) : laterB B w e = e := by unfold laterB; rw [if_pos h]
@[simp, go_sem] theorem cell?_laterB (B : Nat) (w e : World) (a : Addr) (h : a.block < B) : (laterB B w e).cell? a = w.cell? a := (below_laterB B w e).cell h
@[simp, go_sem] theorem tape_laterB (B : Nat) (w e : World) : (laterB B w e).tape = w.tape := (below_laterB B w e).tape
/-- the world behind a callee that makes new memory alone is a later one -/
theorem later1 {w w' : World} (h : Below w.heap.size w w') : ∃ x, w' = later w x := ⟨w', (later_of h).symm⟩
theorem later2 {w e w' : World} (h : Below (later w e).heap.size (later w e) w') : ∃ x, w' = later w x :=
  ⟨w', (later_of ((below_later w e).trans (h.mono (below_later w e).size))).symm⟩
@[simp, go_sem] theorem tape_later (w e : World) : (later w e).tape = w.tape := (below_later w e).tape
/-- a callee's contract, met in a later world -/
theorem calm_of {P : Program} {f : FuncId} {args : Array Value} {w e : World} {v : Value}
    (h : Calls P f args (later w e) fun e' w' => e' = .returned v ∧ Below (later w e).heap.size (later w e) w') : Calls P f args (later w e) fun e' w'' => e' = .returned v ∧ ∃ m, w'' = later w m :=
  h.mono fun _ w' ⟨he, hm⟩ => ⟨he, w', (later_of ((below_later w e).trans (hm.mono (below_later w e).size))).symm⟩
/-- a region that draws its order, whose operations read or call functions that make new memory alone: one walk of the order of the text -/
theorem wp_region_calm {P : Program} {id : Nat} {Q : Exit → Act → World → Prop} {a : Act} {w : World} {l : List Oper} (hm : P.follows .mixedOrders = true) (hB : Region.lexB .any l.toArray = true)
    (h : wpQuiet P l.toArray (fun w' => ∃ n, w' = later w n) (fun a' => ∀ w', (∃ n, w' = later w n) → Q .normal a' w') l a) : (Code.region id l.toArray true).wp P Q a w :=
  wp_region_quiet (C := fun w' => ∃ n, w' = later w n) hm hB ⟨w.drew, (later_of ((Below.refl _ _).drew)).symm⟩ (by simpa using h)

section
variable {P : Program} {ops : Array Oper} {S : World → Prop} {Q : Exit → Act → World → Prop} {md : Region.Mode}
/-- the operations of a region in a given order; those with a mark may do anything, the others yield one value in every world of S -/
def wpOrd (P : Program) (ops : Array Oper) (S : World → Prop) (Q : Exit → Act → World → Prop) : List (Oper × Bool) → Act → World → Prop
  | [], a, w => Q .normal a w
  | (o, true) :: rest, a, w => if Region.wanted o (yielded ops a.tmps) then o.wp P a w (fun a' w' => S w' ∧ wpOrd P ops S Q rest a' w') Q else wpOrd P ops S Q rest (a.put o.dst undef) w
  | (o, false) :: rest, a, w => if Region.wanted o (yielded ops a.tmps) then (∃ v, (∀ w', S w' → (execOp a.eval o).run P w' = .ok (.value v) w') ∧ wpOrd P ops S Q rest (a.put o.dst v) w) else wpOrd P ops S Q rest (a.put o.dst undef) w
theorem wpOrd_heavy {o : Oper} {rest : List (Oper × Bool)} {a : Act} {w : World}
    (h : ∀ (K : Act → World → Prop) (L : Act → Prop), (∀ a w, S w → wpOrd P ops S Q rest a w → K a w) → (∀ a, wpOrd P ops S Q rest a w → L a) → if Region.wanted o (yielded ops a.tmps) then o.wp P a w K Q else L (a.put o.dst undef)) : wpOrd P ops S Q ((o, true) :: rest) a w := by
  have := h (fun a' w' => S w' ∧ wpOrd P ops S Q rest a' w') (fun a' => wpOrd P ops S Q rest a' w) (fun _ _ h1 h2 => ⟨h1, h2⟩) (fun _ h => h)
  unfold wpOrd; exact this
theorem wpOrd_light {o : Oper} {rest : List (Oper × Bool)} {a : Act} {w : World}
    (h : ∀ K : Act → Prop, (∀ a, wpOrd P ops S Q rest a w → K a) → if Region.wanted o (yielded ops a.tmps) then (∃ v, (∀ w', S w' → (execOp a.eval o).run P w' = .ok (.value v) w') ∧ K (a.put o.dst v)) else K (a.put o.dst undef)) : wpOrd P ops S Q ((o, false) :: rest) a w := by
  have := h (fun a' => wpOrd P ops S Q rest a' w) (fun _ h => h)
  unfold wpOrd; exact this
theorem wpOrd_nil {a : Act} {w : World} (h : Q .normal a w) : wpOrd P ops S Q [] a w := h

def ordB (md : Region.Mode) (ops : Array Oper) : List (Nat × Bool) → Array Bool → Bool
  | [], listed => Region.ready md ops listed == []
  | (i, true) :: rest, listed => (Region.ready md ops listed == [i]) && ordB md ops rest (listed.setIfInBounds i true)
  | (i, false) :: rest, listed => Region.free md ops listed i && (Region.ready md ops listed).contains i && ordB md ops rest (listed.setIfInBounds i true)
def pickO (l : List Oper) (order : List (Nat × Bool)) : List (Oper × Bool) := order.filterMap fun p => (l[p.1]?).map fun o => (o, p.2)

theorem ord_any (hs : Region.noSelect ops = true) (hQ : ∀ c (a : Act) d v w, Q (.panic c) (a.put d v) w → Q (.panic c) a w) : ∀ (order : List (Nat × Bool)) (listed : Array Bool) (a : Act) (w : World), ordB md ops order listed = true → S w →
    wpOrd P ops S Q (pickO ops.toList order) a w → wpAnyH P md ops Q S order.length listed a w
  | [], listed, a, w, hB, _, h => ⟨by simpa [ordB] using hB, h⟩
  | (i, true) :: rest, listed, a, w, hB, hS, h => by
    simp only [ordB, Bool.and_eq_true, beq_iff_eq] at hB
    obtain ⟨hr, hB⟩ := hB
    refine wpAnyH_all hr (by simp) ?_
    intro j hj
    obtain rfl : j = i := by simpa using hj
    obtain ⟨_, o, ho, _⟩ := mem_ready.1 (show j ∈ Region.ready md ops listed by rw [hr]; exact hj)
    have ho' : ops.toList[j]? = some o := by simpa using ho
    have e : pickO ops.toList ((j, true) :: rest) = (o, true) :: pickO ops.toList rest := by simp only [pickO, List.filterMap_cons, ho', Option.map_some]
    rw [e] at h
    unfold wpOp
    simp only [ho]
    unfold wpOrd at h
    by_cases hw : Region.wanted o (yielded ops a.tmps) = true
    · simp only [hw, if_true] at h ⊢
      exact .inl (Oper.wp_mono (fun a' w' h0 => ⟨h0.1, ord_any hs hQ rest _ a' w' hB h0.1 h0.2⟩) h)
    · simp only [hw] at h ⊢
      exact ⟨hS, ord_any hs hQ rest _ _ w hB hS h⟩
  | (i, false) :: rest, listed, a, w, hB, hS, h => by
    simp only [ordB, Bool.and_eq_true] at hB
    obtain ⟨⟨hf, hr⟩, hB⟩ := hB
    obtain ⟨_, o, ho, _⟩ := mem_ready.1 (show i ∈ Region.ready md ops listed by simpa using hr)
    have ho' : ops.toList[i]? = some o := by simpa using ho
    have e : pickO ops.toList ((i, false) :: rest) = (o, false) :: pickO ops.toList rest := by simp only [pickO, List.filterMap_cons, ho', Option.map_some]
    rw [e] at h
    unfold wpOrd at h
    by_cases hw : Region.wanted o (yielded ops a.tmps) = true
    · simp only [hw, if_true] at h
      obtain ⟨v, h1, h2⟩ := h
      exact wpAnyH_take ho hs hf hr (fun c a w h => hQ c a _ _ w h) (.inl ⟨hw, h1⟩) hS (ord_any hs hQ rest _ _ w hB hS h2)
    · simp only [hw] at h
      exact wpAnyH_take ho hs hf hr (fun c a w h => hQ c a _ _ w h) (.inr ⟨by simpa using hw, rfl⟩) hS (ord_any hs hQ rest _ _ w hB hS h)

def ordAll (l : List Oper) (order : List (Nat × Bool)) : Bool := Region.noSelect l.toArray && (order.length == l.length) && ordB .any l.toArray order (Array.replicate l.length false)
/-- a region that draws its order, walked in one order: the light operations as soon as they may come up, each heavy one where nothing else may -/
theorem wp_region_ord {id : Nat} {a : Act} {w : World} {l : List Oper} (order : List (Nat × Bool)) (hm : P.follows .mixedOrders = true) (hB : ordAll l order = true) (hQ : ∀ c (a : Act) d v w, Q (.panic c) (a.put d v) w → Q (.panic c) a w) (hS : S w.drew)
    (h : wpOrd P l.toArray S Q (pickO l order) a w.drew) : (Code.region id l.toArray true).wp P Q a w := by
  simp only [ordAll, Bool.and_eq_true, beq_iff_eq] at hB
  obtain ⟨⟨h1, h2⟩, h3⟩ := hB
  refine wp_region_held (S := S) hm ?_
  have := ord_any (md := .any) h1 hQ order (Array.replicate l.length false) a w.drew h3 hS (by simpa using h)
  rw [h2] at this
  simpa using this
end
theorem lat {wz W w' : World} (h : Below wz.heap.size wz W) (k : Below W.heap.size W w') : Below wz.heap.size wz w' := h.trans (k.mono h.size)
/-- the world by a letter: what S tells of it, that it lies above w, no more -/
theorem lettered {R : World → Prop} {w : World} (S : World → Prop) (hS : S w) (h : ∀ wz, S wz → R wz) : R w := h w hS

/-- the cells of a block from one on -/
def RowAt (w : World) (b : Nat) : Nat → List Value → Prop
  | _, [] => True
  | i, v :: vs => w.cell? ⟨b, i, none⟩ = some v ∧ RowAt w b (i + 1) vs
theorem RowAt.get {w : World} {b : Nat} : ∀ {cs : List Value} {i : Nat}, RowAt w b i cs → ∀ j v, cs[j]? = some v → w.cell? ⟨b, i + j, none⟩ = some v
  | [], _, _, _, _, h => by simp at h
  | c :: cs, i, ⟨h1, h2⟩, 0, v, h => by simp at h; subst h; exact h1
  | c :: cs, i, ⟨h1, h2⟩, j + 1, v, h => by
    have := RowAt.get h2 j v (by simpa using h)
    rw [show i + 1 + j = i + (j + 1) by omega] at this; exact this
/-- no cell of a block is frozen, up to one -/
def FreeAt (w : World) (b n : Nat) : Prop := ∀ i, i < n → w.frozen? ⟨b, i, none⟩ = false
/-- a struct result that lies in memory -/
theorem ret1 {fn : Func} {p : Tmp} {ty : TypeId} (hr : fn.results = #[.cell p ty]) {P : Program} {tmps : Array Value} {b : Nat} {w : World} (ht : tmps.getD p undef = .pointer (some ⟨b, 0, none⟩)) {cs : List Value} {d : TypeDesc}
    (hu : P.underlying ty = some d) (hd : (match d with | .struct _ | .array _ _ => true | _ => false) = true) (hi : (P.info? ty).map (·.size) = some cs.length) (h : RowAt w b 0 cs) : (results fn tmps).run P w = .ok (.agg cs.toArray) w := by
  have hl : (loadCells ⟨b, 0, none⟩ cs.length).run P w = .ok cs.toArray w :=
    run_loadCells_list (P := P) w ⟨b, 0, none⟩ cs (fun j v hv => by
      have hadd : (⟨b, 0, none⟩ : Addr).add j = ⟨b, j, none⟩ := by unfold Addr.add; split <;> simp_all
      rw [hadd]
      have := h.get j v hv
      simpa using this)
  have hlv : (loadVar ty ⟨b, 0, none⟩).run P w = .ok (.agg cs.toArray) w := by
    cases hq : P.info? ty with
    | none => simp [hq] at hi
    | some i =>
      simp [hq] at hi
      cases d <;> simp at hd <;> simp [loadVar, isAgg, run_underlying hu, sizeOf, typeInfo, hq, hi, hl]
  rw [Array.getD_eq_getD_getElem?] at ht
  simp only [results, hr]
  simp [ht, asAddr, hlv]

theorem row1 {w : World} {b : Nat} {v0 : Value} : RowAt w b 0 [v0] ↔ w.cell? ⟨b, 0, none⟩ = some v0 ∧ True := Iff.rfl
theorem row2 {w : World} {b : Nat} {v0 v1 : Value} : RowAt w b 0 [v0, v1] ↔ w.cell? ⟨b, 0, none⟩ = some v0 ∧ w.cell? ⟨b, 1, none⟩ = some v1 ∧ True := Iff.rfl
theorem row3 {w : World} {b : Nat} {v0 v1 v2 : Value} : RowAt w b 0 [v0, v1, v2] ↔ w.cell? ⟨b, 0, none⟩ = some v0 ∧ w.cell? ⟨b, 1, none⟩ = some v1 ∧ w.cell? ⟨b, 2, none⟩ = some v2 ∧ True := Iff.rfl
theorem row4 {w : World} {b : Nat} {v0 v1 v2 v3 : Value} : RowAt w b 0 [v0, v1, v2, v3] ↔ w.cell? ⟨b, 0, none⟩ = some v0 ∧ w.cell? ⟨b, 1, none⟩ = some v1 ∧ w.cell? ⟨b, 2, none⟩ = some v2 ∧ w.cell? ⟨b, 3, none⟩ = some v3 ∧ True := Iff.rfl
theorem row5 {w : World} {b : Nat} {v0 v1 v2 v3 v4 : Value} : RowAt w b 0 [v0, v1, v2, v3, v4] ↔ w.cell? ⟨b, 0, none⟩ = some v0 ∧ w.cell? ⟨b, 1, none⟩ = some v1 ∧ w.cell? ⟨b, 2, none⟩ = some v2 ∧ w.cell? ⟨b, 3, none⟩ = some v3 ∧ w.cell? ⟨b, 4, none⟩ = some v4 ∧ True := Iff.rfl
theorem row6 {w : World} {b : Nat} {v0 v1 v2 v3 v4 v5 : Value} : RowAt w b 0 [v0, v1, v2, v3, v4, v5] ↔ w.cell? ⟨b, 0, none⟩ = some v0 ∧ w.cell? ⟨b, 1, none⟩ = some v1 ∧ w.cell? ⟨b, 2, none⟩ = some v2 ∧ w.cell? ⟨b, 3, none⟩ = some v3 ∧ w.cell? ⟨b, 4, none⟩ = some v4 ∧ w.cell? ⟨b, 5, none⟩ = some v5 ∧ True := Iff.rfl
theorem row7 {w : World} {b : Nat} {v0 v1 v2 v3 v4 v5 v6 : Value} : RowAt w b 0 [v0, v1, v2, v3, v4, v5, v6] ↔ w.cell? ⟨b, 0, none⟩ = some v0 ∧ w.cell? ⟨b, 1, none⟩ = some v1 ∧ w.cell? ⟨b, 2, none⟩ = some v2 ∧ w.cell? ⟨b, 3, none⟩ = some v3 ∧ w.cell? ⟨b, 4, none⟩ = some v4 ∧ w.cell? ⟨b, 5, none⟩ = some v5 ∧ w.cell? ⟨b, 6, none⟩ = some v6 ∧ True := Iff.rfl
theorem free1 {w : World} {b : Nat} (h : FreeAt w b 1) : w.frozen? ⟨b, 0, none⟩ = false := h 0 (by omega)
theorem free2 {w : World} {b : Nat} (h : FreeAt w b 2) : w.frozen? ⟨b, 0, none⟩ = false ∧ w.frozen? ⟨b, 1, none⟩ = false := ⟨h 0 (by omega), h 1 (by omega)⟩
theorem free3 {w : World} {b : Nat} (h : FreeAt w b 3) : w.frozen? ⟨b, 0, none⟩ = false ∧ w.frozen? ⟨b, 1, none⟩ = false ∧ w.frozen? ⟨b, 2, none⟩ = false := ⟨h 0 (by omega), h 1 (by omega), h 2 (by omega)⟩
theorem free4 {w : World} {b : Nat} (h : FreeAt w b 4) : w.frozen? ⟨b, 0, none⟩ = false ∧ w.frozen? ⟨b, 1, none⟩ = false ∧ w.frozen? ⟨b, 2, none⟩ = false ∧ w.frozen? ⟨b, 3, none⟩ = false := ⟨h 0 (by omega), h 1 (by omega), h 2 (by omega), h 3 (by omega)⟩
theorem free5 {w : World} {b : Nat} (h : FreeAt w b 5) : w.frozen? ⟨b, 0, none⟩ = false ∧ w.frozen? ⟨b, 1, none⟩ = false ∧ w.frozen? ⟨b, 2, none⟩ = false ∧ w.frozen? ⟨b, 3, none⟩ = false ∧ w.frozen? ⟨b, 4, none⟩ = false := ⟨h 0 (by omega), h 1 (by omega), h 2 (by omega), h 3 (by omega), h 4 (by omega)⟩
theorem free6 {w : World} {b : Nat} (h : FreeAt w b 6) : w.frozen? ⟨b, 0, none⟩ = false ∧ w.frozen? ⟨b, 1, none⟩ = false ∧ w.frozen? ⟨b, 2, none⟩ = false ∧ w.frozen? ⟨b, 3, none⟩ = false ∧ w.frozen? ⟨b, 4, none⟩ = false ∧ w.frozen? ⟨b, 5, none⟩ = false := ⟨h 0 (by omega), h 1 (by omega), h 2 (by omega), h 3 (by omega), h 4 (by omega), h 5 (by omega)⟩
theorem free7 {w : World} {b : Nat} (h : FreeAt w b 7) : w.frozen? ⟨b, 0, none⟩ = false ∧ w.frozen? ⟨b, 1, none⟩ = false ∧ w.frozen? ⟨b, 2, none⟩ = false ∧ w.frozen? ⟨b, 3, none⟩ = false ∧ w.frozen? ⟨b, 4, none⟩ = false ∧ w.frozen? ⟨b, 5, none⟩ = false ∧ w.frozen? ⟨b, 6, none⟩ = false := ⟨h 0 (by omega), h 1 (by omega), h 2 (by omega), h 3 (by omega), h 4 (by omega), h 5 (by omega), h 6 (by omega)⟩
theorem ret_i64 {a b : Int} (h : a = b) : Ending.returned (.int .i64 a) = .returned (.int .i64 b) := by rw [h]
theorem ret_bool {a b : Bool} (h : a = b) : Ending.returned (.bool a) = .returned (.bool b) := by rw [h]

open Fl in
theorem isI_ofInt (n : Int) (h1 : -9007199254740992 ≤ n) (h2 : n ≤ 9007199254740992) : IsI (floatOfInt .f64 n) n := ofInt_is n (by omega)
end Go.Proofs.Ytbcjlgkdmkehlaa
