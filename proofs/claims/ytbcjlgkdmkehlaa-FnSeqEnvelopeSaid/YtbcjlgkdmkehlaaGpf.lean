/- The laws' places of a new line string, and the envelope of these places. Condition: at most 2000 numbers. -/
import Derived.Test.YtbcjlgkdmkehlaaRows
import Derived.Test.YtbcjlgkdmkehlaaGpl
import Derived.Test.YtbcjlgkdmkehlaaEnvl
namespace Go.Proofs.Ytbcjlgkdmkehlaa
open Go.ChangeShapes Go.WideShapes Go.ChangeAt Go.RowKit Fl
set_option maxRecDepth 100000
set_option linter.unusedSimpArgs false
/-- the numbers of the whole places; without such places there is no row -/
theorem newLine2 (d : Int) (nad : Option Addr) (ncp : Nat) (xs : List Nat) (kad : Option Addr) (kl kcp : Nat) (hxl : xs.length < 2000) (hcp : xs.length ≤ ncp) (hcm : ncp ≤ maxLen) (hnil : nad = none → ncp = 0) (w : World) (hF : FRow w nad xs) :
    Calls Try.prog 37 #[gv 2 d nad xs.length ncp kad kl kcp] w fun e w' => ∃ ad cp, e = .returned (gv 2 (d % 4) ad (xs.length / widthN d * widthN d) cp none 0 0) ∧ FRow w' ad (xs.take (xs.length / widthN d * widthN d)) ∧ (xs.length / widthN d * widthN d = 0 → ad = none ∧ cp = 0) ∧ Below w.heap.size w w' := by
  have nf : ∀ w' : World, FRow w' none (xs.take 0) := fun w' i x hx => by simp at hx
  by_cases hq0 : xs.length / widthN d = 0
  · rw [hq0, Nat.zero_mul]
    cases nad with
    | none =>
      have h0 : xs.length = 0 := by have := hnil rfl; omega
      rw [h0, hnil rfl]
      exact (newLineN d kad kl kcp w).mono fun e w' ⟨a, b⟩ => ⟨none, 0, a, nf w', fun _ => ⟨rfl, rfl⟩, b⟩
    | some ad => exact (newLineZ d ad xs.length ncp hq0 kad kl kcp w).mono fun e w' ⟨a, b⟩ => ⟨none, 0, a, nf w', fun _ => ⟨rfl, rfl⟩, b⟩
  · have hwp := widthN_pos d
    have hq2m : xs.length / widthN d * 2 ≤ xs.length / widthN d * widthN d := Nat.mul_le_mul_left _ hwp.1
    have h0 : 0 < xs.length := by
      have := Nat.div_mul_le_self xs.length (widthN d)
      omega
    obtain ⟨b, off, rfl, _⟩ := hF 0 _ (List.getElem?_eq_getElem h0)
    exact (newLineC d b off xs.length ncp kad kl kcp xs rfl hxl hcp hcm _ rfl (by omega) w hF).mono fun e w' ⟨g, cp, a, r, _, _, _, z⟩ => ⟨_, cp, a, r.fRow, fun h => absurd h (by omega), z⟩
theorem gPlacesL (d : Int) (ad : Option Addr) (cp : Nat) (xs : List Nat) (hxl : xs.length < 2000) (w : World) (hF : FRow w ad (xs.take (xs.length / widthN d * widthN d))) (h0 : xs.length / widthN d * widthN d = 0 → ad = none ∧ cp = 0) :
    Calls Try.prog 52 #[gv 2 (d % 4) ad (xs.length / widthN d * widthN d) cp none 0 0] w fun e w' => ∃ v B, e = .returned v ∧ w.heap.size ≤ B ∧ w'.ownsRow B 32 2 v (xs.length / widthN d) (flatXY (sX d xs) (sY d xs) (xs.length / widthN d)) ∧ Below w.heap.size w w' := by
  have hml := Nat.div_mul_le_self xs.length (widthN d)
  have hql : xs.length / widthN d ≤ xs.length := Nat.div_le_self _ _
  refine gPlaces1 (d % 4) ad _ cp (xs.length / widthN d) (sX d xs) (sY d xs) (by omega) (fun w' a _ => FRow w' a (xs.take (xs.length / widthN d * widthN d))) w (fun w' hb => ?_) (fun a c w' hf => ?_)
  · by_cases hm : xs.length / widthN d * widthN d = 0
    · obtain ⟨rfl, rfl⟩ := h0 hm
      rw [hm]
      exact (allNums0 (d % 4) w').mono fun e w2 ⟨a, c, h, z⟩ => ⟨a, c, h, fun i x hx => by simp at hx, z⟩
    · have hlen : (xs.take (xs.length / widthN d * widthN d)).length = xs.length / widthN d * widthN d := by rw [List.length_take]; exact Nat.min_eq_left hml
      obtain ⟨b, off, rfl, _⟩ := hF 0 _ (List.getElem?_eq_getElem (by omega))
      exact (allNumsC (d % 4) b off _ cp (xs.take (xs.length / widthN d * widthN d)) hlen (by omega) (by omega) w' (hF.below hb)).mono fun e w2 ⟨g, c, h, r, _, z⟩ => ⟨_, c, h, r.fRow, z⟩
  · have := placesP4 (d % 4) (isDim4 d) a c xs hxl w'
    rw [width4] at this
    exact this hf
theorem eOfRow (B q : Nat) (v : Value) (X Y : Nat → Nat) (hq : q < 2000) (w : World) (h : w.ownsRow B 32 2 v q (flatXY X Y q)) : Calls Try.prog 51 #[v] w fun e w' => e = .returned (EV.foldO X Y q).p ∧ Below w.heap.size w w' := by
  have h1 := h
  obtain ⟨_, ⟨rfl, rfl⟩ | ⟨g, cap, cur, rfl, _, hh, _⟩⟩ := h1
  · exact eOfNil w
  · have C := h.cells (g := g) rfl
    have hg : g < w.heap.size := by
      rcases Nat.lt_or_ge g w.heap.size with h | h
      · exact h
      · rw [Array.getElem?_eq_none h] at hh; cases hh
    have flat : ∀ (n k r : Nat), k < n → r < 2 → (flatXY X Y n)[k * 2 + r]? = ([Value.float .f64 (X k), Value.float .f64 (Y k)] : List Value)[r]? := by
      intro n
      induction n with
      | zero => intro k r h; omega
      | succ n ih =>
        intro k r hk hr
        have hl : ∀ n, (flatXY X Y n).length = n * 2 := fun n => by
          unfold flatXY
          induction n with
          | zero => rfl
          | succ n ih => rw [List.range_succ, List.flatMap_append, List.flatMap_singleton, List.length_append, ih]; simp; omega
        have hs : flatXY X Y (n + 1) = flatXY X Y n ++ [Value.float .f64 (X n), Value.float .f64 (Y n)] := by
          unfold flatXY
          rw [List.range_succ, List.flatMap_append, List.flatMap_singleton]
        rw [hs]
        rcases Nat.lt_or_ge k n with h | h
        · rw [List.getElem?_append_left (by rw [hl]; omega)]
          exact ih k r h hr
        · obtain rfl : k = n := by omega
          rw [List.getElem?_append_right (by rw [hl]; omega), hl]
          congr 1
          omega
    refine eOf g 0 q cap X Y (by omega) w (fun i hi => ?_) hg
    have c0 := C (i * 2 + 0) _ (flat q i 0 hi (by omega))
    have c1 := C (i * 2 + 1) _ (flat q i 1 hi (by omega))
    rw [add_plain0] at c0 c1
    rw [Nat.add_zero] at c0
    exact ⟨c0, by rw [Nat.add_assoc]; exact c1⟩
theorem min_alike {A X : Rat} : (if A < X then A else X) = (if X < A then X else A) := by grind
theorem fold_same (X Y : Nat → Nat) : ∀ q, (∀ i, i < q + 1 → finB (X i) = true ∧ finB (Y i) = true) →
    ∃ a b c d a' b' c' d', EV.fold X Y (q + 1) = ⟨a, b, c, d, true⟩ ∧ EV.foldO X Y (q + 1) = ⟨a', b', c', d', true⟩ ∧ ∃ A B C D : Rat, Is a A ∧ Is a' A ∧ Is b B ∧ Is b' B ∧ Is c C ∧ Is c' C ∧ Is d D ∧ Is d' D
  | 0, h => by
    obtain ⟨hx, hy⟩ := h 0 (by omega)
    obtain ⟨A, ia⟩ := (finB_iff _).1 hx
    obtain ⟨B, ib⟩ := (finB_iff _).1 hy
    exact ⟨_, _, _, _, _, _, _, _, rfl, rfl, A, B, A, B, ia, ia, ib, ib, ia, ia, ib, ib⟩
  | q + 1, h => by
    obtain ⟨a, b, c, d, a', b', c', d', e, e', A, B, C, D, ia, ia', ib, ib', ic, ic', id, id'⟩ := fold_same X Y q (fun i hi => h i (by omega))
    obtain ⟨hx, hy⟩ := h (q + 1) (by omega)
    obtain ⟨U, iu⟩ := (finB_iff _).1 hx
    obtain ⟨V, iv⟩ := (finB_iff _).1 hy
    refine ⟨fmin a (X (q + 1)), fmin b (Y (q + 1)), fmax c (X (q + 1)), fmax d (Y (q + 1)), if ltV (X (q + 1)) a' then X (q + 1) else a', if ltV (Y (q + 1)) b' then Y (q + 1) else b', if gtV (X (q + 1)) c' then X (q + 1) else c', if gtV (Y (q + 1)) d' then Y (q + 1) else d', ?_, ?_, (if A < U then A else U), (if B < V then B else V), (if U < C then C else U), (if V < D then D else V), fmin_is ia iu, ?_, fmin_is ib iv, ?_, fmax_is ic iu, ?_, fmax_is id iv, ?_⟩
    · show (EV.fold X Y (q + 1)).step (X (q + 1)) (Y (q + 1)) = _
      rw [e]
      rfl
    · show (EV.foldO X Y (q + 1)).stepO (X (q + 1)) (Y (q + 1)) = _
      rw [e']
      rfl
    · have := ite_is (ltV (X (q + 1)) a') iu ia'
      rw [ltV_is iu ia'] at this
      rw [min_alike, ltV_is iu ia']
      simpa using this
    · have := ite_is (ltV (Y (q + 1)) b') iv ib'
      rw [ltV_is iv ib'] at this
      rw [min_alike, ltV_is iv ib']
      simpa using this
    · have := ite_is (gtV (X (q + 1)) c') iu ic'
      rw [gtV_is iu ic'] at this
      rw [show (if U < C then C else U) = (if C < U then U else C) from by grind, gtV_is iu ic']
      simpa using this
    · have := ite_is (gtV (Y (q + 1)) d') iv id'
      rw [gtV_is iv id'] at this
      rw [show (if V < D then D else V) = (if D < V then V else D) from by grind, gtV_is iv id']
      simpa using this
theorem eEqualOf (q : Nat) (X Y : Nat → Nat) (h : ∀ i, i < q → finB (X i) = true ∧ finB (Y i) = true) (w : World) :
    Calls Try.prog 49 #[(EV.fold X Y q).p, (EV.foldO X Y q).p] w fun e w' => e = .returned (.bool true) ∧ Below w.heap.size w w' := by
  cases q with
  | zero => exact eEqualF w
  | succ q =>
    obtain ⟨a, b, c, d, a', b', c', d', e, e', A, B, C, D, ia, ia', ib, ib', ic, ic', id, id'⟩ := fold_same X Y q h
    rw [e, e']
    have same : ∀ {x y : Nat} {u : Rat}, Is x u → Is y u → eqV x y = true := fun hx hy => by
      show (Ieee.double.order _ _ == some .eq) = true
      rw [eq_is hx hy]
      simp
    exact eEqualT a b c d a' b' c' d' (same ia ia') (same ib ib') (same ic ic') (same id id') w
end Go.Proofs.Ytbcjlgkdmkehlaa
