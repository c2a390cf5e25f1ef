/- The laws' line: of a small line string its places; of anything else it says no. Condition: a geometry that came in. -/
import Derived.Test.YtbcjlgkdmkehlaaRows
import Derived.Test.YtbcjlgkdmkehlaaClo
namespace Go.Proofs.Ytbcjlgkdmkehlaa
open Go.ChangeShapes Go.WideShapes Go.ChangeAt Go.RowKit
set_option maxRecDepth 100000
set_option linter.unusedSimpArgs false
/-- X and Y of a row of places -/
def XYAt (w : World) (a : Option Addr) (q : Nat) (X Y : Nat → Nat) : Prop := ∀ i, i < q → ∃ g, a = some ⟨g, 0, none⟩ ∧ w.cell? ⟨g, i * 4, none⟩ = some (.float .f64 (X i)) ∧ w.cell? ⟨g, i * 4 + 1, none⟩ = some (.float .f64 (Y i))
theorem XYAt.below {w w' : World} {a : Option Addr} {q : Nat} {X Y : Nat → Nat} (h : XYAt w a q X Y) (hb : Below w.heap.size w w') : XYAt w' a q X Y := fun i hi => by
  obtain ⟨g, e, h0, h1⟩ := h i hi
  exact ⟨g, e, (hb.cell (World.block_lt_of_cell? w _ h0)).trans h0, (hb.cell (World.block_lt_of_cell? w _ h1)).trans h1⟩
theorem XYAt.congr {w : World} {a : Option Addr} {q : Nat} {X Y X' Y' : Nat → Nat} (h : XYAt w a q X Y) (hX : ∀ i, i < q → X i = X' i) (hY : ∀ i, i < q → Y i = Y' i) : XYAt w a q X' Y' := fun i hi => by
  obtain ⟨g, e, h0, h1⟩ := h i hi
  exact ⟨g, e, by rw [← hX i hi]; exact h0, by rw [← hY i hi]; exact h1⟩
theorem FRow.take {w : World} {ad : Option Addr} {xs : List Nat} (h : FRow w ad xs) (m : Nat) : FRow w ad (xs.take m) := fun i x hx => by
  rw [List.getElem?_take] at hx
  split at hx
  · exact h i x hx
  · cases hx
theorem RowOf.fRow {w : World} {g : Nat} {xs : List Nat} (h : RowOf w g (xs.map (Value.float .f64))) : FRow w (some ⟨g, 0, none⟩) xs := fun i x hx =>
  ⟨g, 0, rfl, by rw [Nat.zero_add]; exact h i _ (by rw [List.getElem?_map, hx]; rfl)⟩
theorem width4 (d : Int) : widthN (d % 4) = widthN d := by unfold widthN; rw [Int.emod_emod]
theorem getD_take (xs : List Nat) (m i : Nat) (hi : i < m) : (xs.take m).getD i 0 = xs.getD i 0 := by
  rw [List.getD_eq_getElem?_getD, List.getD_eq_getElem?_getD, List.getElem?_take, if_pos hi]
/-- the numbers of the whole places -/
theorem newLine (d : Int) (nad : Option Addr) (ncp : Nat) (xs : List Nat) (kad : Option Addr) (kl kcp : Nat) (hxl : xs.length < 2000) (hcp : xs.length ≤ ncp) (hcm : ncp ≤ maxLen) (hnil : nad = none → ncp = 0) (w : World) (hF : FRow w nad xs) :
    Calls Try.prog 37 #[gv 2 d nad xs.length ncp kad kl kcp] w fun e w' => ∃ ad cp, e = .returned (gv 2 (d % 4) ad (xs.length / widthN d * widthN d) cp none 0 0) ∧ FRow w' ad (xs.take (xs.length / widthN d * widthN d)) ∧ Below w.heap.size w w' := by
  have nf : ∀ w' : World, FRow w' none (xs.take 0) := fun w' i x hx => by simp at hx
  by_cases hq0 : xs.length / widthN d = 0
  · rw [hq0, Nat.zero_mul]
    cases nad with
    | none =>
      have h0 : xs.length = 0 := by have := hnil rfl; omega
      rw [h0, hnil rfl]
      exact (newLineN d kad kl kcp w).mono fun e w' ⟨a, b⟩ => ⟨none, 0, a, nf w', b⟩
    | some ad => exact (newLineZ d ad xs.length ncp hq0 kad kl kcp w).mono fun e w' ⟨a, b⟩ => ⟨none, 0, a, nf w', b⟩
  · have hwp := widthN_pos d
    have hq2m : xs.length / widthN d * 2 ≤ xs.length / widthN d * widthN d := Nat.mul_le_mul_left _ hwp.1
    have h0 : 0 < xs.length := by
      have := Nat.div_mul_le_self xs.length (widthN d)
      omega
    obtain ⟨b, off, rfl, _⟩ := hF 0 _ (List.getElem?_eq_getElem h0)
    exact (newLineC d b off xs.length ncp kad kl kcp xs rfl hxl hcp hcm _ rfl (by omega) w hF).mono fun e w' ⟨g, cp, a, r, _, _, _, z⟩ => ⟨_, cp, a, r.fRow, z⟩
theorem flat4 (f : Nat → List Value) (hf : ∀ k, (f k).length = 4) : ∀ (q k r : Nat), k < q → r < 4 → ((List.range q).flatMap f)[k * 4 + r]? = (f k)[r]?
  | 0, _, _, h, _ => absurd h (by omega)
  | q + 1, k, r, hk, hr => by
    have hlen : ∀ q, ((List.range q).flatMap f).length = q * 4 := by
      intro q
      induction q with
      | zero => simp
      | succ q ih => rw [List.range_succ, List.flatMap_append, List.length_append, ih, List.flatMap_singleton, hf]; omega
    rw [List.range_succ, List.flatMap_append, List.flatMap_singleton]
    rcases Nat.lt_or_ge k q with h | h
    · rw [List.getElem?_append_left (by rw [hlen]; omega)]
      exact flat4 f hf q k r h hr
    · obtain rfl : k = q := by omega
      rw [List.getElem?_append_right (by rw [hlen]; omega), hlen]
      congr 1
      omega
theorem placesXY (d : Int) (h : isDim d) (ad : Option Addr) (cp : Nat) (xs : List Nat) (hxl : xs.length < 2000) (w : World) (hF : FRow w ad (xs.take (xs.length / widthN d * widthN d))) :
    Calls Try.prog 36 #[.slice ad (xs.length / widthN d * widthN d) cp, .int .i64 d] w fun e w' => ∃ a c, e = .returned (.slice a (xs.length / widthN d) c) ∧ XYAt w' a (xs.length / widthN d) (fun i => xs.getD (i * widthN d) 0) (fun i => xs.getD (i * widthN d + 1) 0) ∧ Below w.heap.size w w' := by
  have hwp := widthN_pos d
  have hml : xs.length / widthN d * widthN d ≤ xs.length := Nat.div_mul_le_self _ _
  obtain ⟨q, hq⟩ : ∃ q, q = xs.length / widthN d := ⟨_, rfl⟩
  rw [← hq] at hF hml ⊢
  have hlen : (xs.take (q * widthN d)).length = q * widthN d := by rw [List.length_take]; exact Nat.min_eq_left hml
  have hdiv : q * widthN d / widthN d = q := Nat.mul_div_cancel _ (by omega)
  have P := places d h ad cp (xs.take (q * widthN d)) (by omega) w hF
  rw [hlen, hdiv] at P
  refine P.mono fun e w' ⟨v, he, hown, hb⟩ => ?_
  subst he
  have tk : ∀ k r, k < q → r < 2 → (xs.take (q * widthN d)).getD (k * widthN d + r) 0 = xs.getD (k * widthN d + r) 0 := fun k r hk hr => by
    have : (k + 1) * widthN d ≤ q * widthN d := Nat.mul_le_mul_right _ hk
    rw [Nat.succ_mul] at this
    exact getD_take _ _ _ (by omega)
  have hown0 := hown
  obtain ⟨_, hv | ⟨gp, cap, cur, rfl, _⟩⟩ := hown0
  · obtain ⟨rfl, hq0⟩ := hv
    exact ⟨none, 0, by rw [hq0], fun i hi => absurd hi (by omega), hb⟩
  · have C := hown.cells (g := gp) rfl
    have key : ∀ k r u, k < q → r < 4 → (placeAt (widthN d) (zB d) (mB d) (xs.take (q * widthN d)) k)[r]? = some u → w'.cell? ⟨gp, k * 4 + r, none⟩ = some u := by
      intro k r u hk hr hu
      have := C (k * 4 + r) u (by unfold placesOf; rw [hlen, hdiv, flat4 _ (fun _ => rfl) q k r hk hr]; exact hu)
      rw [add_plain0, Nat.zero_add] at this
      exact this
    refine ⟨some ⟨gp, 0, none⟩, cap, rfl, fun k hk => ⟨gp, rfl, ?_, ?_⟩, hb⟩
    · have := key k 0 _ hk (by omega) rfl
      have h2 := tk k 0 hk (by omega)
      rw [Nat.add_zero] at this h2
      rw [h2] at this
      exact this
    · have := key k 1 _ hk (by omega) rfl
      rw [tk k 1 hk (by omega)] at this
      exact this
/-- what the laws' line answers -/
def LineSays (w : World) (k d : Int) (xs : List Nat) (e : Ending) (w' : World) : Prop := ∃ a q c b, e = .returned (.tuple #[.slice a q c, .bool b]) ∧ (b = true → k = 2 ∧ xs.length < 2000 ∧ q = xs.length / widthN d ∧ XYAt w' a q (fun i => xs.getD (i * widthN d) 0) (fun i => xs.getD (i * widthN d + 1) 0)) ∧ Below w.heap.size w w'
theorem gLineNo (n : Nat) (k d : Int) (nad : Option Addr) (ncp : Nat) (xs : List Nat) (kad : Option Addr) (kcp : Nat) (ks : List Value) (w : World) (hno : ¬ k = 2 ∨ ¬ xs.length < 2000) (ho : Own w k d nad ncp xs kad kcp ks) (hk : ∀ u ∈ ks, GeoAt w n u) :
    Calls Try.prog 30 #[gv k d nad xs.length ncp kad ks.length kcp] w (LineSays w k d xs) := by
  have GS := hid (fun p w' (hb : Below w.heap.size w w') hr => gSmall k d nad ncp xs kad kcp ks n p 1 w' (ho.below hb) (fun u hu => (hk u hu).below hb) hr)
  unfold gv at *
  clear ho hk
  go_enter Try.func30, Try.ntmps30
  go_wp2_with fail
  refine lettered (R := fun wz => Calls _ _ _ wz _) (fun wz => wz.cell? ⟨w.heap.size, 0, none⟩ = some (.int .i64 k) ∧ wz.cell? ⟨w.heap.size, 1, none⟩ = some (.int .i64 d) ∧ wz.cell? ⟨w.heap.size, 2, none⟩ = some (.slice nad xs.length ncp) ∧ wz.cell? ⟨w.heap.size, 3, none⟩ = some (.slice kad ks.length kcp) ∧ wz.cell? ⟨w.heap.size + 1, 0, none⟩ = some (.int .i64 k) ∧ wz.cell? ⟨w.heap.size + 1, 1, none⟩ = some (.int .i64 d) ∧ wz.cell? ⟨w.heap.size + 1, 2, none⟩ = some (.slice nad xs.length ncp) ∧ wz.cell? ⟨w.heap.size + 1, 3, none⟩ = some (.slice kad ks.length kcp) ∧ w.heap.size + 2 ≤ wz.heap.size ∧ Below w.heap.size w wz) ⟨by go_cell, by go_cell, by go_cell, by go_cell, by go_cell, by go_cell, by go_cell, by go_cell, by simp, by go_grown⟩ ?_
  rintro wz ⟨c00, c01, c02, c03, c10, c11, c12, c13, hsz, hb⟩
  have HB := hid hb
  clear hb
  by_cases hk2 : k = 2
  · skip
    go_wp2_with (first | (go_at_call 33; (with_reducible refine (GS.out _ _ HB.out (row4.2 ⟨by go_cell, by go_cell, by go_cell, by go_cell, trivial⟩)).mono ?_); rintro e w' ⟨r, rfl, hsay, hbl⟩; obtain ⟨nx, rfl⟩ := later1 (lat (wz := wz) (by repeat (first | (with_reducible exact below_later _ _) | (with_reducible exact Below.refl _ _) | (with_reducible assumption) | (with_reducible refine Below.drew ?_) | (with_reducible refine Below.alloc ?_ (by (first | (with_reducible exact Nat.le_refl _) | (with_reducible exact (below_later _ _).size) | omega | (simp; done) | (simp; omega))) _))) hbl); clear hbl; obtain rfl : r = false := (by cases r; rfl; rcases hno with h | h; exact absurd hk2 h; exact absurd (hsay rfl).1 h); clear hsay))
    refine bodyPost_ret (v := .tuple #[.slice none 0 0, .bool false]) (by simp [results, Try.results30, go_sem, *]) rfl ?_
    exact ⟨none, 0, 0, false, rfl, (fun h => Bool.noConfusion h), HB.out.trans ((below_later _ _).mono HB.out.size)⟩
  go_wp2_with (first | (go_at_call 33; (with_reducible refine (GS.out _ _ HB.out (row4.2 ⟨by go_cell, by go_cell, by go_cell, by go_cell, trivial⟩)).mono ?_); rintro e w' ⟨r, rfl, -, hbl⟩; obtain ⟨nx, rfl⟩ := later1 (lat (wz := wz) (by repeat (first | (with_reducible exact below_later _ _) | (with_reducible exact Below.refl _ _) | (with_reducible assumption) | (with_reducible refine Below.drew ?_) | (with_reducible refine Below.alloc ?_ (by (first | (with_reducible exact Nat.le_refl _) | (with_reducible exact (below_later _ _).size) | omega | (simp; done) | (simp; omega))) _))) hbl); clear hbl; cases r))
  all_goals
    refine bodyPost_ret (v := .tuple #[.slice none 0 0, .bool false]) (by simp [results, Try.results30, go_sem, *]) rfl ?_
    exact ⟨none, 0, 0, false, rfl, (fun h => Bool.noConfusion h), HB.out.trans ((below_later _ _).mono HB.out.size)⟩
theorem gLineYes (n : Nat) (d : Int) (nad : Option Addr) (ncp : Nat) (xs : List Nat) (kad : Option Addr) (kcp : Nat) (ks : List Value) (w : World) (hxl : xs.length < 2000) (ho : Own w 2 d nad ncp xs kad kcp ks) (hk : ∀ u ∈ ks, GeoAt w n u) :
    Calls Try.prog 30 #[gv 2 d nad xs.length ncp kad ks.length kcp] w (LineSays w 2 d xs) := by
  have GS := hid (fun p w' (hb : Below w.heap.size w w') hr => gSmall 2 d nad ncp xs kad kcp ks n p 1 w' (ho.below hb) (fun u hu => (hk u hu).below hb) hr)
  have NW := hid (fun w' (hb : Below w.heap.size w w') => newLine d nad ncp xs kad ks.length kcp hxl ho.nCap ho.nMax ho.nNil w' (ho.nums.below hb))
  have PL := placesXY (d % 4) (isDim4 d)
  rw [width4] at PL
  replace PL := hid (fun ad cp => PL ad cp xs hxl)
  clear ho hk
  suffices h : Calls Try.prog 30 #[gv 2 d nad xs.length ncp kad ks.length kcp] w (fun e w' => (∃ a c, e = .returned (.tuple #[.slice a (xs.length / widthN d) c, .bool true]) ∧ XYAt w' a (xs.length / widthN d) (fun i => xs.getD (i * widthN d) 0) (fun i => xs.getD (i * widthN d + 1) 0) ∧ Below w.heap.size w w') ∨ (e = .returned (.tuple #[.slice none 0 0, .bool false]) ∧ Below w.heap.size w w')) from
    h.mono fun e w' h => h.elim (fun ⟨a, c, h1, h2, h3⟩ => ⟨a, _, c, true, h1, fun _ => ⟨rfl, hxl, rfl, h2⟩, h3⟩) fun ⟨h1, h2⟩ => ⟨none, 0, 0, false, h1, (fun h => Bool.noConfusion h), h2⟩
  generalize (fun i => xs.getD (i * widthN d) 0) = X at *
  generalize (fun i => xs.getD (i * widthN d + 1) 0) = Y at *
  generalize xs.length / widthN d * widthN d = m at *
  generalize xs.length / widthN d = q at *
  generalize xs.take m = ys at *
  generalize xs.length = nl at *
  unfold gv at *
  generalize d % 4 = dm at *
  go_enter Try.func30, Try.ntmps30
  go_wp2_with fail
  refine lettered (R := fun wz => Calls _ _ _ wz _) (fun wz => wz.cell? ⟨w.heap.size, 0, none⟩ = some (.int .i64 2) ∧ wz.cell? ⟨w.heap.size, 1, none⟩ = some (.int .i64 d) ∧ wz.cell? ⟨w.heap.size, 2, none⟩ = some (.slice nad nl ncp) ∧ wz.cell? ⟨w.heap.size, 3, none⟩ = some (.slice kad ks.length kcp) ∧ wz.cell? ⟨w.heap.size + 1, 0, none⟩ = some (.int .i64 2) ∧ wz.cell? ⟨w.heap.size + 1, 1, none⟩ = some (.int .i64 d) ∧ wz.cell? ⟨w.heap.size + 1, 2, none⟩ = some (.slice nad nl ncp) ∧ wz.cell? ⟨w.heap.size + 1, 3, none⟩ = some (.slice kad ks.length kcp) ∧ w.heap.size + 2 ≤ wz.heap.size ∧ Below w.heap.size w wz) ⟨by go_cell, by go_cell, by go_cell, by go_cell, by go_cell, by go_cell, by go_cell, by go_cell, by simp, by go_grown⟩ ?_
  rintro wz ⟨c00, c01, c02, c03, c10, c11, c12, c13, hsz, hb⟩
  have HB := hid hb
  clear hb
  go_wp2_with (first | (go_at_call 33; (with_reducible refine (GS.out _ _ HB.out (row4.2 ⟨by go_cell, by go_cell, by go_cell, by go_cell, trivial⟩)).mono ?_); rintro e w' ⟨r, rfl, -, hbl⟩; obtain ⟨nx, rfl⟩ := later1 (lat (wz := wz) (by repeat (first | (with_reducible exact below_later _ _) | (with_reducible exact Below.refl _ _) | (with_reducible assumption) | (with_reducible refine Below.drew ?_) | (with_reducible refine Below.alloc ?_ (by (first | (with_reducible exact Nat.le_refl _) | (with_reducible exact (below_later _ _).size) | omega | (simp; done) | (simp; omega))) _))) hbl); clear hbl; cases r) | (go_at_call 37; (with_reducible refine (NW.out _ (by first | exact HB.out | (have hZ := HB.out.trans ((below_later wz nx).mono HB.out.size); repeat' (first | (with_reducible exact hZ) | (with_reducible refine Below.alloc ?_ ?_ _) | (with_reducible refine Below.drew ?_) | (have := hZ.size; simp; omega))))).mono ?_); rintro e w' ⟨ad, cp, rfl, hfr, hbl⟩; obtain ⟨nx, rfl⟩ := later1 (lat (wz := wz) (by repeat (first | (with_reducible exact below_later _ _) | (with_reducible exact Below.refl _ _) | (with_reducible assumption) | (with_reducible refine Below.drew ?_) | (with_reducible refine Below.alloc ?_ (by (first | (with_reducible exact Nat.le_refl _) | (with_reducible exact (below_later _ _).size) | omega | (simp; done) | (simp; omega))) _))) hbl); clear hbl) | (go_at_call 36; (with_reducible refine (PL.out _ _ _ (hfr.below (by repeat' (first | (with_reducible exact Below.refl _ _) | (with_reducible refine Below.alloc ?_ ?_ _) | (simp; done) | omega)))).mono ?_); rintro e w' ⟨pa, pc, rfl, hxy, hbl⟩; obtain ⟨nx, rfl⟩ := later1 (lat (wz := wz) (by repeat (first | (with_reducible exact below_later _ _) | (with_reducible exact Below.refl _ _) | (with_reducible assumption) | (with_reducible refine Below.drew ?_) | (with_reducible refine Below.alloc ?_ (by (first | (with_reducible exact Nat.le_refl _) | (with_reducible exact (below_later _ _).size) | omega | (simp; done) | (simp; omega))) _))) hbl); clear hbl))
  · refine bodyPost_ret (v := .tuple #[.slice none 0 0, .bool false]) (by simp [results, Try.results30, go_sem, *]) rfl ?_
    exact .inr ⟨rfl, HB.out.trans ((below_later _ _).mono HB.out.size)⟩
  · refine bodyPost_ret (v := .tuple #[.slice pa q pc, .bool true]) (by simp [results, Try.results30, go_sem, *]) rfl ?_
    exact .inl ⟨_, _, rfl, hxy, HB.out.trans ((below_later _ _).mono HB.out.size)⟩
theorem gLine (n : Nat) (k d : Int) (nad : Option Addr) (ncp : Nat) (xs : List Nat) (kad : Option Addr) (kcp : Nat) (ks : List Value) (w : World) (ho : Own w k d nad ncp xs kad kcp ks) (hk : ∀ u ∈ ks, GeoAt w n u) :
    Calls Try.prog 30 #[gv k d nad xs.length ncp kad ks.length kcp] w (LineSays w k d xs) := by
  by_cases h2 : k = 2
  · by_cases hxl : xs.length < 2000
    · subst h2
      exact gLineYes n d nad ncp xs kad kcp ks w hxl ho hk
    · exact gLineNo n k d nad ncp xs kad kcp ks w (.inr hxl) ho hk
  · exact gLineNo n k d nad ncp xs kad kcp ks w (.inl h2) ho hk
end Go.Proofs.Ytbcjlgkdmkehlaa
