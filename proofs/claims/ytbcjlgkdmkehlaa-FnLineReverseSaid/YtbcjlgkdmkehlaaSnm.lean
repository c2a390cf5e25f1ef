/- Whether two rows of numbers are the same, bit by bit. -/
import Derived.Test.YtbcjlgkdmkehlaaRows
import Derived.Test.YtbcjlgkdmkehlaaTre
import Derived.Test.YtbcjlgkdmkehlaaGln
import Derived.Laws.Externs
namespace Go.Proofs.Ytbcjlgkdmkehlaa
open Go.ChangeShapes Go.WideShapes Go.ChangeAt Go.RowKit
set_option maxRecDepth 100000
set_option linter.unusedSimpArgs false
theorem bits64 (x : Nat) (w : World) : (callFunc 70 #[.float .f64 x]).run Try.prog w = .ok (.value (.int .u64 x)) w := by
  rw [run_callFunc_extern (fn := Try.f70) (e := Extern.MathFloatBits.float64bits) Try.func70 (by kernel_rfl) (by kernel_rfl) (by kernel_rfl) (by kernel_rfl)]
  rfl
theorem take_same {xs ys : List Nat} {i : Nat} {x : Nat} (h : xs.take i = ys.take i) (hx : xs[i]? = some x) (hy : ys[i]? = some x) : xs.take (i + 1) = ys.take (i + 1) := by
  rw [List.take_add_one, List.take_add_one, h, hx, hy]
theorem sameNums (a b : Option Addr) (c1 c2 : Nat) (xs ys : List Nat) (hl : xs.length ≤ 9223372036854775806) (hl2 : ys.length ≤ 9223372036854775806) (w : World) (h1 : FRow w a xs) (h2 : FRow w b ys) :
    Calls Try.prog 32 #[.slice a xs.length c1, .slice b ys.length c2] w fun e w' => e = .returned (.bool (decide (xs = ys))) ∧ Below w.heap.size w w' := by
  have FB := bits64
  have H1 := hid h1
  have H2 := hid h2
  clear h1 h2
  by_cases hne : xs.length = ys.length
  · have HD : Hid (∀ (i x y : Nat), xs[i]? = some x → ys[i]? = some y → ¬ x = y → ¬ xs = ys) := hid (fun i x y hx hy hn e => by subst e; rw [hx] at hy; exact hn (Option.some.inj hy))
    have HE : Hid (∀ (i : Nat), i = xs.length → xs.take i = ys.take i → xs = ys) := hid (fun i hi h => by rw [List.take_of_length_le (by omega), List.take_of_length_le (by omega)] at h; exact h)
    generalize hnl : xs.length = nl at *
    generalize hml : ys.length = ml at *
    subst hne
    go_enter Try.func32, Try.ntmps32
    go_wp2_with fail
    go_loopw [14] (fun iv wr => ∃ i : Nat, i ≤ nl ∧ iv = .int .i64 i ∧ Hid (xs.take i = ys.take i) ∧ Below w.heap.size w wr) (fun iv _ => nl - (intOf iv).toNat)
    case atStart => exact ⟨0, Nat.zero_le _, rfl, hid (by simp), by go_grown⟩
    case round =>
      obtain ⟨i, hi, rfl, hok, hbl⟩ := hrel
      have HB := hid hbl
      by_cases hlt : i < nl
      · obtain ⟨x, hx⟩ : ∃ x, xs[i]? = some x := ⟨_, List.getElem?_eq_getElem (by omega)⟩
        obtain ⟨y, hy⟩ : ∃ y, ys[i]? = some y := ⟨_, List.getElem?_eq_getElem (by omega)⟩
        obtain ⟨p, off, rfl, hc⟩ := H1.out i x hx
        obtain ⟨p', off', rfl, hc'⟩ := H2.out i y hy
        have e0 := (hbl.cell (World.block_lt_of_cell? w _ hc)).trans hc
        have e1 := (hbl.cell (World.block_lt_of_cell? w _ hc')).trans hc'
        clear hbl
        have HX := hid hx
        have HY := hid hy
        clear hx hy hc hc'
        have j0 : (0 : Int) ≤ (i : Int) := by omega
        have j1 : (i : Int) < (nl : Int) := by omega
        by_cases hxy : x = y
        · subst hxy
          have HN := hid (take_same hok.out HX.out HY.out)
          go_wp2_with fail
          refine wp_region_ord (S := (fun w' => ∃ e, w' = later wr e)) [(0, false), (1, false), (2, false), (3, false), (4, false), (5, false), (6, false), (7, false)] (by kernel_rfl) (by kernel_rfl) (fun _ _ d _ _ h => by cases d <;> exact h) ⟨_, (later_of (by repeat (first | (with_reducible exact below_later _ _) | (with_reducible exact Below.refl _ _) | (with_reducible assumption) | (with_reducible refine Below.drew ?_) | (with_reducible refine Below.alloc ?_ (by (first | (with_reducible exact Nat.le_refl _) | (with_reducible exact (below_later _ _).size) | omega | (simp; done) | (simp; omega))) _)))).symm⟩ ?_
          simp only [pickO, List.filterMap_cons, List.filterMap_nil, List.getElem?_cons_succ, List.getElem?_cons_zero, Option.map_some]
          repeat (first
            | ((with_reducible refine wpOrd_light (fun K hK => ?_)); go_simp; (first | (with_reducible refine hK _ ?_) | (rw [if_neg (by intro h; cases h)]; with_reducible refine hK _ ?_)); clear hK K)
            | ((with_reducible refine wpOrd_heavy (fun K L hK hL => ?_)); go_simp; (first | (with_reducible refine hL _ ?_) | (rw [if_neg (by intro h; cases h)]; with_reducible refine hL _ ?_)); clear hK hL K L)
            | ((with_reducible refine wpOrd_heavy (fun K L hK hL => ?_)); go_simp; (with_reducible refine hK _ _ ?_ ?_); (focus (exact ⟨_, (later_of (by repeat (first | (with_reducible exact below_later _ _) | (with_reducible exact Below.refl _ _) | (with_reducible assumption) | (with_reducible refine Below.drew ?_) | (with_reducible refine Below.alloc ?_ (by (first | (with_reducible exact Nat.le_refl _) | (with_reducible exact (below_later _ _).size) | omega | (simp; done) | (simp; omega))) _)))).symm⟩)); clear hK hL K L))
          refine wpOrd_nil ?_
          go_wp2_with fail
          go_roundw
          case rel => exact ⟨i + 1, by omega, by go_num, HN, HB.out.drew⟩
          case measure => simp [intOf]; omega
        · have HN := hid (HD.out i x y HX.out HY.out hxy)
          have j2 : ((x : Int) != (y : Int)) = true := by simp only [bne_iff_ne, ne_eq]; omega
          go_wp2_with fail
          refine wp_region_ord (S := (fun w' => ∃ e, w' = later wr e)) [(0, false), (1, false), (2, false), (3, false), (4, false), (5, false), (6, false), (7, false)] (by kernel_rfl) (by kernel_rfl) (fun _ _ d _ _ h => by cases d <;> exact h) ⟨_, (later_of (by repeat (first | (with_reducible exact below_later _ _) | (with_reducible exact Below.refl _ _) | (with_reducible assumption) | (with_reducible refine Below.drew ?_) | (with_reducible refine Below.alloc ?_ (by (first | (with_reducible exact Nat.le_refl _) | (with_reducible exact (below_later _ _).size) | omega | (simp; done) | (simp; omega))) _)))).symm⟩ ?_
          simp only [pickO, List.filterMap_cons, List.filterMap_nil, List.getElem?_cons_succ, List.getElem?_cons_zero, Option.map_some]
          repeat (first
            | ((with_reducible refine wpOrd_light (fun K hK => ?_)); go_simp; (first | (with_reducible refine hK _ ?_) | (rw [if_neg (by intro h; cases h)]; with_reducible refine hK _ ?_)); clear hK K)
            | ((with_reducible refine wpOrd_heavy (fun K L hK hL => ?_)); go_simp; (first | (with_reducible refine hL _ ?_) | (rw [if_neg (by intro h; cases h)]; with_reducible refine hL _ ?_)); clear hK hL K L)
            | ((with_reducible refine wpOrd_heavy (fun K L hK hL => ?_)); go_simp; (with_reducible refine hK _ _ ?_ ?_); (focus (exact ⟨_, (later_of (by repeat (first | (with_reducible exact below_later _ _) | (with_reducible exact Below.refl _ _) | (with_reducible assumption) | (with_reducible refine Below.drew ?_) | (with_reducible refine Below.alloc ?_ (by (first | (with_reducible exact Nat.le_refl _) | (with_reducible exact (below_later _ _).size) | omega | (simp; done) | (simp; omega))) _)))).symm⟩)); clear hK hL K L))
          refine wpOrd_nil ?_
          go_wp2_with fail
          go_ret
          exact ⟨by rw [decide_eq_false HN.out]; rfl, HB.out.drew⟩
      · have HN := hid (HE.out i (by omega) hok.out)
        go_wp2_with fail
        go_ret
        exact ⟨by rw [decide_eq_true HN.out]; rfl, HB.out⟩
  · have hn : ¬ xs = ys := fun e => hne (by rw [e])
    rw [decide_eq_false hn]
    clear hn
    generalize xs.length = nl at *
    generalize ys.length = ml at *
    have hne' : ¬ (nl : Int) = (ml : Int) := by omega
    go_enter Try.func32, Try.ntmps32
    go_wp2_with fail
    go_ret
    exact ⟨rfl, by go_grown⟩
end Go.Proofs.Ytbcjlgkdmkehlaa
