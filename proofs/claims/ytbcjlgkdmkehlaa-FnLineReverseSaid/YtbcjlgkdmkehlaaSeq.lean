/- The package's sequence out of a row of numbers: the whole places' numbers in a new row; its length, its places' X and Y. -/
import Derived.Test.YtbcjlgkdmkehlaaRows
import Derived.Test.YtbcjlgkdmkehlaaPlc
import Derived.Laws.CopyOwn
namespace Go.Proofs.Ytbcjlgkdmkehlaa
open Go.ChangeShapes Go.WideShapes Go.ChangeAt Go.RowKit
set_option maxRecDepth 100000
set_option linter.unusedSimpArgs false
theorem idx (i : Int) (u : Value) (h0 : 0 ≤ i) (h4 : i < 4) (hu : (#[.int .i64 2, .int .i64 3, .int .i64 3, .int .i64 4] : Array Value)[i.toNat]? = some u) (w : World) : (Instr.index 156 (.agg #[.int .i64 2, .int .i64 3, .int .i64 3, .int .i64 4]) (.int .u8 i)).run Try.prog w = .ok u w := by
  have h4' : i.toNat < 4 := by omega
  simp [Instr.index, run_underlying Try.underlying156, go_sem, h0, h4, hu]
  rw [Array.getElem?_eq_getElem (by simpa using h4')] at hu
  simpa using hu
theorem dimension (d : Int) (h : isDim d) (w : World) : Calls Try.prog 104 #[.int .u8 d] w fun e w' => e = .returned (.int .i64 (widthI d)) ∧ Below w.heap.size w w' := by
  have i0 := fun w => idx 0 (.int .i64 2) (by omega) (by omega) rfl w
  have i1 := fun w => idx 1 (.int .i64 3) (by omega) (by omega) rfl w
  have i2 := fun w => idx 2 (.int .i64 3) (by omega) (by omega) rfl w
  have i3 := fun w => idx 3 (.int .i64 4) (by omega) (by omega) rfl w
  rcases h with rfl | rfl | rfl | rfl
  all_goals
    go_enter Try.func104, Try.ntmps104
    go_wp2
    go_ret
    exact ⟨rfl, by go_grown⟩
theorem newSequence (d : Int) (h : isDim d) (ad : Option Addr) (n cp q : Nat) (hq : n = q * widthN d) (hn : n < 2000) (w : World) : Calls Try.prog 129 #[.slice ad n cp, .int .u8 d] w fun e w' => e = .returned (.agg #[.int .u8 d, .slice ad n cp]) ∧ Below w.heap.size w w' := by
  have D := dimension d h
  have hw : widthI d = (widthN d : Int) := by rcases h with rfl | rfl | rfl | rfl <;> rfl
  rw [hw] at D
  have hwp := widthN_pos d
  generalize widthN d = wn at *
  obtain ⟨hw1, hw2⟩ := hwp
  have hr : (n : Int) % (wn : Int) = 0 := by rw [hq, Int.natCast_mul]; exact Int.mul_emod_left _ _
  have hr2 : (n : Int).tmod (wn : Int) = 0 := by rw [Int.tmod_eq_emod_of_nonneg (by omega)]; exact hr
  have hw0 : ¬ (wn : Int) = 0 := by omega
  have hwu : ¬ wn = 0 := by omega
  replace D := hid D
  clear hw hq
  go_enter Try.func129, Try.ntmps129
  go_wp2_with fail
  refine lettered (R := fun wz => Calls _ _ _ wz _) (fun wz => wz.cell? ⟨w.heap.size, 0, none⟩ = some ((.int .u8 0)) ∧ wz.cell? ⟨w.heap.size, 1, none⟩ = some (.slice none 0 0) ∧ wz.frozen? ⟨w.heap.size, 0, none⟩ = false ∧ wz.frozen? ⟨w.heap.size, 1, none⟩ = false ∧ w.heap.size + 1 ≤ wz.heap.size ∧ Below w.heap.size w wz) ⟨by go_cell, by go_cell, by go_cell, by go_cell, by simp, by go_grown⟩ ?_
  rintro wz ⟨c00, c01, z00, z01, hsz, hb⟩
  have HB := hid hb
  clear hb
  go_wp2_with (first | (go_at_call 104; (with_reducible refine (D.out _).mono ?_); rintro e w' ⟨rfl, hbl⟩; obtain ⟨nx, rfl⟩ := later1 (lat (wz := wz) (by repeat (first | (with_reducible exact below_later _ _) | (with_reducible exact Below.refl _ _) | (with_reducible assumption) | (with_reducible refine Below.drew ?_) | (with_reducible refine Below.alloc ?_ (by (first | (with_reducible exact Nat.le_refl _) | (with_reducible exact (below_later _ _).size) | omega | (simp; done) | (simp; omega))) _))) hbl); clear hbl))
  refine bodyPost_ret (ret1 (b := w.heap.size) (cs := [.int .u8 d, .slice ad n cp]) Try.results129 rfl Try.underlying94 rfl (by kernel_rfl) ⟨by go_cell, by go_cell, trivial⟩) rfl ?_
  exact ⟨rfl, by
    have hB := HB.out.trans ((below_later wz nx).mono HB.out.size)
    repeat' (first | (with_reducible exact hB) | (with_reducible refine Below.setCell ?_ ?_ _) | (with_reducible refine Below.alloc ?_ ?_ _) | (with_reducible refine Below.drew ?_) | omega | (simp; done) | (simp; omega))⟩
theorem RowOf.later {w e : World} {g : Nat} {xs : List Value} (h : RowOf w g xs) : RowOf (later w e) g xs := fun j u hu =>
  ((below_later w e).cell (p := ⟨g, j, none⟩) (World.block_lt_of_cell? w _ (h j u hu))).trans (h j u hu)
/-- a copy that fills a new row whole -/
theorem copy_whole {P : Program} {w : World} {ops : Array Oper} {rest : List Oper} {o : Oper} {a : Act} {Q : Exit → Act → World → Prop} (hgd : o.guard = none) (d s : Operand) (dT sT : TypeId)
    (ho : o.op = .call { callee := .builtin .copy, args := #[d, s], argTypes := #[dT, sT] }) (elem : TypeId) (hu : P.underlying dT = some (.slice elem)) (hsz : (P.info? elem).map (·.size) = some 1)
    (base g m : Nat) (cells : List Value) (hown : w.ownsRow base elem 1 (.slice (some ⟨g, 0, none⟩) m m) m cells) (hd : a.eval d = .slice (some ⟨g, 0, none⟩) m m) (ad : Addr) (sLen sCap : Nat) (hs : a.eval s = .slice (some ad) sLen sCap) (hle : m ≤ sLen)
    (news : List Value) (hl : news.length = m) (hsrc : ∀ j v, news[j]? = some v → w.cell? (ad.add j) = some v) (h1 : ∀ v ∈ news, v.oneCell' = true)
    (h : ∀ w', RowOf w' g news → Below g w w' → w'.heap.size = w.heap.size → wpList P ops Q rest (a.put o.dst (goInt m)) w') : wpList P ops Q (o :: rest) a w := by
  obtain ⟨_, hv | ⟨g', cap, cur, he, hg, hh, hn, hc, hcs, htk⟩⟩ := hown
  · cases hv.1
  · simp only [Value.slice.injEq, Option.some.injEq, Addr.mk.injEq, and_true] at he
    obtain ⟨rfl, _, rfl⟩ := he
    rw [Nat.mul_one] at hcs
    refine wpList_copy_own hgd d s dT sT ho elem hu hsz g 0 m m ad sLen sCap hd hs cur elem hh news (by rw [hl]; exact (Nat.min_eq_right hle).symm) hsrc (by omega) h1 ?_
    rw [hl]
    refine h _ ?_ (below_setRow (Below.refl _ _) (Nat.le_refl _) _) (by simp)
    intro j u hu
    rw [cell_setRow_same _ _ _ _ _ _ _ hh]
    have hj : j < news.length := (List.getElem?_eq_some_iff.1 hu).1
    simp [List.getElem?_append_left hj, hu]
set_option maxHeartbeats 1000000 in
theorem sequenceC (d : Int) (b off cp : Nat) (xs : List Nat) (hl : xs.length < 2000) (q m : Nat) (hq : q = xs.length / widthN d) (hm : m = q * widthN d) (hm0 : 0 < m) (w : World) (hF : FRow w (some ⟨b, off, none⟩) xs) :
    Calls Try.prog 103 #[.slice (some ⟨b, off, none⟩) xs.length cp, .int .i64 d] w fun e w' => ∃ g, e = .returned (.agg #[.int .u8 (d % 4), .slice (some ⟨g, 0, none⟩) m m]) ∧ RowOf w' g ((xs.take m).map (Value.float .f64)) ∧ w.heap.size ≤ g ∧ g < w'.heap.size ∧ Below w.heap.size w w' := by
  have T := hid (tDim d)
  have D := dimension (d % 4) (isDim4 d)
  rw [widthI_eq] at D
  have hw4 : widthN (d % 4) = widthN d := by unfold widthN; rw [Int.emod_emod]
  have N := newSequence (d % 4) (isDim4 d) 
  rw [hw4] at N
  have hwp := widthN_pos d
  generalize widthN d = wn at *
  generalize d % 4 = dm at *
  obtain ⟨hw1, hw2⟩ := hwp
  generalize hnl : xs.length = nl at *
  have hml : m ≤ nl := by rw [hm, hq]; exact Nat.div_mul_le_self _ _
  have hw0 : ¬ (wn : Int) = 0 := by omega
  have hwu : ¬ wn = 0 := by omega
  obtain ⟨r, hr⟩ : ∃ r, r = nl % wn := ⟨_, rfl⟩
  have hmr : nl = m + r := by rw [hm, hq, hr, Nat.mul_comm]; exact (Nat.div_add_mod nl wn).symm
  have hri : (nl : Int) % (wn : Int) = (r : Int) := by rw [hr]; rfl
  have HS : Hid (wrap64 ((nl : Int) - (r : Int)) = (m : Int)) := by
    refine hid ?_
    rw [show (nl : Int) - (r : Int) = (m : Int) from by omega]
    exact wrap64_small _ (by omega) (by omega)
  clear hmr
  obtain ⟨i0, hi, hz0, hz1, hz2⟩ := info_parts Try.info29
  have HI := hid hi
  have HZ0 := hid hz0
  have HZ1 := hid hz1
  have HZ2 := hid hz2
  clear hi hz0 hz1 hz2
  have hri2 : (nl : Int).tmod (wn : Int) = (r : Int) := by rw [Int.tmod_eq_emod_of_nonneg (by omega)]; exact hri
  replace N := hid (fun g w => N (some ⟨g, 0, none⟩) m m q hm (by omega) w)
  replace D := hid D
  have HX : Hid (∀ j u, ((xs.take m).map (Value.float .f64))[j]? = some u → w.cell? ((⟨b, off, none⟩ : Addr).add j) = some u) := by
    refine hid ?_
    intro j u hu
    rw [List.getElem?_map] at hu
    obtain ⟨x, hx, rfl⟩ := Option.map_eq_some_iff.1 hu
    rw [List.getElem?_take] at hx
    split at hx
    · obtain ⟨b', off', e, hc⟩ := hF j x hx
      simp only [Option.some.injEq, Addr.mk.injEq, and_true] at e
      obtain ⟨rfl, rfl⟩ := e
      rw [add_plain0]
      exact hc
    · cases hx
  have hnews : ((xs.take m).map (Value.float .f64)).length = m := by rw [List.length_map, List.length_take]; exact Nat.min_eq_left (by rw [hnl]; exact hml)
  have hone : ∀ u ∈ (xs.take m).map (Value.float .f64), u.oneCell' = true := by
    intro u hu
    obtain ⟨x, -, rfl⟩ := List.mem_map.1 hu
    rfl
  generalize (xs.take m).map (Value.float .f64) = news at *
  clear hm hq hr hF
  go_enter Try.func103, Try.ntmps103
  go_wp2_with fail
  refine lettered (R := fun wz => Calls _ _ _ wz _) (fun wz => wz.cell? ⟨w.heap.size, 0, none⟩ = some ((.int .u8 0)) ∧ wz.cell? ⟨w.heap.size, 1, none⟩ = some (.slice none 0 0) ∧ wz.frozen? ⟨w.heap.size, 0, none⟩ = false ∧ wz.frozen? ⟨w.heap.size, 1, none⟩ = false ∧ w.heap.size + 1 ≤ wz.heap.size ∧ Below w.heap.size w wz) ⟨by go_cell, by go_cell, by go_cell, by go_cell, by simp, by go_grown⟩ ?_
  rintro wz ⟨c00, c01, z00, z01, hsz, hb⟩
  have HB := hid hb
  clear hb
  go_wp2_with (first | (go_at_call 128; (with_reducible refine (T.out _).mono ?_); rintro e w' ⟨rfl, hbl⟩; obtain ⟨nx, rfl⟩ := later1 (lat (wz := wz) (by repeat (first | (with_reducible exact below_later _ _) | (with_reducible exact Below.refl _ _) | (with_reducible assumption) | (with_reducible refine Below.drew ?_) | (with_reducible refine Below.alloc ?_ (by (first | (with_reducible exact Nat.le_refl _) | (with_reducible exact (below_later _ _).size) | omega | (simp; done) | (simp; omega))) _))) hbl); clear hbl) | (go_at_call 104; (with_reducible refine (D.out _).mono ?_); rintro e w' ⟨rfl, hbl⟩; obtain ⟨nx, rfl⟩ := later1 (lat (wz := wz) (by repeat (first | (with_reducible exact below_later _ _) | (with_reducible exact Below.refl _ _) | (with_reducible assumption) | (with_reducible refine Below.drew ?_) | (with_reducible refine Below.alloc ?_ (by (first | (with_reducible exact Nat.le_refl _) | (with_reducible exact (below_later _ _).size) | omega | (simp; done) | (simp; omega))) _))) hbl); clear hbl; have sNx := (below_later wz nx).size; have : ¬ w.heap.size = (later wz nx).heap.size := (by omega); have : w.heap.size < (later wz nx).heap.size := (by omega)) | (at_make; refine wpList_make_full _ rfl _ _ 46 rfl w.heap.size 29 i0 _ 1 Try.underlying46 HI.out HZ0.out HZ1.out .i64 .i64 _ _ m rfl rfl HS.out HS.out (by rw [HZ2.out]; omega) (by unfold maxLen; omega) (by omega) ?_; intro w2 hown hgr; have HO := hid hown; have HB2 := hid (Below.grown (B := w.heap.size) (a := w) (HB.out.trans ((below_later wz nx).mono HB.out.size)) hgr (by omega) (fun k hk => by cases hk)); have hb2 := (Below.refl (later wz nx).heap.size (later wz nx)).grown hgr (Nat.le_refl _) (fun k hk => by cases hk); have g0 := (hb2.cell (p := ⟨w.heap.size, 0, none⟩) (by show _ < _; omega)).trans ((by go_cell : (later wz nx).cell? ⟨w.heap.size, 0, none⟩ = some (.int .u8 0))); have g1 := (hb2.cell (p := ⟨w.heap.size, 1, none⟩) (by show _ < _; omega)).trans ((by go_cell : (later wz nx).cell? ⟨w.heap.size, 1, none⟩ = some (.slice none 0 0))); have y0 := (hb2.frozen (p := ⟨w.heap.size, 0, none⟩) (by show _ < _; omega)).trans ((by go_cell : (later wz nx).frozen? ⟨w.heap.size, 0, none⟩ = false)); have y1 := (hb2.frozen (p := ⟨w.heap.size, 1, none⟩) (by show _ < _; omega)).trans ((by go_cell : (later wz nx).frozen? ⟨w.heap.size, 1, none⟩ = false)); have hs2 := hb2.size; have hgs := (HO.out.lt _ rfl).2; clear hown hgr hb2) | (refine copy_whole rfl (.tmp 20) (.tmp 21) 46 46 rfl 29 Try.underlying46 (by rw [HI.out, Option.map_some, HZ1.out]) w.heap.size (later wz nx).heap.size m _ HO.out rfl ⟨b, off, none⟩ nl cp rfl hml news hnews (fun j u hu => (HB2.out.cell (World.block_lt_of_cell? w _ (HX.out j u hu))).trans (HX.out j u hu)) hone ?_; intro w3 hrow hb3 hsz3; have HR := hid hrow; have HB3 := hid (HB2.out.trans (hb3.mono (by omega))); have g0' := (hb3.cell (p := ⟨w.heap.size, 0, none⟩) (by show _ < _; omega)).trans g0; have g1' := (hb3.cell (p := ⟨w.heap.size, 1, none⟩) (by show _ < _; omega)).trans g1; have y0' := (hb3.frozen (p := ⟨w.heap.size, 0, none⟩) (by show _ < _; omega)).trans y0; have y1' := (hb3.frozen (p := ⟨w.heap.size, 1, none⟩) (by show _ < _; omega)).trans y1; clear g0 g1 y0 y1 hrow hb3))
  have hgb : ¬ w.heap.size = (later wz nx).heap.size := by omega
  have hgl : w.heap.size ≤ (later wz nx).heap.size := by omega
  have hgs3 : (later wz nx).heap.size < w3.heap.size := by omega
  generalize (later wz nx).heap.size = g at *
  go_wp2_with (first | (go_at_call 129; (with_reducible refine (N.out _ _).mono ?_); rintro e w' ⟨rfl, hbl⟩; obtain ⟨nx, rfl⟩ := later1 (lat (wz := w3) (by repeat (first | (with_reducible exact below_later _ _) | (with_reducible exact Below.refl _ _) | (with_reducible assumption) | (with_reducible refine Below.drew ?_) | (with_reducible refine Below.alloc ?_ (by (first | (with_reducible exact Nat.le_refl _) | (with_reducible exact (below_later _ _).size) | omega | (simp; done) | (simp; omega))) _))) hbl); clear hbl))
  refine bodyPost_ret (ret1 (b := w.heap.size) (cs := [.int .u8 dm, .slice (some ⟨g, 0, none⟩) m m]) Try.results103 rfl Try.underlying94 rfl (by kernel_rfl) ⟨by go_cell, by go_cell, trivial⟩) rfl ?_
  have hZ := HB3.out.trans ((below_later w3 nx).mono HB3.out.size)
  have hZ2 := (below_later w3 nx).size
  refine ⟨g, rfl, ?_, hgl, by simp; omega, by
    repeat' (first | (with_reducible exact hZ) | (with_reducible refine Below.setCell ?_ ?_ _) | omega | (simp; done) | (simp; omega))⟩
  repeat' (first | (with_reducible exact HR.out.later) | (with_reducible refine RowOf.setCell ?_ ?_) | assumption)
set_option maxHeartbeats 1000000 in
theorem sequence0 (d : Int) (ad : Option Addr) (cp : Nat) (xs : List Nat) (hl : xs.length < 2000) (hq : xs.length / widthN d = 0) (w : World) :
    Calls Try.prog 103 #[.slice ad xs.length cp, .int .i64 d] w fun e w' => ∃ g, e = .returned (.agg #[.int .u8 (d % 4), .slice (some ⟨g, 0, none⟩) 0 0]) ∧ w.heap.size ≤ g ∧ g < w'.heap.size ∧ Below w.heap.size w w' := by
  have T := hid (tDim d)
  have D := dimension (d % 4) (isDim4 d)
  rw [widthI_eq] at D
  have hw4 : widthN (d % 4) = widthN d := by unfold widthN; rw [Int.emod_emod]
  have N := newSequence (d % 4) (isDim4 d) 
  rw [hw4] at N
  have hwp := widthN_pos d
  generalize widthN d = wn at *
  generalize d % 4 = dm at *
  obtain ⟨hw1, hw2⟩ := hwp
  generalize hnl : xs.length = nl at *
  have hw0 : ¬ (wn : Int) = 0 := by omega
  have hwu : ¬ wn = 0 := by omega
  obtain ⟨r, hr⟩ : ∃ r, r = nl % wn := ⟨_, rfl⟩
  have hmr : nl = r := by rw [hr]; have := Nat.div_add_mod nl wn; rw [hq, Nat.mul_zero, Nat.zero_add] at this; exact this.symm
  have hri : (nl : Int) % (wn : Int) = (r : Int) := by rw [hr]; rfl
  have HS : Hid (wrap64 ((nl : Int) - (r : Int)) = ((0 : Nat) : Int)) := by
    refine hid ?_
    rw [show (nl : Int) - (r : Int) = ((0 : Nat) : Int) from by omega]
    exact wrap64_small _ (by omega) (by omega)
  clear hmr
  obtain ⟨i0, hi, hz0, hz1, hz2⟩ := info_parts Try.info29
  have HI := hid hi
  have HZ0 := hid hz0
  have HZ1 := hid hz1
  have HZ2 := hid hz2
  clear hi hz0 hz1 hz2
  have hri2 : (nl : Int).tmod (wn : Int) = (r : Int) := by rw [Int.tmod_eq_emod_of_nonneg (by omega)]; exact hri
  replace N := hid (fun g w => N (some ⟨g, 0, none⟩) 0 0 0 (by omega) (by omega) w)
  replace D := hid D
  clear hq hr
  go_enter Try.func103, Try.ntmps103
  go_wp2_with fail
  refine lettered (R := fun wz => Calls _ _ _ wz _) (fun wz => wz.cell? ⟨w.heap.size, 0, none⟩ = some ((.int .u8 0)) ∧ wz.cell? ⟨w.heap.size, 1, none⟩ = some (.slice none 0 0) ∧ wz.frozen? ⟨w.heap.size, 0, none⟩ = false ∧ wz.frozen? ⟨w.heap.size, 1, none⟩ = false ∧ w.heap.size + 1 ≤ wz.heap.size ∧ Below w.heap.size w wz) ⟨by go_cell, by go_cell, by go_cell, by go_cell, by simp, by go_grown⟩ ?_
  rintro wz ⟨c00, c01, z00, z01, hsz, hb⟩
  have HB := hid hb
  clear hb
  go_wp2_with (first | (go_at_call 128; (with_reducible refine (T.out _).mono ?_); rintro e w' ⟨rfl, hbl⟩; obtain ⟨nx, rfl⟩ := later1 (lat (wz := wz) (by repeat (first | (with_reducible exact below_later _ _) | (with_reducible exact Below.refl _ _) | (with_reducible assumption) | (with_reducible refine Below.drew ?_) | (with_reducible refine Below.alloc ?_ (by (first | (with_reducible exact Nat.le_refl _) | (with_reducible exact (below_later _ _).size) | omega | (simp; done) | (simp; omega))) _))) hbl); clear hbl) | (go_at_call 104; (with_reducible refine (D.out _).mono ?_); rintro e w' ⟨rfl, hbl⟩; obtain ⟨nx, rfl⟩ := later1 (lat (wz := wz) (by repeat (first | (with_reducible exact below_later _ _) | (with_reducible exact Below.refl _ _) | (with_reducible assumption) | (with_reducible refine Below.drew ?_) | (with_reducible refine Below.alloc ?_ (by (first | (with_reducible exact Nat.le_refl _) | (with_reducible exact (below_later _ _).size) | omega | (simp; done) | (simp; omega))) _))) hbl); clear hbl; have sNx := (below_later wz nx).size; have : ¬ w.heap.size = (later wz nx).heap.size := (by omega); have : w.heap.size < (later wz nx).heap.size := (by omega)) | (at_make; refine wpList_make_full _ rfl _ _ 46 rfl w.heap.size 29 i0 _ 1 Try.underlying46 HI.out HZ0.out HZ1.out .i64 .i64 _ _ 0 rfl rfl HS.out HS.out (by rw [HZ2.out]; omega) (by unfold maxLen; omega) (by omega) ?_; intro w2 hown hgr; have HO := hid hown; have HB2 := hid (Below.grown (B := w.heap.size) (a := w) (HB.out.trans ((below_later wz nx).mono HB.out.size)) hgr (by omega) (fun k hk => by cases hk)); have hb2 := (Below.refl (later wz nx).heap.size (later wz nx)).grown hgr (Nat.le_refl _) (fun k hk => by cases hk); have g0 := (hb2.cell (p := ⟨w.heap.size, 0, none⟩) (by show _ < _; omega)).trans ((by go_cell : (later wz nx).cell? ⟨w.heap.size, 0, none⟩ = some (.int .u8 0))); have g1 := (hb2.cell (p := ⟨w.heap.size, 1, none⟩) (by show _ < _; omega)).trans ((by go_cell : (later wz nx).cell? ⟨w.heap.size, 1, none⟩ = some (.slice none 0 0))); have y0 := (hb2.frozen (p := ⟨w.heap.size, 0, none⟩) (by show _ < _; omega)).trans ((by go_cell : (later wz nx).frozen? ⟨w.heap.size, 0, none⟩ = false)); have y1 := (hb2.frozen (p := ⟨w.heap.size, 1, none⟩) (by show _ < _; omega)).trans ((by go_cell : (later wz nx).frozen? ⟨w.heap.size, 1, none⟩ = false)); have hs2 := hb2.size; have hgs := (HO.out.lt _ rfl).2; clear hown hgr hb2) | (refine wpList_copy_nothing rfl (.tmp 20) (.tmp 21) 46 46 rfl 29 Try.underlying46 (by rw [HI.out, Option.map_some, HZ1.out]) (some ⟨(later wz nx).heap.size, 0, none⟩) ad 0 0 nl cp rfl rfl (Nat.min_zero _) ?_))
  have hgb : ¬ w.heap.size = (later wz nx).heap.size := by omega
  have hgl : w.heap.size ≤ (later wz nx).heap.size := by omega
  have hgs3 : (later wz nx).heap.size < w2.heap.size := by omega
  generalize (later wz nx).heap.size = g at *
  go_wp2_with (first | (go_at_call 129; (with_reducible refine (N.out _ _).mono ?_); rintro e w' ⟨rfl, hbl⟩; obtain ⟨nx, rfl⟩ := later1 (lat (wz := w2) (by repeat (first | (with_reducible exact below_later _ _) | (with_reducible exact Below.refl _ _) | (with_reducible assumption) | (with_reducible refine Below.drew ?_) | (with_reducible refine Below.alloc ?_ (by (first | (with_reducible exact Nat.le_refl _) | (with_reducible exact (below_later _ _).size) | omega | (simp; done) | (simp; omega))) _))) hbl); clear hbl))
  refine bodyPost_ret (ret1 (b := w.heap.size) (cs := [.int .u8 dm, .slice (some ⟨g, 0, none⟩) 0 0]) Try.results103 rfl Try.underlying94 rfl (by kernel_rfl) ⟨by go_cell, by go_cell, trivial⟩) rfl ?_
  have hZ := HB2.out.trans ((below_later w2 nx).mono HB2.out.size)
  have hZ2 := (below_later w2 nx).size
  refine ⟨g, rfl, hgl, by simp; omega, by
    repeat' (first | (with_reducible exact hZ) | (with_reducible refine Below.setCell ?_ ?_ _) | omega | (simp; done) | (simp; omega))⟩
end Go.Proofs.Ytbcjlgkdmkehlaa
