/- The sequence's X and Y by the implementation: of a place that there is; and that it says no where there is none. -/
import Derived.Test.YtbcjlgkdmkehlaaRows
import Derived.Test.YtbcjlgkdmkehlaaSgx
import Derived.Defers
import Derived.Recover
namespace Go.Proofs.Ytbcjlgkdmkehlaa
open Go.ChangeShapes Go.WideShapes Go.ChangeAt Go.RowKit
set_option maxRecDepth 100000
set_option linter.unusedSimpArgs false
theorem catchOut (p q : Nat) (a b c : Value) (t : TypeId) (pv : Value) (older : List PanicEntry) (w : World) (h0 : w.cell? ⟨p, 0, none⟩ = some a) (h1 : w.cell? ⟨p, 1, none⟩ = some b) (h2 : w.cell? ⟨q, 0, none⟩ = some c) (z0 : w.frozen? ⟨p, 0, none⟩ = false) (z1 : w.frozen? ⟨p, 1, none⟩ = false) (z2 : w.frozen? ⟨q, 0, none⟩ = false) (hpq : ¬ p = q) :
    CallsD Try.prog 66 #[.pointer (some ⟨p, 0, none⟩), .pointer (some ⟨q, 0, none⟩)] (.panicking ({ v := .iface t pv, recovered := false } :: older)) w fun e u' w' =>
      e = .returned (.tuple #[]) ∧ u' = .panicking ({ v := .iface t pv, recovered := true } :: older) ∧ w' = ((w.setCell ⟨p, 0, none⟩ (.float .f64 0)).setCell ⟨p, 1, none⟩ (.float .f64 0)).setCell ⟨q, 0, none⟩ (.bool false) := by
  refine callsD_of_wpS Try.func66 rfl fun c₀ cs hu => ?_
  apply wpS_seq
  apply wpS_region
  simp [wpOpsS, go_sem, recoverD, hu, Try.ntmps66, Exit.thenS]
  refine wpS_cond (t := true) (by simp [Act.eval, Array.replicate]) ?_
  simp only [if_true]
  apply wpS_region
  simp [wpOpsS, go_sem, *, bodyPostS, results, Try.results66]
theorem catchIdle (p q : Nat) (w : World) :
    CallsD Try.prog 66 #[.pointer (some ⟨p, 0, none⟩), .pointer (some ⟨q, 0, none⟩)] .returning w fun e u' w' => e = .returned (.tuple #[]) ∧ u' = .returning ∧ w' = w := by
  refine callsD_of_wpS Try.func66 rfl fun c₀ cs hu => ?_
  apply wpS_seq
  apply wpS_region
  simp [wpOpsS, go_sem, recoverD, hu, Try.ntmps66, Exit.thenS]
  refine wpS_cond (t := false) (by simp [Act.eval, Array.replicate]) ?_
  simp only [Bool.false_eq_true, if_false]
  refine wpS_of_wp (wp_skip ?_)
  cases c₀
  simp_all [bodyPostS, results, Try.results66]
theorem seqGetOut (d : Int) (nad : Option Addr) (ncp : Nat) (xs : List Nat) (kad : Option Addr) (kl kcp : Nat) (hxl : xs.length < 2000) (i : Int) (hi : -1000000 ≤ i ∧ i ≤ 1000000) (hout : i < 0 ∨ ((xs.length / widthN d : Nat) : Int) ≤ i) (w : World) (hF : FRow w nad xs) :
    Calls Try.prog 31 #[gv 2 d nad xs.length ncp kad kl kcp, .int .i64 i] w fun e w' => e = .returned (.tuple #[.agg #[.float .f64 0, .float .f64 0], .bool false]) ∧ Below w.heap.size w w' := by
  have LO := fun w' (hb : Below w.heap.size w w') => lineOf d nad ncp xs kad kl kcp hxl w' (hF.below hb)
  have hmn : xs.length / widthN d * widthN d < 2000 := by have := Nat.div_mul_le_self xs.length (widthN d); omega
  have GX := fun g w => getXYout (d % 4) (isDim4 d) g (xs.length / widthN d * widthN d) (xs.length / widthN d * widthN d) (xs.length / widthN d) (by rw [width4]) i hi hout w
  have CO := coords (d % 4)
  have CA := catchOut
  have hmf : ∀ (fn : Fn) (first cap : Array Value) (w : World), (Instr.makeFunc fn first cap).run Try.prog w = .ok (.func fn first cap) w := fun _ _ _ _ => rfl
  unfold gv sv at *
  generalize xs.length / widthN d * widthN d = m at *
  generalize xs.length = nl at *
  generalize d % 4 = dm at *
  replace LO := hid LO
  replace GX := hid GX
  replace CO := hid CO
  replace CA := hid CA
  clear hF
  go_enter_defers Try.func31, Try.ntmps31
  go_wp2_with fail
  refine lettered (R := fun wz => Calls _ _ _ wz _) (fun wz => wz.cell? ⟨w.heap.size, 0, none⟩ = some (.int .i64 2) ∧ wz.cell? ⟨w.heap.size, 1, none⟩ = some (.int .i64 d) ∧ wz.cell? ⟨w.heap.size, 2, none⟩ = some (.slice nad nl ncp) ∧ wz.cell? ⟨w.heap.size, 3, none⟩ = some (.slice kad kl kcp) ∧ wz.cell? ⟨w.heap.size + 1, 0, none⟩ = some (.float .f64 0) ∧ wz.cell? ⟨w.heap.size + 1, 1, none⟩ = some (.float .f64 0) ∧ wz.cell? ⟨w.heap.size + 1 + 1, 0, none⟩ = some (.bool false) ∧ wz.frozen? ⟨w.heap.size + 1, 0, none⟩ = false ∧ wz.frozen? ⟨w.heap.size + 1, 1, none⟩ = false ∧ wz.frozen? ⟨w.heap.size + 1 + 1, 0, none⟩ = false ∧ w.heap.size + 3 ≤ wz.heap.size ∧ Below w.heap.size w wz) ⟨by go_cell, by go_cell, by go_cell, by go_cell, by go_cell, by go_cell, by go_cell, by go_cell, by go_cell, by go_cell, by simp, by go_grown⟩ ?_
  rintro wz ⟨c00, c01, c02, c03, c10, c11, c20, z10, z11, z20, hsz, hb⟩
  have HB := hid hb
  clear hb
  go_wp2_with (first | (go_at_call 67; (with_reducible refine (LO.out _ HB.out).mono ?_); rintro e w' ⟨g, rfl, -, -, -, hbl⟩; obtain ⟨nx, rfl⟩ := later1 (lat (wz := wz) (by repeat (first | (with_reducible exact below_later _ _) | (with_reducible exact Below.refl _ _) | (with_reducible assumption) | (with_reducible refine Below.drew ?_) | (with_reducible refine Below.alloc ?_ (by (first | (with_reducible exact Nat.le_refl _) | (with_reducible exact (below_later _ _).size) | omega | (simp; done) | (simp; omega))) _))) hbl); clear hbl) | (go_at_call 68; (with_reducible refine (CO.out _ _ _ _).mono ?_); rintro e w' ⟨rfl, hbl⟩; obtain ⟨nx, rfl⟩ := later1 (lat (wz := wz) (by repeat (first | (with_reducible exact below_later _ _) | (with_reducible exact Below.refl _ _) | (with_reducible assumption) | (with_reducible refine Below.drew ?_) | (with_reducible refine Below.alloc ?_ (by (first | (with_reducible exact Nat.le_refl _) | (with_reducible exact (below_later _ _).size) | omega | (simp; done) | (simp; omega))) _))) hbl); clear hbl) | (go_at_call 69; (with_reducible refine (GX.out _ _).mono ?_); rintro e w' ⟨pt, pv, rfl, hbl⟩; obtain ⟨nx, rfl⟩ := later1 (lat (wz := wz) (by repeat (first | (with_reducible exact below_later _ _) | (with_reducible exact Below.refl _ _) | (with_reducible assumption) | (with_reducible refine Below.drew ?_) | (with_reducible refine Below.alloc ?_ (by (first | (with_reducible exact Nat.le_refl _) | (with_reducible exact (below_later _ _).size) | omega | (simp; done) | (simp; omega))) _))) hbl); clear hbl))
  refine leaves_cons (f := 66) (args := #[.pointer (some ⟨w.heap.size + 1, 0, none⟩), .pointer (some ⟨w.heap.size + 1 + 1, 0, none⟩)]) (by simp) (by simp [go_sem]) ?_
  refine (CA.out (w.heap.size + 1) (w.heap.size + 1 + 1) (.float .f64 0) (.float .f64 0) (.bool false) pt pv [] _ (by go_cell) (by go_cell) (by go_cell) (by go_cell) (by go_cell) (by go_cell) (by omega)).mono ?_
  rintro e u' w'' ⟨rfl, rfl, rfl⟩
  simp [Leaves, settle, results, Try.results31, go_sem, *]
  have hB := HB.out.trans ((below_later wz nx).mono HB.out.size)
  repeat' (first | (with_reducible exact hB) | (with_reducible refine Below.setCell ?_ ?_ _) | (with_reducible refine Below.alloc ?_ ?_ _) | (with_reducible refine Below.drew ?_) | omega | (simp; done) | (simp; omega))
theorem seqGetIn (d : Int) (nad : Option Addr) (ncp : Nat) (xs : List Nat) (kad : Option Addr) (kl kcp : Nat) (hxl : xs.length < 2000) (i : Nat) (hi : i < xs.length / widthN d) (w : World) (hF : FRow w nad xs) :
    Calls Try.prog 31 #[gv 2 d nad xs.length ncp kad kl kcp, .int .i64 i] w fun e w' => e = .returned (.tuple #[.agg #[.float .f64 (xs.getD (i * widthN d) 0), .float .f64 (xs.getD (i * widthN d + 1) 0)], .bool true]) ∧ Below w.heap.size w w' := by
  have LO := fun w' (hb : Below w.heap.size w w') => lineOf d nad ncp xs kad kl kcp hxl w' (hF.below hb)
  have hml := Nat.div_mul_le_self xs.length (widthN d)
  have hmn : xs.length / widthN d * widthN d < 2000 := by omega
  have hin : i * widthN d + 1 < xs.length / widthN d * widthN d := by
    have h1 : (i + 1) * widthN d ≤ xs.length / widthN d * widthN d := Nat.mul_le_mul_right _ hi
    have := widthN_pos d
    rw [Nat.succ_mul] at h1
    omega
  have tk : ∀ j, j < xs.length / widthN d * widthN d → ((xs.take (xs.length / widthN d * widthN d)).map (Value.float .f64))[j]? = some (.float .f64 (xs.getD j 0)) := fun j hj => by
    rw [List.getElem?_map, List.getElem?_take, if_pos hj, List.getD_eq_getElem?_getD, List.getElem?_eq_getElem (by omega)]
    rfl
  have GX := fun g w => getXY (d % 4) (isDim4 d) g (xs.length / widthN d * widthN d) (xs.length / widthN d * widthN d) i ((xs.take (xs.length / widthN d * widthN d)).map (Value.float .f64)) (xs.getD (i * widthN d) 0) (xs.getD (i * widthN d + 1) 0) (by rw [width4]; exact tk _ (by omega)) (by rw [width4]; exact tk _ hin) (by rw [List.length_map, List.length_take]; exact Nat.min_eq_left hml) hmn w
  have CO := coords (d % 4)
  have CI := catchIdle
  have PX := plainXYs
  have hmf : ∀ (fn : Fn) (first cap : Array Value) (w : World), (Instr.makeFunc fn first cap).run Try.prog w = .ok (.func fn first cap) w := fun _ _ _ _ => rfl
  unfold gv sv at *
  generalize ((xs.take (xs.length / widthN d * widthN d)).map (Value.float .f64)) = news at *
  generalize xs.getD (i * widthN d) 0 = x at *
  generalize xs.getD (i * widthN d + 1) 0 = y at *
  clear tk hin hml
  generalize xs.length / widthN d * widthN d = m at *
  generalize xs.length = nl at *
  generalize d % 4 = dm at *
  replace LO := hid LO
  replace GX := hid GX
  replace CO := hid CO
  replace CI := hid CI
  replace PX := hid PX
  clear hF
  go_enter_defers Try.func31, Try.ntmps31
  go_wp2_with fail
  refine lettered (R := fun wz => Calls _ _ _ wz _) (fun wz => wz.cell? ⟨w.heap.size, 0, none⟩ = some (.int .i64 2) ∧ wz.cell? ⟨w.heap.size, 1, none⟩ = some (.int .i64 d) ∧ wz.cell? ⟨w.heap.size, 2, none⟩ = some (.slice nad nl ncp) ∧ wz.cell? ⟨w.heap.size, 3, none⟩ = some (.slice kad kl kcp) ∧ wz.cell? ⟨w.heap.size + 1, 0, none⟩ = some (.float .f64 0) ∧ wz.cell? ⟨w.heap.size + 1, 1, none⟩ = some (.float .f64 0) ∧ wz.cell? ⟨w.heap.size + 1 + 1, 0, none⟩ = some (.bool false) ∧ wz.frozen? ⟨w.heap.size + 1, 0, none⟩ = false ∧ wz.frozen? ⟨w.heap.size + 1, 1, none⟩ = false ∧ wz.frozen? ⟨w.heap.size + 1 + 1, 0, none⟩ = false ∧ w.heap.size + 3 ≤ wz.heap.size ∧ Below w.heap.size w wz) ⟨by go_cell, by go_cell, by go_cell, by go_cell, by go_cell, by go_cell, by go_cell, by go_cell, by go_cell, by go_cell, by simp, by go_grown⟩ ?_
  rintro wz ⟨c00, c01, c02, c03, c10, c11, c20, z10, z11, z20, hsz, hb⟩
  have HB := hid hb
  clear hb
  go_wp2_with (first | (go_at_call 67; (with_reducible refine (LO.out _ HB.out).mono ?_); rintro e w' ⟨g, rfl, hrow, -, hg, hbl⟩; obtain ⟨nx, rfl⟩ := later1 (lat (wz := wz) (by repeat (first | (with_reducible exact below_later _ _) | (with_reducible exact Below.refl _ _) | (with_reducible assumption) | (with_reducible refine Below.drew ?_) | (with_reducible refine Below.alloc ?_ (by (first | (with_reducible exact Nat.le_refl _) | (with_reducible exact (below_later _ _).size) | omega | (simp; done) | (simp; omega))) _))) hbl); clear hbl) | (go_at_call 68; (with_reducible refine (CO.out _ _ _ _).mono ?_); rintro e w' ⟨rfl, hbl⟩; have hrow2 := hid (hrow.under hbl hg); obtain ⟨nx, rfl⟩ := later1 (lat (wz := wz) (by repeat (first | (with_reducible exact below_later _ _) | (with_reducible exact Below.refl _ _) | (with_reducible assumption) | (with_reducible refine Below.drew ?_) | (with_reducible refine Below.alloc ?_ (by (first | (with_reducible exact Nat.le_refl _) | (with_reducible exact (below_later _ _).size) | omega | (simp; done) | (simp; omega))) _))) hbl); clear hbl) | (go_at_call 69; (with_reducible refine (GX.out _ _ hrow2.out).mono ?_); rintro e w' ⟨rfl, hbl⟩; obtain ⟨nx, rfl⟩ := later1 (lat (wz := wz) (by repeat (first | (with_reducible exact below_later _ _) | (with_reducible exact Below.refl _ _) | (with_reducible assumption) | (with_reducible refine Below.drew ?_) | (with_reducible refine Below.alloc ?_ (by (first | (with_reducible exact Nat.le_refl _) | (with_reducible exact (below_later _ _).size) | omega | (simp; done) | (simp; omega))) _))) hbl); clear hbl) | (go_at_call 64; (with_reducible refine (PX.out _ _ _).mono ?_); rintro e w' ⟨rfl, hbl⟩; obtain ⟨nx, rfl⟩ := later1 (lat (wz := wz) (by repeat (first | (with_reducible exact below_later _ _) | (with_reducible exact Below.refl _ _) | (with_reducible assumption) | (with_reducible refine Below.drew ?_) | (with_reducible refine Below.alloc ?_ (by (first | (with_reducible exact Nat.le_refl _) | (with_reducible exact (below_later _ _).size) | omega | (simp; done) | (simp; omega))) _))) hbl); clear hbl))
  refine leaves_cons (f := 66) (args := #[.pointer (some ⟨w.heap.size + 1, 0, none⟩), .pointer (some ⟨w.heap.size + 1 + 1, 0, none⟩)]) (by simp) (by simp [go_sem]) ?_
  refine (CI.out (w.heap.size + 1) (w.heap.size + 1 + 1) _).mono ?_
  rintro e u' w'' ⟨rfl, rfl, rfl⟩
  simp [Leaves, settle, results, Try.results31, go_sem, *]
  have hB := HB.out.trans ((below_later wz nx).mono HB.out.size)
  repeat' (first | (with_reducible exact hB) | (with_reducible refine Below.setCell ?_ ?_ _) | (with_reducible refine Below.alloc ?_ ?_ _) | (with_reducible refine Below.drew ?_) | omega | (simp; done) | (simp; omega))
end Go.Proofs.Ytbcjlgkdmkehlaa
