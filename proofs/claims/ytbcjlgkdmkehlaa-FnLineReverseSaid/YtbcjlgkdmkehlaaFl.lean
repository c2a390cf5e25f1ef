/- Doubles as rationals: which number a word stands for, that a sum, a product and a comparison of such words are those of the numbers where no rounding is wanted. No program is in sight. -/
import Ieee.Arith
namespace Go.Proofs.Ytbcjlgkdmkehlaa.Fl
open Ieee

/-- 2 ^ e -/
def p2 (e : Int) : Rat := (2 : Rat) ^ e

theorem two_ne : (2 : Rat) ≠ 0 := by decide
theorem p2_pos (e : Int) : 0 < p2 e := Rat.zpow_pos (by decide)
theorem p2_add (a b : Int) : p2 (a + b) = p2 a * p2 b := Rat.zpow_add two_ne a b
theorem p2_zero : p2 0 = 1 := by simp [p2]
theorem p2_nat (n : Nat) : p2 (n : Int) = ((2 ^ n : Nat) : Rat) := by
  unfold p2; rw [Rat.zpow_natCast]; simp [Rat.natCast_pow]

/-- the number with a sign -/
def sg (s : Bool) (m : Nat) : Int := if s then -(m : Int) else m
theorem sg_natAbs (s : Bool) (m : Nat) : (sg s m).natAbs = m := by unfold sg; cases s <;> simp
theorem signed_eq (s : Bool) (m k : Nat) : signed s m k = sg s m * (2 ^ k : Nat) := by
  unfold signed sg; cases s <;> simp [Nat.shiftLeft_eq, Int.neg_mul]
theorem sg_mul (s t : Bool) (m n : Nat) : sg (s ^^ t) (m * n) = sg s m * sg t n := by
  unfold sg; cases s <;> cases t <;> simp [Int.neg_mul, Int.mul_neg]
def val (s : Bool) (m : Nat) (p : Int) : Rat := (sg s m : Rat) * p2 p

/-- the word stands for this number -/
def Is (b : Nat) (v : Rat) : Prop := ∃ s m p, double.read b = .number s m p ∧ val s m p = v

/-- a word of the format has the number exactly -/
def Fits (v : Rat) : Prop := ∃ (n : Int) (p : Int), n.natAbs < 2 ^ 53 ∧ -1074 ≤ p ∧ p ≤ 970 ∧ v = (n : Rat) * p2 p

theorem double_least : double.leastPlace = -1074 := by decide
theorem double_binade : double.binade = 2 ^ 52 := by decide
theorem double_inf : double.infRung = 2047 * 2 ^ 52 := by decide
theorem double_sw : double.signWeight = 2 ^ 63 := by decide
theorem double_fb : double.fractionBits = 52 := by decide

theorem read_word (s : Bool) (r : Nat) (h : r < 2047 * 2 ^ 52) :
    double.read (double.word s r) = if r < 2 ^ 52 then .number s r (-1074) else .number s (2 ^ 52 + r % 2 ^ 52) (-1074 + (r / 2 ^ 52 - 1 : Nat)) := by
  have hlt : r < 2 ^ 63 := by omega
  have e1 : double.word s r / 2 ^ 63 % 2 = s.toNat := by
    unfold Format.word; rw [double_sw]
    cases s
    · simp; omega
    · simp; omega
  have e2 : double.word s r % 2 ^ 63 = r := by
    unfold Format.word; rw [double_sw]
    cases s
    · simp; omega
    · simp; omega
  unfold Format.read
  rw [double_sw, double_binade, double_inf, double_least]
  simp only [e1, e2]
  have e3 : (s.toNat == 1) = s := by cases s <;> rfl
  rw [e3]
  by_cases h1 : r < 2 ^ 52
  · rw [if_pos h1, if_pos h1]
  · rw [if_neg h1, if_neg h1, if_pos h]

theorem val_shift (s : Bool) (m k : Nat) (p : Int) : val s (m * 2 ^ k) p = val s m (p + k) := by
  unfold val
  rw [p2_add, p2_nat]
  have : (sg s (m * 2 ^ k) : Rat) = (sg s m : Rat) * ((2 ^ k : Nat) : Rat) := by
    unfold sg; cases s <;> simp [Rat.neg_mul]
  rw [this]; grind

/-- what a word of a kept significand stands for -/
theorem read_kept (s : Bool) (last : Int) (kept : Nat) (h1 : -1074 ≤ last) (h2 : last ≤ 970) (h3 : kept ≤ 2 ^ 53) (h4 : -1074 < last → 2 ^ 52 ≤ kept) :
    Is (double.word s (min ((last + 1074).toNat * 2 ^ 52 + kept) (2047 * 2 ^ 52))) (val s kept last) := by
  have hm : min ((last + 1074).toNat * 2 ^ 52 + kept) (2047 * 2 ^ 52) = (last + 1074).toNat * 2 ^ 52 + kept := by omega
  have hlt : (last + 1074).toNat * 2 ^ 52 + kept < 2047 * 2 ^ 52 := by omega
  rw [hm]
  generalize hr : (last + 1074).toNat * 2 ^ 52 + kept = r at *
  have hread := read_word s r hlt
  by_cases c1 : r < 2 ^ 52
  · rw [if_pos c1] at hread
    refine ⟨s, r, -1074, hread, ?_⟩
    have : last = -1074 := by omega
    subst this
    have : r = kept := by omega
    rw [this]
  · rw [if_neg c1] at hread
    refine ⟨s, _, _, hread, ?_⟩
    by_cases c2 : kept = 2 ^ 53
    · have q : r / 2 ^ 52 = (last + 1074).toNat + 2 := by omega
      have q2 : r % 2 ^ 52 = 0 := by omega
      rw [q, q2, c2]
      have e : (-1074 + ((last + 1074).toNat + 2 - 1 : Nat) : Int) = last + (1 : Nat) := by omega
      rw [e]
      exact (val_shift s (2 ^ 52) 1 last).symm
    · have c3 : 2 ^ 52 ≤ kept := by
        by_cases c : -1074 < last
        · exact h4 c
        · have : last = -1074 := by omega
          omega
      have q : r / 2 ^ 52 = (last + 1074).toNat + 1 := by omega
      have q2 : 2 ^ 52 + r % 2 ^ 52 = kept := by omega
      rw [q, q2]
      have e : (-1074 + ((last + 1074).toNat + 1 - 1 : Nat) : Int) = last := by omega
      rw [e]

theorem cut_zero (s : Bool) (n : Nat) : Toward.even.cut s n 0 = n := by
  unfold Toward.cut
  simp [Nat.mod_one]

/-- what is kept of a number that is cut: at most half a unit away, and exact where the unit divides it -/
theorem cut_even (s : Bool) (n d : Nat) (hd : d ≤ n.log2 + 2) : 2 * (Toward.even.cut s n d * 2 ^ d) ≤ 2 * n + 2 ^ d ∧ 2 * n ≤ 2 * (Toward.even.cut s n d * 2 ^ d) + 2 ^ d ∧ (2 ^ d ∣ n → Toward.even.cut s n d * 2 ^ d = n) ∧ n / 2 ^ d ≤ Toward.even.cut s n d ∧ Toward.even.cut s n d ≤ n / 2 ^ d + 1 := by
  have hg : (1 <<< min d (n.log2 + 2)) = 2 ^ d := by rw [Nat.min_eq_left hd, Nat.shiftLeft_eq, Nat.one_mul]
  have hp : 0 < 2 ^ d := Nat.two_pow_pos d
  have hdm := Nat.div_add_mod n (2 ^ d)
  have hml := Nat.mod_lt n hp
  unfold Toward.cut
  rw [hg]
  dsimp only
  generalize hq : n / 2 ^ d = q at *
  generalize hr : n % 2 ^ d = r at *
  generalize hG : 2 ^ d = G at *
  have hn : n = q * G + r := by rw [Nat.mul_comm]; exact hdm.symm
  have key : ∀ b : Bool, (b = true → G ≤ 2 * r) → (b = false → 2 * r ≤ G) → (r = 0 → b = false) → 2 * ((q + b.toNat) * G) ≤ 2 * n + G ∧ 2 * n ≤ 2 * ((q + b.toNat) * G) + G ∧ (G ∣ n → (q + b.toNat) * G = n) ∧ q ≤ q + b.toNat ∧ q + b.toNat ≤ q + 1 := by
    intro b h1 h2 h3
    have hdv : G ∣ n → r = 0 := fun h => by rw [← hr]; exact Nat.mod_eq_zero_of_dvd h
    cases b
    · have := h2 rfl
      simp only [Bool.toNat_false, Nat.add_zero]
      refine ⟨by omega, by omega, fun h => by have := hdv h; omega, by omega, by omega⟩
    · have := h1 rfl
      simp only [Bool.toNat_true]
      have : (q + 1) * G = q * G + G := by rw [Nat.add_mul, Nat.one_mul]
      refine ⟨by omega, by omega, fun h => ?_, by omega, by omega⟩
      have := h3 (hdv h); cases this
  refine key _ ?_ ?_ ?_
  · intro h; simp only [Bool.or_eq_true, Bool.and_eq_true, decide_eq_true_eq, beq_iff_eq] at h; omega
  · intro h; simp only [Bool.or_eq_false_iff, decide_eq_false_iff_not] at h; omega
  · intro h; subst h; simp; intro h; omega

theorem cut_even_far (s : Bool) (n d : Nat) (hd : n.log2 + 2 < d) : Toward.even.cut s n d = 0 := by
  have hn : n < 2 ^ (n.log2 + 1) := Nat.lt_log2_self
  have h2 : n < 2 ^ (n.log2 + 2) := Nat.lt_of_lt_of_le hn (Nat.pow_le_pow_right (by decide) (by omega))
  have e2 : 2 ^ (n.log2 + 2) = 2 * 2 ^ (n.log2 + 1) := by rw [Nat.pow_succ, Nat.mul_comm]
  unfold Toward.cut
  rw [Nat.min_eq_right (by omega), Nat.shiftLeft_eq, Nat.one_mul]
  dsimp only
  rw [Nat.div_eq_of_lt h2, Nat.mod_eq_of_lt h2]
  have a1 : decide (2 ^ (n.log2 + 2) < 2 * n) = false := by simp; omega
  have a2 : (2 ^ (n.log2 + 2) == 2 * n) = false := by simp; omega
  simp [a1, a2]

/-- the place of the last digit that is kept -/
def lastOf (m : Nat) (p : Int) : Int := max (p + m.log2 - 52) (-1074)
def keptOf (s : Bool) (m : Nat) (p : Int) : Nat := Toward.even.cut s (m <<< (p - lastOf m p).toNat) (lastOf m p - p).toNat

theorem nearest_eq (s : Bool) (m : Nat) (p : Int) (hm : m ≠ 0) : double.nearest s m p = double.word s (min ((lastOf m p + 1074).toNat * 2 ^ 52 + keptOf s m p) (2047 * 2 ^ 52)) := by
  unfold Format.nearest
  rw [if_neg hm]
  simp only [double_fb, double_least, double_binade, double_inf]
  have : (max (p + (m.log2 : Int) - (52 : Nat)) (-1074)) = lastOf m p := rfl
  rw [this]
  have e : lastOf m p - -1074 = lastOf m p + 1074 := by omega
  rw [e]; rfl

/-- a number that is rounded: at most half a unit away, and exact where the unit divides it -/
theorem kept_near (s : Bool) (m : Nat) (p : Int) (hm : m ≠ 0) :
    (lastOf m p ≤ p → (keptOf s m p : Rat) * p2 (lastOf m p) = (m : Rat) * p2 p) ∧ keptOf s m p ≤ 2 ^ 53 ∧ (-1074 < lastOf m p → 2 ^ 52 ≤ keptOf s m p) ∧
    (p < lastOf m p → 2 ^ (lastOf m p - p).toNat ∣ m → (keptOf s m p : Rat) * p2 (lastOf m p) = (m : Rat) * p2 p) := by
  have hl1 : 2 ^ m.log2 ≤ m := Nat.log2_self_le hm
  have hl2 : m < 2 ^ (m.log2 + 1) := Nat.lt_log2_self
  generalize hL : lastOf m p = L
  have hL1 : p + m.log2 - 52 ≤ L := by rw [← hL]; unfold lastOf; omega
  have hL2 : -1074 ≤ L := by rw [← hL]; unfold lastOf; omega
  have hL3 : -1074 < L → L = p + m.log2 - 52 := by intro h; rw [← hL] at h ⊢; unfold lastOf at *; omega
  unfold keptOf
  rw [hL]
  by_cases c : L ≤ p
  · obtain ⟨k, hk⟩ : ∃ k : Nat, p = L + k := ⟨(p - L).toNat, by omega⟩
    have e1 : (p - L).toNat = k := by omega
    have e2 : (L - p).toNat = 0 := by omega
    rw [e1, e2, cut_zero, Nat.shiftLeft_eq]
    refine ⟨fun _ => ?_, ?_, ?_, fun h => by omega⟩
    · rw [hk, p2_add, p2_nat, Rat.natCast_mul]; grind
    · have : m * 2 ^ k < 2 ^ (m.log2 + 1 + k) := by rw [Nat.pow_add]; exact Nat.mul_lt_mul_of_pos_right hl2 (Nat.two_pow_pos k)
      have : 2 ^ (m.log2 + 1 + k) ≤ 2 ^ 53 := Nat.pow_le_pow_right (by decide) (by omega)
      omega
    · intro h
      have := hL3 h
      have e : m.log2 + k = 52 := by omega
      rw [← e, Nat.pow_add]; exact Nat.mul_le_mul_right _ hl1
  · obtain ⟨d, hd⟩ : ∃ d : Nat, L = p + d := ⟨(L - p).toNat, by omega⟩
    have e1 : (p - L).toNat = 0 := by omega
    have e2 : (L - p).toNat = d := by omega
    rw [e1, e2, Nat.shiftLeft_eq, Nat.pow_zero, Nat.mul_one]
    refine ⟨fun h => by omega, ?_, ?_, fun _ => ?_⟩
    · by_cases hdd : d ≤ m.log2 + 2
      · have h5 := (cut_even s m d hdd).2.2.2.2
        have : m / 2 ^ d < 2 ^ 53 := by
          rw [Nat.div_lt_iff_lt_mul (Nat.two_pow_pos d), ← Nat.pow_add]
          exact Nat.lt_of_lt_of_le hl2 (Nat.pow_le_pow_right (by decide) (by omega))
        omega
      · rw [cut_even_far s m d (by omega)]; omega
    · intro h
      have := hL3 h
      have hdd : d ≤ m.log2 + 2 := by omega
      have h5 := (cut_even s m d hdd).2.2.2.1
      have : 2 ^ 52 ≤ m / 2 ^ d := by
        rw [Nat.le_div_iff_mul_le (Nat.two_pow_pos d), ← Nat.pow_add]
        have : 52 + d = m.log2 := by omega
        rw [this]; exact hl1
      omega
    · intro hdv
      by_cases hdd : d ≤ m.log2 + 2
      · have := (cut_even s m d hdd).2.2.1 hdv
        rw [hd, p2_add, p2_nat]
        have e : (m : Rat) = ((Toward.even.cut s m d : Nat) : Rat) * ((2 ^ d : Nat) : Rat) := by rw [← Rat.natCast_mul, this]
        rw [e]; grind
      · exfalso
        have := Nat.le_of_dvd (Nat.pos_of_ne_zero hm) hdv
        have : 2 ^ (m.log2 + 1) ≤ 2 ^ d := Nat.pow_le_pow_right (by decide) (by omega)
        omega

theorem log2_lt_of (m : Nat) (k : Nat) (hm : m ≠ 0) (h : m < 2 ^ k) : m.log2 < k := (Nat.log2_lt hm).2 h

/-- a number that the format has is written exactly -/
theorem nearest_fits (s : Bool) (m : Nat) (p : Int) (h : Fits (val s m p)) : Is (double.nearest s m p) (val s m p) := by
  by_cases hm : m = 0
  · subst hm
    refine ⟨s, 0, -1074, ?_, ?_⟩
    · unfold Format.nearest; rw [if_pos rfl, read_word s 0 (by decide)]; rfl
    · unfold val sg; cases s <;> simp [Rat.zero_mul]
  · obtain ⟨n, q, h1, h2, h3, h4⟩ := h
    -- compare absolute values
    have hab : (m : Rat) * p2 p = (n.natAbs : Rat) * p2 q := by
      unfold val sg at h4
      have hp := p2_pos p
      have hq := p2_pos q
      have hmm : (0 : Rat) ≤ (m : Rat) := by exact_mod_cast Nat.zero_le m
      by_cases hn : 0 ≤ n
      · have e : (n.natAbs : Rat) = (n : Rat) := by
          have : ((n.natAbs : Int) : Rat) = (n : Rat) := by rw [Int.natAbs_of_nonneg hn]
          simpa [Rat.intCast_natCast] using this
        rw [e]
        cases s
        · simpa [Rat.intCast_natCast] using h4
        · exfalso
          simp [Rat.intCast_natCast] at h4
          have h0 : (0 : Rat) < (m : Rat) := by exact_mod_cast Nat.pos_of_ne_zero hm
          have hnn : (0 : Rat) ≤ (n : Rat) := by exact_mod_cast hn
          have := Rat.mul_pos h0 hp
          have := Rat.mul_nonneg hnn (Rat.le_of_lt hq)
          grind
      · have e : (n.natAbs : Rat) = -(n : Rat) := by
          have : ((n.natAbs : Int) : Rat) = ((-n : Int) : Rat) := by congr 1; omega
          simpa [Rat.intCast_natCast] using this
        rw [e]
        cases s
        · exfalso
          simp [Rat.intCast_natCast] at h4
          have h0 : (0 : Rat) < (m : Rat) := by exact_mod_cast Nat.pos_of_ne_zero hm
          have hnn : (0 : Rat) < -(n : Rat) := by
            have : ((0 : Int) : Rat) < ((-n : Int) : Rat) := by exact_mod_cast (by omega : (0 : Int) < -n)
            simpa using this
          have := Rat.mul_pos h0 hp
          have := Rat.mul_pos hnn hq
          grind
        · simp [Rat.intCast_natCast] at h4
          grind
    generalize hN : n.natAbs = N at *
    have hN0 : N ≠ 0 := by
      intro h0; subst h0
      have h0 : (0 : Rat) < (m : Rat) := by exact_mod_cast Nat.pos_of_ne_zero hm
      have := Rat.mul_pos h0 (p2_pos p)
      simp [Rat.zero_mul] at hab; grind
    -- the places
    have hl1 : 2 ^ m.log2 ≤ m := Nat.log2_self_le hm
    have hl2 : m < 2 ^ (m.log2 + 1) := Nat.lt_log2_self
    have hLq : lastOf m p ≤ q := by
      unfold lastOf
      by_cases c : p + m.log2 - 52 ≤ q
      · omega
      · exfalso
        -- q + 53 ≤ p + log m : N * 2^q < 2^(53+q) ≤ 2^(p + log m) ≤ m 2^p
        obtain ⟨k, hk⟩ : ∃ k : Nat, p + m.log2 = q + 53 + k := ⟨(p + m.log2 - q - 53).toNat, by omega⟩
        have a1 : (N : Rat) * p2 q < p2 (53 + q) := by
          rw [p2_add]
          refine Rat.mul_lt_mul_of_pos_right ?_ (p2_pos q)
          have := p2_nat 53
          rw [show ((53 : Nat) : Int) = 53 from rfl] at this
          rw [this]; exact_mod_cast h1
        have a2 : p2 (m.log2 + p) ≤ (m : Rat) * p2 p := by
          rw [p2_add, p2_nat]
          refine Rat.mul_le_mul_of_nonneg_right ?_ (Rat.le_of_lt (p2_pos p))
          exact_mod_cast hl1
        have a3 : p2 (53 + q) ≤ p2 (m.log2 + p) := by
          have : (m.log2 : Int) + p = (53 + q) + k := by omega
          rw [this, p2_add (53 + q) k, p2_nat k]
          have h1k : (1 : Rat) ≤ ((2 ^ k : Nat) : Rat) := by exact_mod_cast Nat.one_le_two_pow
          have := Rat.mul_le_mul_of_nonneg_left h1k (Rat.le_of_lt (p2_pos (53 + q)))
          simpa [Rat.mul_one] using this
        grind
    obtain ⟨k1, k2, k3, k4⟩ := kept_near s m p hm
    have hL1 : -1074 ≤ lastOf m p := by unfold lastOf; omega
    have hval : (keptOf s m p : Rat) * p2 (lastOf m p) = (m : Rat) * p2 p := by
      by_cases c : lastOf m p ≤ p
      · exact k1 c
      · refine k4 (by omega) ?_
        -- m * 2^p = N * 2^q, q ≥ last > p
        obtain ⟨d, hd⟩ : ∃ d : Nat, q = p + d := ⟨(q - p).toNat, by omega⟩
        have : m = N * 2 ^ d := by
          have e : (m : Rat) * p2 p = ((N * 2 ^ d : Nat) : Rat) * p2 p := by
            rw [hab, hd, p2_add, p2_nat, Rat.natCast_mul]; grind
          have hp0 : p2 p ≠ 0 := fun h => by have := p2_pos p; grind
          have : (m : Rat) = ((N * 2 ^ d : Nat) : Rat) := by grind
          exact_mod_cast this
        have hdd : (lastOf m p - p).toNat ≤ d := by omega
        have := Nat.dvd_trans (Nat.pow_dvd_pow 2 hdd) (this ▸ Nat.dvd_mul_left (2 ^ d) N)
        exact this
    rw [nearest_eq s m p hm]
    have := read_kept s (lastOf m p) (keptOf s m p) hL1 (by omega) k2 k3
    have e : val s (keptOf s m p) (lastOf m p) = val s m p := by
      unfold val sg
      cases s
      · simpa [Rat.intCast_natCast] using hval
      · simp only [if_true, Rat.intCast_neg, Rat.intCast_natCast, Rat.neg_mul]; rw [hval]
    rw [e] at this
    exact this

theorem val_zero (s : Bool) (p : Int) : val s 0 p = 0 := by unfold val sg; cases s <;> simp [Rat.zero_mul]

theorem Is.congr {b : Nat} {u v : Rat} (h : Is b u) (e : u = v) : Is b v := e ▸ h

theorem fits_int (n : Int) (h : n.natAbs ≤ 2 ^ 53) : Fits (n : Rat) := by
  by_cases h1 : n.natAbs < 2 ^ 53
  · exact ⟨n, 0, h1, by decide, by decide, by rw [p2_zero, Rat.mul_one]⟩
  · have e : n = 2 ^ 53 ∨ n = -2 ^ 53 := by omega
    have e1 : p2 1 = 2 := by
      have := p2_nat 1
      simpa using this
    rcases e with e | e
    · refine ⟨2 ^ 52, 1, by decide, by decide, by decide, ?_⟩
      rw [e, e1]; decide +kernel
    · refine ⟨-2 ^ 52, 1, by decide, by decide, by decide, ?_⟩
      rw [e, e1]; decide +kernel

theorem sg_shift (s : Bool) (m : Nat) (p base : Int) (h : base ≤ p) : ((signed s m (p - base).toNat : Int) : Rat) * p2 base = val s m p := by
  rw [signed_eq]
  unfold val
  have e : p = base + ((p - base).toNat : Nat) := by omega
  generalize (p - base).toNat = k at *
  subst e
  rw [p2_add, p2_nat, Rat.intCast_mul, Rat.intCast_natCast]; grind

theorem sg_lt (n : Int) : sg (decide (n < 0)) n.natAbs = n := by
  unfold sg
  by_cases h : n < 0
  · rw [if_pos (by simpa using h)]; omega
  · rw [if_neg (by simpa using h)]; omega

/-- a sum that the format has -/
theorem add_is {a b : Nat} {u v : Rat} (ha : Is a u) (hb : Is b v) (hf : Fits (u + v)) : ∃ r, double.add a b = some r ∧ Is r (u + v) := by
  obtain ⟨s, m, i, ra, ea⟩ := ha
  obtain ⟨t, n, j, rb, eb⟩ := hb
  unfold Format.add
  rw [ra, rb]
  simp only [Datum.sum, Option.map_some, Format.write]
  refine ⟨_, rfl, ?_⟩
  have hA := sg_shift s m i (min i j) (by omega)
  have hB := sg_shift t n j (min i j) (by omega)
  generalize signed s m (i - min i j).toNat = A at *
  generalize signed t n (j - min i j).toNat = B at *
  generalize min i j = base at *
  have hsum : ((A + B : Int) : Rat) * p2 base = u + v := by rw [Rat.intCast_add, Rat.add_mul, hA, hB, ea, eb]
  by_cases h0 : A + B = 0
  · rw [if_pos h0, h0]
    have : u + v = 0 := by rw [← hsum, h0]; simp [Rat.zero_mul]
    rw [this]
    have := nearest_fits (s && t) 0 base (by rw [val_zero]; exact fits_int 0 (by decide))
    rw [val_zero] at this; exact this
  · rw [if_neg h0]
    have e : val (decide (A + B < 0)) (A + B).natAbs base = u + v := by
      rw [← hsum]; unfold val; rw [sg_lt]
    rw [← e] at hf ⊢
    exact nearest_fits _ _ _ hf

theorem opp_is {b : Nat} {v : Rat} (hb : Is b v) : ∃ s m p, (double.read b).opposite = .number s m p ∧ val s m p = -v := by
  obtain ⟨t, n, j, rb, eb⟩ := hb
  refine ⟨!t, n, j, by rw [rb]; rfl, ?_⟩
  rw [← eb]; unfold val sg
  cases t <;> simp [Rat.neg_mul, Rat.neg_neg]

theorem sub_is {a b : Nat} {u v : Rat} (ha : Is a u) (hb : Is b v) (hf : Fits (u - v)) : ∃ r, double.sub a b = some r ∧ Is r (u - v) := by
  obtain ⟨s, m, i, ra, ea⟩ := ha
  obtain ⟨t, n, j, rb, eb⟩ := opp_is hb
  have hf : Fits (u + -v) := by rw [← Rat.sub_eq_add_neg]; exact hf
  rw [Rat.sub_eq_add_neg]
  unfold Format.sub
  rw [ra, rb]
  simp only [Datum.sum, Option.map_some, Format.write]
  refine ⟨_, rfl, ?_⟩
  have hA := sg_shift s m i (min i j) (by omega)
  have hB := sg_shift t n j (min i j) (by omega)
  generalize signed s m (i - min i j).toNat = A at *
  generalize signed t n (j - min i j).toNat = B at *
  generalize min i j = base at *
  have hsum : ((A + B : Int) : Rat) * p2 base = u + -v := by rw [Rat.intCast_add, Rat.add_mul, hA, hB, ea, eb]
  by_cases h0 : A + B = 0
  · rw [if_pos h0, h0]
    have : u + -v = 0 := by rw [← hsum, h0]; simp [Rat.zero_mul]
    rw [this]
    have := nearest_fits (s && t) 0 base (by rw [val_zero]; exact fits_int 0 (by decide))
    rw [val_zero] at this; exact this
  · rw [if_neg h0]
    have e : val (decide (A + B < 0)) (A + B).natAbs base = u + -v := by
      rw [← hsum]; unfold val; rw [sg_lt]
    rw [← e] at hf ⊢
    exact nearest_fits _ _ _ hf

theorem mul_is {a b : Nat} {u v : Rat} (ha : Is a u) (hb : Is b v) (hf : Fits (u * v)) : ∃ r, double.mul a b = some r ∧ Is r (u * v) := by
  obtain ⟨s, m, i, ra, ea⟩ := ha
  obtain ⟨t, n, j, rb, eb⟩ := hb
  unfold Format.mul
  rw [ra, rb]
  simp only [Datum.product, Option.map_some, Format.write]
  refine ⟨_, rfl, ?_⟩
  have e : val (s ^^ t) (m * n) (i + j) = u * v := by
    rw [← ea, ← eb]; unfold val; rw [sg_mul, p2_add, Rat.intCast_mul]; grind
  rw [← e] at hf ⊢
  exact nearest_fits _ _ _ hf

theorem compare_mul (A B : Int) (p : Int) : (A < B ↔ (A : Rat) * p2 p < (B : Rat) * p2 p) ∧ (A = B ↔ (A : Rat) * p2 p = (B : Rat) * p2 p) := by
  have hp := p2_pos p
  have hp0 : p2 p ≠ 0 := fun h => by grind
  constructor
  · rw [Rat.mul_lt_mul_right hp]; exact Rat.intCast_lt_intCast.symm
  · constructor
    · intro h; rw [h]
    · intro h
      have : (A : Rat) = (B : Rat) := by grind
      exact_mod_cast this

/-- how two numbers compare -/
theorem order_is {a b : Nat} {u v : Rat} (ha : Is a u) (hb : Is b v) : double.order a b = some (if u < v then .lt else if u = v then .eq else .gt) := by
  obtain ⟨s, m, i, ra, ea⟩ := ha
  obtain ⟨t, n, j, rb, eb⟩ := hb
  unfold Format.order
  rw [ra, rb]
  simp only [Datum.order]
  have hA := sg_shift s m i (min i j) (by omega)
  have hB := sg_shift t n j (min i j) (by omega)
  generalize signed s m (i - min i j).toNat = A at *
  generalize signed t n (j - min i j).toNat = B at *
  generalize min i j = base at *
  obtain ⟨c1, c2⟩ := compare_mul A B base
  rw [hA, hB, ea, eb] at c1 c2
  congr 1
  by_cases h1 : A < B
  · rw [if_pos (c1.1 h1)]; simp [compare, compareOfLessAndEq, h1]
  · rw [if_neg (fun h => h1 (c1.2 h))]
    by_cases h2 : A = B
    · rw [if_pos (c2.1 h2), h2]; simp [compare, compareOfLessAndEq]
    · rw [if_neg (fun h => h2 (c2.2 h))]; simp [compare, compareOfLessAndEq, h1, h2]

/-- a whole number -/
theorem ofInt_is (n : Int) (h : n.natAbs ≤ 2 ^ 53) : Is (double.write (.number (decide (n < 0)) n.natAbs 0)) (n : Rat) := by
  have e : val (decide (n < 0)) n.natAbs 0 = (n : Rat) := by unfold val; rw [sg_lt, p2_zero, Rat.mul_one]
  have := nearest_fits (decide (n < 0)) n.natAbs 0 (by rw [e]; exact fits_int n h)
  rw [e] at this; exact this

/-- the word stands for this whole number -/
def IsI (b : Nat) (n : Int) : Prop := Is b (n : Rat)
theorem addI {a b : Nat} {m n : Int} (ha : IsI a m) (hb : IsI b n) (h1 : -9007199254740992 ≤ m + n) (h2 : m + n ≤ 9007199254740992) : ∃ r, double.add a b = some r ∧ IsI r (m + n) := by
  have h := add_is ha hb (by rw [← Rat.intCast_add]; exact fits_int _ (by omega))
  rw [← Rat.intCast_add] at h; exact h
theorem subI {a b : Nat} {m n : Int} (ha : IsI a m) (hb : IsI b n) (h1 : -9007199254740992 ≤ m - n) (h2 : m - n ≤ 9007199254740992) : ∃ r, double.sub a b = some r ∧ IsI r (m - n) := by
  have h := sub_is ha hb (by rw [← Rat.intCast_sub]; exact fits_int _ (by omega))
  rw [← Rat.intCast_sub] at h; exact h
theorem mulI {a b : Nat} {m n : Int} (ha : IsI a m) (hb : IsI b n) (h1 : -9007199254740992 ≤ m * n) (h2 : m * n ≤ 9007199254740992) : ∃ r, double.mul a b = some r ∧ IsI r (m * n) := by
  have h := mul_is ha hb (by rw [← Rat.intCast_mul]; exact fits_int _ (by omega))
  rw [← Rat.intCast_mul] at h; exact h
theorem orderI {a b : Nat} {m n : Int} (ha : IsI a m) (hb : IsI b n) : double.order a b = some (if m < n then .lt else if m = n then .eq else .gt) := by
  rw [order_is ha hb]
  have e1 : ((m : Rat) < (n : Rat)) ↔ m < n := Rat.intCast_lt_intCast
  have e2 : ((m : Rat) = (n : Rat)) ↔ m = n := Rat.intCast_inj
  by_cases h1 : m < n
  · rw [if_pos h1, if_pos (e1.2 h1)]
  · rw [if_neg h1, if_neg (fun h => h1 (e1.1 h))]
    by_cases h2 : m = n
    · rw [if_pos h2, if_pos (e2.2 h2)]
    · rw [if_neg h2, if_neg (fun h => h2 (e2.1 h))]
theorem mul_bound (a b K L : Int) (ha1 : -K ≤ a) (ha2 : a ≤ K) (hb1 : -L ≤ b) (hb2 : b ≤ L) : -(K * L) ≤ a * b ∧ a * b ≤ K * L := by
  have hK : 0 ≤ K := by omega
  have hL : 0 ≤ L := by omega
  have h1 : a.natAbs * b.natAbs ≤ K.natAbs * L.natAbs := Nat.mul_le_mul (by omega) (by omega)
  have h2 : (a * b).natAbs = a.natAbs * b.natAbs := Int.natAbs_mul a b
  have h3 : ((K.natAbs * L.natAbs : Nat) : Int) = K * L := by rw [Int.natCast_mul, Int.natAbs_of_nonneg hK, Int.natAbs_of_nonneg hL]
  omega
end Go.Proofs.Ytbcjlgkdmkehlaa.Fl
