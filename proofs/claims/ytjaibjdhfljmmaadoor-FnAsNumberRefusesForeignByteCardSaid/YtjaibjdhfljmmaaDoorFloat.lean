/-
  Plain facts on float64 over Ieee: the units of a word (multiples of 2^-1074), float64(n) exact for |n| up to 2^53, comparison, conversion to an integer; no program in sight.
-/
import Derived.Laws.FloatArith
namespace Go.FPlain
open Ieee

/-- a shift as a product -/
theorem shl (m k : Nat) : m <<< k = m * 2 ^ k := Nat.shiftLeft_eq m k

theorem cut_zero (way : Toward) (neg : Bool) (n : Nat) : way.cut neg n 0 = n := by
  unfold Toward.cut
  simp only [Nat.zero_min]
  cases way <;> simp [Nat.mod_one]

theorem log2_mul_pow (q d : Nat) (hq : 0 < q) : (q * 2 ^ d).log2 = q.log2 + d := by
  have hp := Nat.two_pow_pos d
  have hne : q * 2 ^ d ≠ 0 := Nat.ne_of_gt (Nat.mul_pos hq hp)
  have h1 : 2 ^ q.log2 ≤ q := Nat.log2_self_le (by omega)
  have h2 : q < 2 ^ (q.log2 + 1) := Nat.lt_log2_self
  apply Nat.le_antisymm
  · have : (q * 2 ^ d).log2 < q.log2 + d + 1 := by
      rw [Nat.log2_lt hne, show q.log2 + d + 1 = (q.log2 + 1) + d by omega, Nat.pow_add]
      exact Nat.mul_lt_mul_of_pos_right h2 hp
    omega
  · rw [Nat.le_log2 hne, Nat.pow_add]
    exact Nat.mul_le_mul_right _ h1

/-- An exact cut: the dropped digits are all zero. -/
theorem cut_exact (way : Toward) (neg : Bool) (q d : Nat) (hq : 0 < q) : way.cut neg (q * 2 ^ d) d = q := by
  unfold Toward.cut
  have hlog := log2_mul_pow q d hq
  have hmin : min d ((q * 2 ^ d).log2 + 2) = d := by omega
  simp only [hmin, shl, Nat.one_mul]
  have hp := Nat.two_pow_pos d
  rw [Nat.mul_div_cancel _ hp, Nat.mul_mod_left]
  cases way <;> simp

/-- The units of one. -/
def one1 : Nat := 2 ^ 1074

theorem pow_pos' (c d : Nat) (h : d = 2 ^ c) : 0 < d := h ▸ Nat.two_pow_pos c
theorem one1_pos : 0 < one1 := pow_pos' 1074 one1 (by unfold one1; rfl)

/-- The units of a finite double: multiples of 2 ^ -1074. -/
def IsU (w : Nat) (u : Int) : Prop :=
  ∃ (neg : Bool) (m e : Nat), double.read w = .number neg m ((e : Int) - 1074) ∧ u = (if neg then -((m * 2 ^ e : Nat) : Int) else ((m * 2 ^ e : Nat) : Int))

theorem read_word (neg : Bool) (r : Nat) (h : r < double.infRung) :
    double.read (double.word neg r) = if r < 2 ^ 52 then .number neg r (-1074) else .number neg (2 ^ 52 + r % 2 ^ 52) (-1074 + (r / 2 ^ 52 - 1 : Nat)) := by
  have hw : double.signWeight = 2 ^ 63 := rfl
  have hi : double.infRung = 2047 * 2 ^ 52 := rfl
  have hb : double.binade = 2 ^ 52 := rfl
  have hl : double.leastPlace = -1074 := rfl
  have hr : r < 2 ^ 63 := by rw [hi] at h; omega
  have h1 : double.word neg r / double.signWeight % 2 = if neg then 1 else 0 := by
    unfold Format.word; rw [hw]; cases neg <;> simp <;> omega
  have h2 : double.word neg r % double.signWeight = r := by
    unfold Format.word; rw [hw]; cases neg <;> simp <;> omega
  unfold Format.read
  simp only [h1, h2, hb, hl, h, if_true]
  cases neg <;> simp

theorem rung_read (neg : Bool) (k q : Nat) (hk2 : k ≤ 2045) (hq53 : q < 2 ^ 53) (hk : k = 0 ∨ 2 ^ 52 ≤ q) :
    double.read (double.word neg (min (k * 2 ^ 52 + q) double.infRung)) = .number neg q ((k : Int) - 1074) := by
  have hi : double.infRung = 9218868437227405312 := rfl
  have e52 : (2 : Nat) ^ 52 = 4503599627370496 := rfl
  have e53 : (2 : Nat) ^ 53 = 9007199254740992 := rfl
  rw [e52] at *
  rw [e53] at hq53
  have hr : k * 4503599627370496 + q < double.infRung := by rw [hi]; omega
  rw [Nat.min_eq_left (Nat.le_of_lt hr), read_word neg _ hr, e52]
  by_cases hs : k * 4503599627370496 + q < 4503599627370496
  · rw [if_pos hs]
    have : k = 0 := by omega
    subst this
    simp
  · rw [if_neg hs]
    have hq : 4503599627370496 ≤ q := by omega
    have e1 : 4503599627370496 + (k * 4503599627370496 + q) % 4503599627370496 = q := by omega
    have e2 : ((k * 4503599627370496 + q) / 4503599627370496 - 1 : Nat) = k := by omega
    have e3 : (-1074 + (k : Int)) = (k : Int) - 1074 := by omega
    rw [e1, e2, e3]

/-- Rounding of what is representable: the word's reading. -/
theorem read_nearest (neg : Bool) (m : Nat) (e : Nat) (d : Nat) (hm : m < 2 ^ 53) (hLe : m.log2 + e < 2098) :
    IsU (double.nearest neg (m * 2 ^ d) ((e : Int) - 1074 - d)) (if neg then -((m * 2 ^ e : Nat) : Int) else ((m * 2 ^ e : Nat) : Int)) := by
  by_cases h0 : m = 0
  · subst h0
    refine ⟨neg, 0, 0, ?_, by simp⟩
    simp [Format.nearest, read_word neg 0 (by decide)]
  have hm0 : 0 < m := by omega
  have hL : m.log2 < 53 := (Nat.log2_lt h0).2 hm
  have hlo : 2 ^ m.log2 ≤ m := Nat.log2_self_le h0
  have hhi : m < 2 ^ (m.log2 + 1) := Nat.lt_log2_self
  have hlog := log2_mul_pow m d hm0
  have hne : m * 2 ^ d ≠ 0 := Nat.ne_of_gt (Nat.mul_pos hm0 (Nat.two_pow_pos d))
  have hfb : double.fractionBits = 52 := rfl
  have hl : double.leastPlace = -1074 := rfl
  have hb : double.binade = 2 ^ 52 := rfl
  have hi : double.infRung = 2047 * 2 ^ 52 := rfl
  unfold Format.nearest
  rw [if_neg hne]
  simp only [hlog, hfb, hl, hb]
  -- the place kept, in units
  generalize hlast : max ((e : Int) - 1074 - d + ((m.log2 + d : Nat) : Int) - (52 : Nat)) (-1074) = last
  obtain ⟨k, hk⟩ : ∃ k : Nat, last = (k : Int) - 1074 := ⟨(last + 1074).toNat, by omega⟩
  have hke : k ≤ e := by omega
  have hkept : Toward.even.cut neg ((m * 2 ^ d) <<< ((e : Int) - 1074 - d - last).toNat) (last - ((e : Int) - 1074 - d)).toNat = m * 2 ^ (e - k) := by
    rw [shl]
    by_cases hc : d ≤ e - k
    · rw [show (last - ((e : Int) - 1074 - d)).toNat = 0 by omega, cut_zero, Nat.mul_assoc, ← Nat.pow_add]
      congr 2; omega
    · rw [show ((e : Int) - 1074 - d - last).toNat = 0 by omega, show (last - ((e : Int) - 1074 - d)).toNat = d - (e - k) by omega]
      have : m * 2 ^ d * 2 ^ 0 = (m * 2 ^ (e - k)) * 2 ^ (d - (e - k)) := by
        rw [Nat.pow_zero, Nat.mul_one, Nat.mul_assoc, ← Nat.pow_add]; congr 2; omega
      rw [this, cut_exact _ _ _ _ (Nat.mul_pos hm0 (Nat.two_pow_pos _))]
  rw [hkept, show (last - -1074).toNat = k by omega]
  generalize hq : m * 2 ^ (e - k) = q
  have hqe : q * 2 ^ k = m * 2 ^ e := by
    rw [← hq, Nat.mul_assoc, ← Nat.pow_add]; congr 2; omega
  have hq53 : q < 2 ^ 53 := by
    rw [← hq]
    calc m * 2 ^ (e - k) < 2 ^ (m.log2 + 1) * 2 ^ (e - k) := Nat.mul_lt_mul_of_pos_right hhi (Nat.two_pow_pos _)
      _ = 2 ^ (m.log2 + 1 + (e - k)) := (Nat.pow_add ..).symm
      _ ≤ 2 ^ 53 := Nat.pow_le_pow_right (by omega) (by omega)
  have hk2 : k ≤ 2045 := by omega
  refine ⟨neg, q, k, ?_, by rw [hqe]⟩
  refine rung_read neg k q hk2 hq53 ?_
  by_cases hk0 : k = 0
  · exact Or.inl hk0
  · have : e - k + m.log2 = 52 := by omega
    refine Or.inr ?_
    rw [← hq, ← this, Nat.pow_add, Nat.mul_comm]
    exact Nat.mul_le_mul_right _ hlo

theorem cmp_mul (p q b : Int) (hb : 0 < b) : compare (p * b) (q * b) = compare p q := by
  simp only [compare, compareOfLessAndEq]
  by_cases h : p < q
  · rw [if_pos h, if_pos (Int.mul_lt_mul_of_pos_right h hb)]
  · by_cases h' : p = q
    · subst h'; simp
    · have : q < p := by omega
      have := Int.mul_lt_mul_of_pos_right this hb
      rw [if_neg h, if_neg h', if_neg (by omega), if_neg (by omega)]

theorem signed_units (s : Bool) (m i b : Nat) (h : b ≤ i) : (if s then -((m * 2 ^ i : Nat) : Int) else ((m * 2 ^ i : Nat) : Int)) = signed s m (i - b) * ((2 ^ b : Nat) : Int) := by
  have hi : m * 2 ^ i = m * 2 ^ (i - b) * 2 ^ b := by rw [Nat.mul_assoc, ← Nat.pow_add]; congr 2; omega
  rw [hi]; unfold signed; rw [shl]; cases s <;> simp [Int.neg_mul]

theorem order_numbers (s t : Bool) (m n i j : Nat) : (Datum.number s m ((i : Int) - 1074)).order (.number t n ((j : Int) - 1074)) =
    some (compare (if s then -((m * 2 ^ i : Nat) : Int) else ((m * 2 ^ i : Nat) : Int)) (if t then -((n * 2 ^ j : Nat) : Int) else ((n * 2 ^ j : Nat) : Int))) := by
  obtain ⟨b, hb, hbi, hbj⟩ : ∃ b : Nat, min ((i : Int) - 1074) ((j : Int) - 1074) = (b : Int) - 1074 ∧ b ≤ i ∧ b ≤ j := ⟨min i j, by omega, by omega, by omega⟩
  rw [signed_units s m i b hbi, signed_units t n j b hbj, cmp_mul _ _ _ (by have := Nat.two_pow_pos b; omega)]
  show some (compare (signed s m ((i : Int) - 1074 - min ((i : Int) - 1074) ((j : Int) - 1074)).toNat) (signed t n ((j : Int) - 1074 - min ((i : Int) - 1074) ((j : Int) - 1074)).toNat)) = _
  rw [hb, show ((i : Int) - 1074 - ((b : Int) - 1074)).toNat = i - b by omega, show ((j : Int) - 1074 - ((b : Int) - 1074)).toNat = j - b by omega]

theorem order_of (x y : Nat) (u v : Int) (hx : IsU x u) (hy : IsU y v) : double.order x y = some (compare u v) := by
  obtain ⟨s, m, i, hx, rfl⟩ := hx
  obtain ⟨t, n, j, hy, rfl⟩ := hy
  unfold Format.order
  rw [hx, hy]
  exact order_numbers s t m n i j

theorem pow53_isU (neg : Bool) (c : Nat) (hc : c = 1074) :
    IsU (double.nearest neg 9007199254740992 0) (if neg then -((9007199254740992 * 2 ^ c : Nat) : Int) else ((9007199254740992 * 2 ^ c : Nat) : Int)) := by
  have h := read_nearest neg 1 (53 + c) 53 (by decide) (by rw [show Nat.log2 1 = 0 by decide]; omega)
  rw [Nat.one_mul, Nat.one_mul, Nat.pow_add, show ((53 + c : Nat) : Int) - 1074 - (53 : Nat) = 0 by omega] at h
  exact h

/-- 'float64(n)', n within 2^53: n exactly. -/
theorem ofInt_isU (n : Int) (h1 : -9007199254740992 ≤ n) (h2 : n ≤ 9007199254740992) : IsU (floatOfInt .f64 n) (n * (one1 : Int)) := by
  unfold one1
  have hf : floatOfInt .f64 n = double.nearest (decide (n < 0)) n.natAbs 0 := rfl
  by_cases hx : n.natAbs < 2 ^ 53
  · have := read_nearest (decide (n < 0)) n.natAbs 1074 0 hx (by
      have : n.natAbs.log2 < 53 := by
        by_cases h0 : n.natAbs = 0
        · rw [h0]; decide
        · exact (Nat.log2_lt h0).2 hx
      omega)
    rw [hf]
    simp only [Nat.pow_zero, Nat.mul_one] at this
    have e : (((1074 : Nat) : Int) - 1074 - (0 : Nat)) = 0 := by omega
    rw [e] at this
    generalize 2 ^ 1074 = P at *
    by_cases hn : n < 0
    · rw [show decide (n < 0) = true by simpa using hn] at *
      have e2 : n * (P : Int) = -((n.natAbs * P : Nat) : Int) := by
        rw [Int.natCast_mul, ← Int.neg_mul, show -((n.natAbs : Nat) : Int) = n by omega]
      rw [e2]; simpa using this
    · rw [show decide (n < 0) = false by simpa using hn] at *
      have e2 : n * (P : Int) = ((n.natAbs * P : Nat) : Int) := by
        rw [Int.natCast_mul, show ((n.natAbs : Nat) : Int) = n by omega]
      rw [e2]; simpa using this
  · have habs : n.natAbs = 9007199254740992 := by omega
    have := pow53_isU (decide (n < 0)) 1074 rfl
    rw [hf, habs]
    generalize 2 ^ 1074 = P at *
    by_cases hn : n < 0
    · rw [show decide (n < 0) = true by simpa using hn] at *
      have e2 : n * (P : Int) = -((9007199254740992 * P : Nat) : Int) := by
        rw [Int.natCast_mul, ← Int.neg_mul, show n = -9007199254740992 by omega]; rfl
      rw [e2]; simpa using this
    · rw [show decide (n < 0) = false by simpa using hn] at *
      have e2 : n * (P : Int) = ((9007199254740992 * P : Nat) : Int) := by
        rw [Int.natCast_mul, show n = 9007199254740992 by omega]; rfl
      rw [e2]; simpa using this

theorem order_ofInt (a b : Int) (a1 : -9007199254740992 ≤ a) (a2 : a ≤ 9007199254740992) (b1 : -9007199254740992 ≤ b) (b2 : b ≤ 9007199254740992) :
    FloatKind.f64.format.order (floatOfInt .f64 a) (floatOfInt .f64 b) = some (compare a b) := by
  show double.order _ _ = _
  rw [order_of _ _ _ _ (ofInt_isU a a1 a2) (ofInt_isU b b1 b2)]
  rw [cmp_mul _ _ _ (by have := one1_pos; omega)]

/-! ### To an integer -/

theorem cut_zero_way (neg : Bool) (m d : Nat) : Toward.zero.cut neg m d = m / 2 ^ d := by
  unfold Toward.cut
  simp only [shl, Nat.one_mul, Bool.toNat_false, Nat.add_zero]
  by_cases h : d ≤ m.log2 + 2
  · rw [Nat.min_eq_left h]
  · rw [Nat.min_eq_right (by omega)]
    have h1 : m < 2 ^ (m.log2 + 2) := Nat.lt_of_lt_of_le Nat.lt_log2_self (Nat.pow_le_pow_right (by omega) (by omega))
    have h2 : m < 2 ^ d := Nat.lt_of_lt_of_le h1 (Nat.pow_le_pow_right (by omega) (by omega))
    rw [Nat.div_eq_of_lt h1, Nat.div_eq_of_lt h2]

theorem mag_div (m e c d : Nat) (hd : d = 2 ^ c) : (m <<< ((e : Int) - c).toNat) / 2 ^ (c - e) = m * 2 ^ e / d := by
  subst hd
  rw [shl]
  by_cases h : c ≤ e
  · obtain ⟨k, rfl⟩ : ∃ k, e = c + k := ⟨e - c, by omega⟩
    rw [show (((c + k : Nat) : Int) - c).toNat = k by omega, show c - (c + k) = 0 by omega, Nat.pow_zero, Nat.div_one, Nat.pow_add, Nat.mul_comm (2 ^ c), ← Nat.mul_assoc, Nat.mul_div_cancel _ (Nat.two_pow_pos c)]
  · obtain ⟨k, rfl⟩ : ∃ k, c = e + k := ⟨c - e, by omega⟩
    rw [show ((e : Int) - ((e + k : Nat) : Int)).toNat = 0 by omega, show e + k - e = k by omega, Nat.pow_zero, Nat.mul_one, Nat.pow_add, Nat.mul_comm m, Nat.mul_div_mul_left _ _ (Nat.two_pow_pos e)]

theorem tdiv_natCast (a b : Nat) : ((a : Int)).tdiv (b : Int) = ((a / b : Nat) : Int) := rfl

theorem toInt_of (w : Nat) (u : Int) (h : IsU w u) : (FloatKind.f64.decode w).toInt .zero = some (u.tdiv (one1 : Int)) := by
  obtain ⟨neg, m, e, hr, rfl⟩ := h
  show (double.read w).toInt .zero = _
  rw [hr]
  have hm : (m <<< ((e : Int) - (1074 : Nat)).toNat) / 2 ^ (1074 - e) = m * 2 ^ e / one1 := mag_div m e 1074 one1 (by unfold one1; rfl)
  have e1 : (-((e : Int) - 1074)).toNat = 1074 - e := by omega
  unfold Datum.toInt Datum.integral
  simp only [cut_zero_way, e1]
  have e2 : ((e : Int) - 1074) = (e : Int) - (1074 : Nat) := rfl
  rw [e2, hm]
  show some (signed neg (m * 2 ^ e / one1) 0) = _
  unfold signed
  rw [shl, Nat.pow_zero, Nat.mul_one]
  cases neg
  · simp only [Bool.false_eq_true, if_false]
    rw [tdiv_natCast]
  · simp only [if_true]
    rw [Int.neg_tdiv, tdiv_natCast]

theorem toInt_ofInt (n : Int) (h1 : -9007199254740992 ≤ n) (h2 : n ≤ 9007199254740992) : floatToIntVal .f64 (floatOfInt .f64 n) .i64 = some n := by
  unfold floatToIntVal
  rw [toInt_of _ _ (ofInt_isU n h1 h2), Int.mul_tdiv_cancel _ (by have := one1_pos; omega)]
  have a1 : IntKind.i64.min = -9223372036854775808 := rfl
  have a2 : IntKind.i64.max = 9223372036854775807 := rfl
  exact if_pos ⟨by rw [a1]; omega, by rw [a2]; omega⟩

theorem place_ge (w : Nat) (s : Bool) (m : Nat) (p : Int) (h : double.read w = .number s m p) : -1074 ≤ p := by
  have hl : double.leastPlace = -1074 := rfl
  unfold Format.read at h
  dsimp only at h
  rw [hl] at h
  split at h
  · simp only [Datum.number.injEq] at h; omega
  · split at h
    · simp only [Datum.number.injEq] at h; omega
    · split at h <;> cases h

/-- A word that is no NaN and no infinity has its units. -/
theorem units_or (w : Nat) : (∃ u, IsU w u) ∨ (∃ s, double.read w = .infinity s) ∨ (∃ s f, double.read w = .nan s f) := by
  cases h : double.read w with
  | number s m p =>
    have hp := place_ge w s m p h
    refine Or.inl ⟨_, s, m, (p + 1074).toNat, ?_, rfl⟩
    rw [h]; congr 1; omega
  | infinity s => exact Or.inr (Or.inl ⟨s, rfl⟩)
  | nan s f => exact Or.inr (Or.inr ⟨s, f, rfl⟩)

theorem order_self (w : Nat) (u : Int) (h : IsU w u) : FloatKind.f64.format.order w w = some .eq := by
  show double.order w w = _
  rw [order_of w w u u h h]
  simp [compare, compareOfLessAndEq]

/-- What is less than one number and greater than another has units. -/
theorem units_between (w a b : Nat) (x y : Int) (ha : IsU a x) (hb : IsU b y) (h1 : FloatKind.f64.format.order w a = some .gt) (h2 : FloatKind.f64.format.order w b = some .lt) :
    ∃ u, IsU w u ∧ x < u ∧ u < y := by
  have h1' : double.order w a = some .gt := h1
  have h2' : double.order w b = some .lt := h2
  rcases units_or w with ⟨u, hu⟩ | ⟨s, hs⟩ | ⟨s, f, hs⟩
  · rw [order_of w a u x hu ha] at h1'
    rw [order_of w b u y hu hb] at h2'
    refine ⟨u, hu, ?_, ?_⟩
    · simp only [Option.some.injEq, compare, compareOfLessAndEq] at h1'
      split at h1'
      · cases h1'
      · split at h1'
        · cases h1'
        · omega
    · simp only [Option.some.injEq, compare, compareOfLessAndEq] at h2'
      split at h2'
      · assumption
      · split at h2' <;> cases h2'
  · exfalso
    obtain ⟨_, _, _, ra, _⟩ := ha
    obtain ⟨_, _, _, rb, _⟩ := hb
    unfold Format.order at h1' h2'
    rw [hs, ra] at h1'
    rw [hs, rb] at h2'
    cases s <;> simp [Datum.order] at h1' h2'
  · exfalso
    unfold Format.order at h1'
    rw [hs] at h1'
    cases hr : double.read a <;> rw [hr] at h1' <;> simp [Datum.order] at h1'

/-- 'isInteger(v) && 0 < v && v < n': then int(v) is a number from 1 on, below n. -/
theorem key_int (w : Nat) (n : Int) (hn1 : 0 < n) (hn : n ≤ 9007199254740992) (h1 : FloatKind.f64.format.order w (floatOfInt .f64 0) = some .gt) (h2 : FloatKind.f64.format.order w (floatOfInt .f64 n) = some .lt) :
    ∃ k : Int, floatToIntVal .f64 w .i64 = some k ∧ 0 ≤ k ∧ k < n ∧ (FloatKind.f64.format.order w (floatOfInt .f64 k) = some .eq → 1 ≤ k) := by
  obtain ⟨u, hu, hx, hy⟩ := units_between w _ _ _ _ (ofInt_isU 0 (by omega) (by omega)) (ofInt_isU n (by omega) hn) h1 h2
  have hp : (0 : Int) < (one1 : Int) := by have := one1_pos; omega
  rw [Int.zero_mul] at hx
  have k0 : 0 ≤ u.tdiv (one1 : Int) := Int.tdiv_nonneg (by omega) (by omega)
  have kn : u.tdiv (one1 : Int) < n := by
    rw [Int.tdiv_eq_ediv_of_nonneg (by omega)]
    exact Int.ediv_lt_of_lt_mul hp hy
  refine ⟨u.tdiv (one1 : Int), ?_, k0, kn, fun h => ?_⟩
  · unfold floatToIntVal
    rw [toInt_of _ _ hu]
    have a1 : IntKind.i64.min = -9223372036854775808 := rfl
    have a2 : IntKind.i64.max = 9223372036854775807 := rfl
    exact if_pos ⟨by rw [a1]; omega, by rw [a2]; omega⟩
  · by_cases h0 : u.tdiv (one1 : Int) = 0
    · rw [h0, h1] at h; cases h
    · omega

/-- A float64 of an integer is no NaN. -/
theorem ofInt_self (n : Int) : FloatKind.f64.format.order (floatOfInt .f64 n) (floatOfInt .f64 n) = some .eq := by
  show double.order _ _ = _
  have hf : floatOfInt .f64 n = double.nearest (decide (n < 0)) n.natAbs 0 := rfl
  rw [hf]
  generalize decide (n < 0) = neg
  have hw : ∃ r, r ≤ double.infRung ∧ double.nearest neg n.natAbs 0 = double.word neg r := by
    unfold Format.nearest
    dsimp only
    split
    · exact ⟨0, Nat.zero_le _, rfl⟩
    · exact ⟨_, Nat.min_le_right _ _, rfl⟩
  obtain ⟨r, hr, he⟩ := hw
  rw [he]
  by_cases hlt : r < double.infRung
  · have h := read_word neg r hlt
    unfold Format.order
    rw [h]
    split
    · show some (compare _ _) = _
      simp [compare, compareOfLessAndEq]
    · show some (compare _ _) = _
      simp [compare, compareOfLessAndEq]
  · have hre : r = double.infRung := by omega
    have h : double.read (double.word neg r) = .infinity neg := by
      rw [hre]; cases neg <;> decide
    unfold Format.order
    rw [h]
    cases neg <;> rfl

end Go.FPlain
