/-
  The decimal's plain arithmetic: digits as a number, prefix against cutoff, how many digits a shift adds; no program in sight.
  leftShift's plain law: the carry, and the digits it writes; no program in sight.
-/
namespace Go.Proofs.YtjaibjdhfljmmaaDoor

/-- The first n digits of d as a number. -/
def dnum (d : Nat → Int) : Nat → Nat
  | 0 => 0
  | n + 1 => dnum d n * 10 + (d n - 48).toNat

def Dig (d : Nat → Int) (n : Nat) : Prop := ∀ i, i < n → 48 ≤ d i ∧ d i ≤ 57

theorem dnum_lt {d : Nat → Int} : ∀ {n : Nat}, Dig d n → dnum d n < 10 ^ n
  | 0, _ => by simp [dnum]
  | n + 1, h => by
    have ih := dnum_lt (n := n) (fun i hi => h i (by omega))
    have hn := h n (by omega)
    rw [dnum, Nat.pow_succ]
    omega

theorem dnum_ge {d : Nat → Int} (h0 : 49 ≤ d 0) : ∀ {n : Nat}, 10 ^ n ≤ dnum d (n + 1)
  | 0 => by simp [dnum]; omega
  | n + 1 => by
    have ih := dnum_ge h0 (n := n)
    rw [dnum, Nat.pow_succ]
    omega

/-- The digits behind the first i. -/
theorem dnum_split {d : Nat → Int} (i : Nat) : ∀ {m : Nat}, Dig d (i + m) → ∃ r, dnum d (i + m) = dnum d i * 10 ^ m + r ∧ r < 10 ^ m
  | 0, _ => ⟨0, by simp, by simp⟩
  | m + 1, h => by
    obtain ⟨r, hr, hlt⟩ := dnum_split i (m := m) (fun j hj => h j (by omega))
    have hn := h (i + m) (by omega)
    refine ⟨r * 10 + (d (i + m) - 48).toNat, ?_, ?_⟩
    · rw [show i + (m + 1) = (i + m) + 1 from rfl, dnum, hr, Nat.pow_succ, ← Nat.mul_assoc]
      omega
    · rw [Nat.pow_succ]; omega

theorem dnum_congr {d c : Nat → Int} : ∀ {n : Nat}, (∀ j, j < n → d j = c j) → dnum d n = dnum c n
  | 0, _ => rfl
  | n + 1, h => by
    rw [dnum, dnum, dnum_congr (n := n) (fun j hj => h j (by omega)), h n (by omega)]

/-- A digit less at the first place that parts: less, however the rest. -/
theorem part_lt {d c : Nat → Int} (i n m : Nat) (hn : i < n) (hm : i < m) (hd : Dig d n) (hc : Dig c m) (he : dnum d i = dnum c i) (hl : d i < c i) :
    dnum d n * 10 ^ m < dnum c m * 10 ^ n := by
  obtain ⟨p, rfl⟩ : ∃ p, n = i + 1 + p := ⟨n - (i + 1), by omega⟩
  obtain ⟨q, rfl⟩ : ∃ q, m = i + 1 + q := ⟨m - (i + 1), by omega⟩
  obtain ⟨r, hr, hr1⟩ := dnum_split (d := d) (i + 1) (m := p) hd
  obtain ⟨s, hs, _⟩ := dnum_split (d := c) (i + 1) (m := q) hc
  have h1 : dnum d (i + 1) + 1 ≤ dnum c (i + 1) := by
    rw [dnum, dnum, he]
    have a := hd i (by omega)
    have b := hc i (by omega)
    omega
  have h2 : dnum d (i + 1 + p) < (dnum d (i + 1) + 1) * 10 ^ p := by rw [hr, Nat.add_mul]; omega
  have h3 : dnum c (i + 1) * 10 ^ q ≤ dnum c (i + 1 + q) := by rw [hs]; omega
  calc dnum d (i + 1 + p) * 10 ^ (i + 1 + q)
      < (dnum d (i + 1) + 1) * 10 ^ p * 10 ^ (i + 1 + q) := Nat.mul_lt_mul_of_pos_right h2 (Nat.pow_pos (by omega))
    _ = (dnum d (i + 1) + 1) * 10 ^ q * 10 ^ (i + 1 + p) := by
        rw [Nat.pow_add 10 (i + 1) q, Nat.pow_add 10 (i + 1) p]
        simp only [Nat.mul_assoc, Nat.mul_comm, Nat.mul_left_comm]
    _ ≤ dnum c (i + 1) * 10 ^ q * 10 ^ (i + 1 + p) := Nat.mul_le_mul_right _ (Nat.mul_le_mul_right _ h1)
    _ ≤ dnum c (i + 1 + q) * 10 ^ (i + 1 + p) := Nat.mul_le_mul_right _ h3

/-- The shorter one, where the longer one goes on. -/
theorem part_short {d c : Nat → Int} (n m : Nat) (hm : n < m) (hc : Dig c m) (he : dnum d n = dnum c n) (hl : dnum c m % 10 ≠ 0) :
    dnum d n * 10 ^ m < dnum c m * 10 ^ n := by
  obtain ⟨q, rfl⟩ : ∃ q, m = n + (q + 1) := ⟨m - n - 1, by omega⟩
  obtain ⟨s, hs, _⟩ := dnum_split (d := c) n (m := q + 1) hc
  have h0 : 0 < s := by
    rcases Nat.eq_zero_or_pos s with h | h
    · rw [hs, h, Nat.pow_succ, ← Nat.mul_assoc] at hl
      omega
    · exact h
  rw [hs, he, Nat.add_mul, Nat.mul_assoc, ← Nat.pow_add, Nat.add_comm n (q + 1)]
  have : 0 < s * 10 ^ n := Nat.mul_pos h0 (Nat.pow_pos (by omega))
  omega

theorem part_long {d c : Nat → Int} (n m : Nat) (hm : m ≤ n) (hd : Dig d n) (he : dnum d m = dnum c m) : dnum c m * 10 ^ n ≤ dnum d n * 10 ^ m := by
  obtain ⟨q, rfl⟩ : ∃ q, n = m + q := ⟨n - m, by omega⟩
  obtain ⟨s, hs, _⟩ := dnum_split (d := d) m (m := q) hd
  rw [hs, he, Nat.add_mul, Nat.mul_assoc, ← Nat.pow_add, Nat.add_comm q m]
  omega

/-- How many digits a shift by k adds: c is 5^k in L digits. -/
theorem shift_adds {N k nd L S e : Nat} (hS : S = 5 ^ k) (hL1 : 10 ^ L ≤ S * 10) (hL2 : S < 10 ^ L) (he : e + L = k + 1) (hN1 : 10 ^ nd ≤ N * 10) (hN2 : N < 10 ^ nd) :
    (N * 10 ^ L < S * 10 ^ nd → 0 < e → N * 2 ^ k < 10 ^ (nd + (e - 1)) ∧ 10 ^ (nd + (e - 1)) ≤ N * 2 ^ k * 10) ∧
    (S * 10 ^ nd ≤ N * 10 ^ L → N * 2 ^ k < 10 ^ (nd + e) ∧ 10 ^ (nd + e) ≤ N * 2 ^ k * 10) := by
  have hS2 : S * 2 ^ k = 10 ^ k := by rw [hS, ← Nat.mul_pow]
  have pL : 0 < 10 ^ L := Nat.pow_pos (by omega)
  have p2 : 0 < 2 ^ k := Nat.pow_pos (by omega)
  have pn : 0 < 10 ^ nd := Nat.pow_pos (by omega)
  refine ⟨fun h he1 => ⟨?_, ?_⟩, fun h => ⟨?_, ?_⟩⟩
  · have h1 : N * 10 ^ L * 2 ^ k < S * 10 ^ nd * 2 ^ k := Nat.mul_lt_mul_of_pos_right h p2
    have e1 : S * 10 ^ nd * 2 ^ k = 10 ^ (nd + (e - 1)) * 10 ^ L := by
      rw [Nat.mul_right_comm, hS2, ← Nat.pow_add, ← Nat.pow_add]
      congr 1
      omega
    rw [e1, Nat.mul_right_comm] at h1
    exact Nat.lt_of_mul_lt_mul_right h1
  · have h1 : 10 ^ (e - 1) ≤ 2 ^ k := by
      have h2 : S * 2 ^ k < 10 ^ L * 2 ^ k := Nat.mul_lt_mul_of_pos_right hL2 p2
      have e2 : 10 ^ k = 10 ^ (e - 1) * 10 ^ L := by
        rw [← Nat.pow_add]
        congr 1
        omega
      rw [hS2, e2, Nat.mul_comm (10 ^ L)] at h2
      exact Nat.le_of_lt (Nat.lt_of_mul_lt_mul_right h2)
    rw [Nat.pow_add, Nat.mul_right_comm]
    exact Nat.mul_le_mul hN1 h1
  · have h1 : 2 ^ k ≤ 10 ^ e := by
      have h2 : 10 ^ L * 2 ^ k ≤ S * 10 * 2 ^ k := Nat.mul_le_mul_right _ hL1
      have e2 : S * 10 * 2 ^ k = 10 ^ e * 10 ^ L := by
        rw [Nat.mul_right_comm, hS2, ← Nat.pow_succ, ← Nat.pow_add, he]
      rw [e2, Nat.mul_comm (10 ^ L)] at h2
      exact Nat.le_of_mul_le_mul_right h2 pL
    rw [Nat.pow_add]
    exact Nat.lt_of_lt_of_le (Nat.mul_lt_mul_of_pos_right hN2 p2) (Nat.mul_le_mul_left _ h1)
  · have h1 : S * 10 ^ nd * 2 ^ k * 10 ≤ N * 10 ^ L * 2 ^ k * 10 := Nat.mul_le_mul_right _ (Nat.mul_le_mul_right _ h)
    have e1 : S * 10 ^ nd * 2 ^ k * 10 = 10 ^ (nd + e) * 10 ^ L := by
      rw [Nat.mul_right_comm S, hS2, ← Nat.pow_add, ← Nat.pow_succ, ← Nat.pow_add]
      congr 1
      omega
    have e2 : N * 10 ^ L * 2 ^ k * 10 = N * 2 ^ k * 10 * 10 ^ L := by
      rw [Nat.mul_right_comm N, Nat.mul_right_comm (N * 2 ^ k)]
    rw [e1, e2] at h1
    exact Nat.le_of_mul_le_mul_right h1 pL
end Go.Proofs.YtjaibjdhfljmmaaDoor

namespace Go.Proofs.YtjaibjdhfljmmaaDoor

/-- Loop 1: r digits are still to be read, the carry is n. -/
def LInv (d : Nat → Int) (nd k r n : Nat) : Prop := n < 2 ^ k ∧ dnum d r * 2 ^ k + n = dnum d nd * 2 ^ k / 10 ^ (nd - r)

theorem LInv.start (d : Nat → Int) (nd k : Nat) : LInv d nd k nd 0 := ⟨Nat.pow_pos (by omega), by simp⟩

/-- What loop 1 reckons in a round. -/
theorem LInv.step {d : Nat → Int} {nd k r n : Nat} (h : LInv d nd k (r + 1) n) (hr : r + 1 ≤ nd) (hd : 48 ≤ d r ∧ d r ≤ 57) :
    LInv d nd k r (((d r - 48).toNat * 2 ^ k + n) / 10) ∧ ((d r - 48).toNat * 2 ^ k + n) % 10 = dnum d nd * 2 ^ k / 10 ^ (nd - (r + 1)) % 10 := by
  obtain ⟨h1, h2⟩ := h
  have e : dnum d (r + 1) * 2 ^ k + n = dnum d r * 2 ^ k * 10 + ((d r - 48).toNat * 2 ^ k + n) := by
    rw [dnum, Nat.add_mul, Nat.mul_right_comm]
    omega
  have h9 : (d r - 48).toNat * 2 ^ k ≤ 9 * 2 ^ k := Nat.mul_le_mul_right _ (by omega)
  refine ⟨⟨by omega, ?_⟩, ?_⟩
  · have e2 : nd - r = (nd - (r + 1)) + 1 := by omega
    rw [e2, Nat.pow_succ, ← Nat.div_div_eq_div_mul, ← h2, e]
    omega
  · rw [← h2, e]
    omega

theorem LInv.done {d : Nat → Int} {nd k n : Nat} (h : LInv d nd k 0 n) : n = dnum d nd * 2 ^ k / 10 ^ nd := by
  have := h.2
  simpa [dnum] using this

/-- Loop 2: m digits are still to be written. -/
theorem rest_pos {T a m n : Nat} (hn : n = T / 10 ^ (a - m)) (hT : T < 10 ^ a) (h : 0 < n) : 0 < m := by
  rcases Nat.eq_zero_or_pos m with rfl | hm
  · rw [Nat.sub_zero, Nat.div_eq_of_lt hT] at hn
    omega
  · exact hm

theorem rest_step {T a m n : Nat} (hn : n = T / 10 ^ (a - (m + 1))) (hm : m + 1 ≤ a) : n / 10 = T / 10 ^ (a - m) := by
  have e2 : a - m = (a - (m + 1)) + 1 := by omega
  rw [hn, e2, Nat.pow_succ, Nat.div_div_eq_div_mul]

theorem rest_done {T a m : Nat} (hn : 0 = T / 10 ^ (a - m)) (hT : 10 ^ a ≤ T * 10) (hm : m ≤ a) : m = 0 := by
  rcases Nat.eq_zero_or_pos m with rfl | h
  · rfl
  · have hlt : T < 10 ^ (a - m) := by
      rcases Nat.lt_or_ge T (10 ^ (a - m)) with h' | h'
      · exact h'
      · have := Nat.div_pos h' (Nat.pow_pos (by omega))
        omega
    have e : 10 ^ a = 10 ^ (a - m) * 10 ^ m := by rw [← Nat.pow_add]; congr 1; omega
    have h10 : 10 ≤ 10 ^ m := by
      have := Nat.pow_le_pow_right (show 0 < 10 by omega) h
      simpa using this
    have : 10 ^ (a - m) * 10 ≤ 10 ^ (a - m) * 10 ^ m := Nat.mul_le_mul_left _ h10
    omega

/-- The digits that are written: from m up to a (or the room's end). -/
def Wrote (T a m : Nat) (d : Nat → Int) : Prop := ∀ j, m ≤ j → j < a → j < 800 → d j = 48 + ((T / 10 ^ (a - 1 - j) % 10 : Nat) : Int)

theorem Wrote.none (T a : Nat) (d : Nat → Int) : Wrote T a a d := fun j h1 h2 => absurd h2 (by omega)

theorem Wrote.put {T a m : Nat} {d : Nat → Int} (h : Wrote T a (m + 1) d) : Wrote T a m (fun j => if j = m then 48 + ((T / 10 ^ (a - 1 - m) % 10 : Nat) : Int) else d j) := by
  intro j h1 h2 h3
  by_cases e : j = m
  · subst e
    simp
  · simp only [if_neg e]
    exact h j (by omega) h2 h3

theorem Wrote.past {T a m : Nat} {d : Nat → Int} (hm : 800 ≤ m) : Wrote T a m d := fun j h1 _ h3 => absurd h3 (by omega)

theorem Wrote.dig {T a : Nat} {d : Nat → Int} (h : Wrote T a 0 d) (n : Nat) (hn : n ≤ a) (hn' : n ≤ 800) : Dig d n := by
  intro j hj
  rw [h j (by omega) (by omega) (by omega)]
  omega

theorem Wrote.lead {T a : Nat} {d : Nat → Int} (h : Wrote T a 0 d) (ha : 0 < a) (h1 : 10 ^ a ≤ T * 10) (h2 : T < 10 ^ a) : 49 ≤ d 0 := by
  rw [h 0 (by omega) ha (by omega)]
  obtain ⟨b, rfl⟩ : ∃ b, a = b + 1 := ⟨a - 1, by omega⟩
  have e : b + 1 - 1 - 0 = b := by omega
  rw [e]
  rw [Nat.pow_succ] at h1 h2
  have p : 0 < 10 ^ b := Nat.pow_pos (by omega)
  have q1 : 0 < T / 10 ^ b := Nat.div_pos (by omega) p
  have q2 : T / 10 ^ b < 10 := Nat.div_lt_of_lt_mul h2
  rw [Nat.mod_eq_of_lt q2]
  omega
end Go.Proofs.YtjaibjdhfljmmaaDoor
