/-
  rightShift's plain facts: the measure of its last loop, digits and remainders; no program in sight.
-/
import Derived.Test.YtjaibjdhfljmmaaDoorDmLeft
import Derived.Test.YtjaibjdhfljmmaaDoorDmNum
import Derived.Laws.BitsLemmas
namespace Go.Proofs.YtjaibjdhfljmmaaDoor

/-- How many halvings by 2, at most k, n does not bear. -/
def mu : Nat → Nat → Nat
  | 0, _ => 0
  | k + 1, n => if n % 2 = 0 then mu k (n / 2) else k + 1

theorem mu_mod (k : Nat) : ∀ n, mu k (n % 2 ^ k) = mu k n := by
  induction k with
  | zero => intro n; rfl
  | succ k ih =>
    intro n
    have e1 : n % 2 ^ (k + 1) % 2 = n % 2 := by
      rw [Nat.pow_succ, Nat.mul_comm]
      exact Nat.mod_mul_right_mod n 2 (2 ^ k)
    have e2 : n % 2 ^ (k + 1) / 2 = n / 2 % 2 ^ k := by
      rw [Nat.pow_succ, Nat.mul_comm]
      exact Nat.mod_mul_right_div_self n 2 (2 ^ k)
    simp only [mu, e1, e2, ih]

theorem mu_five (k : Nat) : ∀ n, mu k (n * 5) = mu k n := by
  induction k with
  | zero => intro n; rfl
  | succ k ih =>
    intro n
    have e1 : n * 5 % 2 = n % 2 := by omega
    simp only [mu, e1]
    by_cases h : n % 2 = 0
    · rw [if_pos h, if_pos h, show n * 5 / 2 = n / 2 * 5 by omega, ih]
    · rw [if_neg h, if_neg h]

theorem mu_less (k : Nat) : ∀ n, 0 < n → n < 2 ^ (k + 1) → mu k n < mu (k + 1) n := by
  induction k with
  | zero =>
    intro n h0 h1
    have : n = 1 := by omega
    subst this
    decide
  | succ k ih =>
    intro n h0 h1
    rw [mu, mu]
    by_cases h : n % 2 = 0
    · rw [if_pos h, if_pos h]
      exact ih (n / 2) (by omega) (by rw [Nat.pow_succ] at h1; omega)
    · rw [if_neg h, if_neg h]
      omega

theorem mu_step {k n : Nat} (hk : 0 < k) (h : n % 2 ^ k ≠ 0) : mu k (n % 2 ^ k * 10) < mu k n := by
  obtain ⟨j, rfl⟩ : ∃ j, k = j + 1 := ⟨k - 1, by omega⟩
  rw [← mu_mod (j + 1) n]
  obtain ⟨r, hr⟩ : ∃ r, r = n % 2 ^ (j + 1) := ⟨_, rfl⟩
  rw [← hr] at h ⊢
  have hlt : r < 2 ^ (j + 1) := by rw [hr]; exact Nat.mod_lt _ (Nat.pow_pos (by omega))
  rw [show r * 10 = r * 2 * 5 by omega, mu_five]
  have e : mu (j + 1) (r * 2) = mu j r := by
    rw [mu, if_pos (by omega), show r * 2 / 2 = r by omega]
  rw [e]
  exact mu_less j r (by omega) hlt

/-- The last loop's measure. -/
def muz (k n : Nat) : Nat := if n = 0 then 0 else 1 + mu k n

theorem muz_step {k n : Nat} (hk : 0 < k) (hn : 0 < n) : muz k (n % 2 ^ k * 10) < muz k n := by
  unfold muz
  rw [if_neg (show ¬ n = 0 by omega)]
  by_cases h : n % 2 ^ k = 0
  · rw [h]
    simp only [Nat.zero_mul, if_true]
    omega
  · rw [if_neg (by omega)]
    have := mu_step hk h
    omega

/-- The digit and the remainder, as the machine has them. -/
theorem shr_parts (n k : Nat) (hk : k < 61) (hn : n < 10 * 2 ^ k) :
    ∃ q r : Nat, q = n / 2 ^ k ∧ r = n % 2 ^ k ∧ q ≤ 9 ∧ r < 2 ^ k ∧ r < 1152921504606846977 ∧ n < 18446744073709551616 ∧ (n : Int) / 2 ^ k = (q : Int) ∧ bits .and .u64 (n : Int) (2 ^ k - 1) = (r : Int) := by
  have hp : 0 < 2 ^ k := Nat.pow_pos (by omega)
  have h60 : 2 ^ k ≤ 2 ^ 60 := Nat.pow_le_pow_right (by omega) (by omega)
  have hr : n % 2 ^ k < 2 ^ k := Nat.mod_lt _ hp
  have hq : n / 2 ^ k < 10 := Nat.div_lt_of_lt_mul (by rw [Nat.mul_comm]; exact hn)
  have hb : n < 18446744073709551616 := by omega
  refine ⟨n / 2 ^ k, n % 2 ^ k, rfl, rfl, by omega, hr, by omega, hb, ?_, ?_⟩
  · rw [Int.natCast_ediv, Int.natCast_pow]
    rfl
  · rw [bits_mask .u64 64 (by decide) (fun n h0 h1 => by rw [IntKind.wrap_u64]; omega) k (by omega) (n : Int) (by omega) (by omega), Int.natCast_emod, Int.natCast_pow]
    rfl
end Go.Proofs.YtjaibjdhfljmmaaDoor
