/-
  leftShift's numbers as the machine reckons them.
-/
import Derived.Test.YtjaibjdhfljmmaaDoorReadLoop
import Derived.Test.YtjaibjdhfljmmaaDoorDmLeft
namespace Go.Proofs.YtjaibjdhfljmmaaDoor

theorem wrap_of (x : Int) (h0 : 0 ≤ x) (h1 : x < 18446744073709551616) : IntKind.u64.wrap x = x := by
  rw [IntKind.wrap_u64]
  omega

/-- A digit shifted, and the carry. -/
theorem shl_num (n k : Nat) (v : Int) (h1 : 48 ≤ v) (h2 : v ≤ 57) (hk : k < 61) (hn : n < 2 ^ k) :
    IntKind.u64.wrap ((n : Int) + IntKind.u64.wrap (IntKind.u64.wrap (IntKind.u64.wrap v - 48) * 2 ^ k)) = (((v - 48).toNat * 2 ^ k + n : Nat) : Int) ∧ (v - 48).toNat * 2 ^ k + n < 18446744073709551616 := by
  have hp : 2 ^ k ≤ 2 ^ 60 := Nat.pow_le_pow_right (by omega) (by omega)
  have h9 : (v - 48).toNat * 2 ^ k ≤ 9 * 2 ^ k := Nat.mul_le_mul_right _ (by omega)
  have hb : (v - 48).toNat * 2 ^ k + n < 18446744073709551616 := by omega
  refine ⟨?_, hb⟩
  rw [wrap_of v (by omega) (by omega), wrap_of (v - 48) (by omega) (by omega)]
  have e : (v - 48) * 2 ^ k = (((v - 48).toNat * 2 ^ k : Nat) : Int) := by
    rw [Int.natCast_mul, Int.natCast_pow, Int.toNat_of_nonneg (by omega)]
    rfl
  rw [e]
  obtain ⟨y, hy⟩ : ∃ y, y = (v - 48).toNat * 2 ^ k := ⟨_, rfl⟩
  rw [← hy] at hb ⊢
  rw [wrap_of (y : Int) (by omega) (by omega), wrap_of ((n : Int) + y) (by omega) (by omega)]
  omega
end Go.Proofs.YtjaibjdhfljmmaaDoor
