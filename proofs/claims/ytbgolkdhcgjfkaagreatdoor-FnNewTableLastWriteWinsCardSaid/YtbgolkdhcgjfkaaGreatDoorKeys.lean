/-
  isNilValue, isInteger, isArrayKey: which floats are keys of the array part.
-/
import Derived.Test.YtbgolkdhcgjfkaaGreatDoorMaps
namespace Go.Proofs.YtbgolkdhcgjfkaaGreatDoor
open Go.RowKit
set_option maxRecDepth 100000
set_option maxHeartbeats 400000

theorem method_nil (w : World) : (method 354 60 (.int .u8 0) "Type").run Tryz.prog w = .ok (130, .int .u8 0) w := by kernel_rfl
theorem method_num (b : Nat) (w : World) : (method 354 55 (.float .f64 b) "Type").run Tryz.prog w = .ok (128, .float .f64 b) w := by kernel_rfl

theorem isnil_nil (w : World) : Calls Tryz.prog 24 #[LNIL] w fun e w' => e = .returned (.bool true) ∧ w = w' := by
  have hm := method_nil
  go_enter Tryz.func24, Tryz.ntmps24
  go_wp2
  go_ret
  exact ⟨rfl, rfl⟩
theorem isnil_num (b : Nat) (w : World) : Calls Tryz.prog 24 #[NUM b] w fun e w' => e = .returned (.bool false) ∧ w = w' := by
  have hm := method_num
  go_enter Tryz.func24, Tryz.ntmps24
  go_wp2
  go_ret
  exact ⟨rfl, rfl⟩

/-- Nothing in memory turned (the tape may have been read on). -/
structure SameW (w w' : World) : Prop where
  heap : w'.heap = w.heap
  os : w'.os = w.os
  tape : w'.tape = w.tape
  output : w'.output = w.output
theorem SameW.refl (w : World) : SameW w w := ⟨rfl, rfl, rfl, rfl⟩
theorem SameW.trans {a b c : World} (h : SameW a b) (k : SameW b c) : SameW a c := ⟨k.heap.trans h.heap, k.os.trans h.os, k.tape.trans h.tape, k.output.trans h.output⟩
theorem SameW.keeps {S : Nat → Prop} {a b : World} (h : SameW a b) : Keeps S a b := ⟨h.os, h.tape, h.output, by rw [h.heap]; exact Nat.le_refl _, fun k _ _ => by rw [h.heap]⟩

theorem conv_any (b : Nat) (w : World) : ∃ n w', (convert 55 2 (.float .f64 b)).run Tryz.prog w = .ok (.int .i64 n) w' ∧ SameW w w' ∧ ∀ k, floatToIntVal .f64 b .i64 = some k → n = k ∧ w' = w := by
  cases h : floatToIntVal .f64 b .i64 with
  | some k => exact ⟨k, w, run_convert_float_int (P := Tryz.prog) w 55 2 .f64 .i64 b k (by rw [Tryz.underlying55]; rfl) Tryz.underlying2 h, SameW.refl _, fun j hj => by cases hj; exact ⟨rfl, rfl⟩⟩
  | none =>
    have hf : (Question.floatToInt .f64 b .i64).forced = false := rfl
    refine ⟨IntKind.i64.wrap ((Question.floatToInt .f64 b .i64).cut (w.tape w.drawn (.floatToInt .f64 b .i64))), w.drew, ?_, ⟨rfl, rfl, rfl, rfl⟩, fun j hj => by cases hj⟩
    unfold floatToIntVal at h
    split at h
    · rename_i m he
      split at h
      · cases h
      · rename_i hb
        simp only [convert, run_underlying Tryz.underlying55, run_underlying Tryz.underlying2, Sem.run_bind, Result.andThen_ok, Conv.floatToInt, he, hb, if_false, run_choose_drew, hf]
        rfl
    · rename_i he
      simp only [convert, run_underlying Tryz.underlying55, run_underlying Tryz.underlying2, Sem.run_bind, Result.andThen_ok, Conv.floatToInt, he, run_choose_drew, hf]
      rfl

theorem isint_any (b : Nat) (n : Int) (w w1 : World) (hc : (convert 55 2 (.float .f64 b)).run Tryz.prog w = .ok (.int .i64 n) w1) :
    Calls Tryz.prog 39 #[.float .f64 b] w fun e w' => e = .returned (.bool (FloatKind.f64.format.order b (floatOfInt .f64 n) == some .eq)) ∧ w1 = w' := by
  go_enter Tryz.func39, Tryz.ntmps39
  go_wp2
  go_ret
  exact ⟨rfl, rfl⟩

theorem c26 : (4724276009111650304 : Nat) = floatOfInt .f64 67108864 := by kernel_rfl
theorem c0 : (0 : Nat) = floatOfInt .f64 0 := by kernel_rfl
theorem c63 : (4890909195324358656 : Nat) = floatOfInt .f64 9223372036854775808 := by kernel_rfl

/-- A float that passes all four tests is a whole number from 1 to 67108863. -/
theorem key_yes (b : Nat) (n : Int) (hk : ∀ k, floatToIntVal .f64 b .i64 = some k → n = k) (h1 : FloatKind.f64.format.order b (floatOfInt .f64 n) = some .eq) (h2 : FloatKind.f64.format.order b 0 = some .gt)
    (h3 : FloatKind.f64.format.order b 4724276009111650304 = some .lt) : ∃ k, 1 ≤ k ∧ k < 67108864 ∧ floatToIntVal .f64 b .i64 = some k := by
  have h2' : FloatKind.f64.format.order b (floatOfInt .f64 0) = some .gt := by rw [← c0]; exact h2
  rw [c26] at h3
  obtain ⟨k, hk1, hk2, hk3, hk4⟩ := FPlain.key_int b 67108864 (by omega) (by omega) h2' h3
  exact ⟨k, hk4 (by rw [← hk k hk1]; exact h1), hk3, hk1⟩

theorem iskey_any (b : Nat) (w : World) :
    Calls Tryz.prog 37 #[.float .f64 b] w fun e w' => ∃ r, e = .returned (.bool r) ∧ (r = true → ∃ k, 1 ≤ k ∧ k < 67108864 ∧ floatToIntVal .f64 b .i64 = some k) ∧ SameW w w' := by
  obtain ⟨n, w1, hc, hs, hk⟩ := conv_any b w
  have HI := Lib.hid (isint_any b n w w1 hc)
  have hk' := Lib.hid hk
  clear hk hc
  go_enter Tryz.func37, Tryz.ntmps37
  go_wp2_with fail
  refine HI.out.mono ?_
  rintro e w' ⟨rfl, rfl⟩
  go_wp2_with fail
  · rename_i h1 h2 h3
    go_ret
    refine ⟨_, rfl, fun hr => key_yes b n (fun k h => (hk'.out k h).1) h1 h3 (by simpa using hr), hs⟩
  all_goals
    go_ret
    exact ⟨false, by simp_all, fun h => (by cases h), hs⟩

theorem cmp_lt (a b : Int) : (some (compare a b) == some Ordering.lt) = decide (a < b) := by
  by_cases h : a < b
  · rw [Int.compare_eq_lt.2 h]; simp [h]
  · have : compare a b ≠ .lt := fun e => h (Int.compare_eq_lt.1 e)
    simp [h, this]

theorem pow63 (c P : Nat) (hc : c = 1074) (hP : P = 2 ^ c) : FPlain.IsU (Ieee.double.nearest false 9223372036854775808 0) (9223372036854775808 * (P : Int)) := by
  have h := FPlain.read_nearest false 1 (63 + c) 63 (by decide) (by rw [show Nat.log2 1 = 0 by decide]; omega)
  rw [Nat.one_mul, Nat.one_mul, Nat.pow_add, show ((63 + c : Nat) : Int) - 1074 - (63 : Nat) = 0 by omega, ← hP] at h
  have e : (9223372036854775808 * (P : Int)) = ((2 ^ 63 * P : Nat) : Int) := by rw [Int.natCast_mul]; rfl
  rw [e]
  exact h

theorem pow63_isU : FPlain.IsU (floatOfInt .f64 9223372036854775808) (9223372036854775808 * (FPlain.one1 : Int)) :=
  pow63 1074 FPlain.one1 rfl (by unfold FPlain.one1; rfl)

theorem iskey_int (z : Int) (hz1 : -9007199254740992 ≤ z) (hz2 : z ≤ 9007199254740992) (w : World) :
    Calls Tryz.prog 37 #[.float .f64 (floatOfInt .f64 z)] w fun e w' => e = .returned (.bool (decide (1 ≤ z ∧ z < 67108864))) ∧ w = w' := by
  obtain ⟨n, w1, hc, hs, hk⟩ := conv_any (floatOfInt .f64 z) w
  obtain ⟨rfl, rfl⟩ := hk z (FPlain.toInt_ofInt z hz1 hz2)
  have HI := Lib.hid (isint_any _ n w1 w1 hc)
  have h1 : FloatKind.f64.format.order (floatOfInt .f64 n) (floatOfInt .f64 n) = some .eq := FPlain.ofInt_self n
  have h2 : FloatKind.f64.format.order (floatOfInt .f64 n) 4890909195324358656 = some .lt := by
    have hp := FPlain.one1_pos
    rw [c63]
    have e := FPlain.order_of _ _ _ _ (FPlain.ofInt_isU n hz1 hz2) pow63_isU
    rw [FPlain.cmp_mul _ _ _ (by omega)] at e
    have : compare n 9223372036854775808 = .lt := Int.compare_eq_lt.2 (by omega)
    rw [this] at e
    exact e
  have h3 : FloatKind.f64.format.order (floatOfInt .f64 n) 0 = some (compare n 0) := by
    conv => lhs; rw [c0]
    exact FPlain.order_ofInt n 0 hz1 hz2 (by omega) (by omega)
  have h4 : FloatKind.f64.format.order (floatOfInt .f64 n) 4724276009111650304 = some (compare n 67108864) := by
    rw [c26]
    exact FPlain.order_ofInt n 67108864 hz1 hz2 (by omega) (by omega)
  clear hk hc hs
  generalize floatOfInt .f64 n = b at *
  go_enter Tryz.func37, Tryz.ntmps37
  go_wp2_with fail
  refine HI.out.mono ?_
  rintro e w' ⟨rfl, rfl⟩
  by_cases hp : 0 < n
  · have hp' : compare n 0 = .gt := Int.compare_eq_gt.2 hp
    rw [hp'] at h3
    go_wp2_with fail
    go_ret
    refine ⟨?_, rfl⟩
    have h5 : (compare n 67108864 == Ordering.lt) = decide (n < 67108864) := by have := cmp_lt n 67108864; simpa using this
    simp only [Array.getD, h5]
    congr 2
    by_cases hq : n < 67108864
    · have : 1 ≤ n := by omega
      simp [hq, this]
    · simp [hq]
  · have hp' : ¬ some (compare n 0) = some Ordering.gt := fun e => hp (Int.compare_eq_gt.1 (Option.some.inj e))
    have hp2 : (some (compare n 0) == some Ordering.gt) = false := by simpa using hp'
    go_wp2_with fail
    go_ret
    refine ⟨?_, rfl⟩
    have : ¬ 1 ≤ n := by omega
    simp [this]
end Go.Proofs.YtbgolkdhcgjfkaaGreatDoor
