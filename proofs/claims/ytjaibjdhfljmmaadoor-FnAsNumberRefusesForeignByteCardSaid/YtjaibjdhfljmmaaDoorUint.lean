/-
  internal/strconv.ParseUint at base 0, 64 bits: a text with no decimal digit is refused.
-/
import Derived.Test.YtjaibjdhfljmmaaDoorErr
import Derived.Lib.ConvBytes
import Derived.Laws.Strings3
import Derived.Laws.Closers25
import Derived.Laws.Closers25b
import Derived.BigGuard
namespace Go.Proofs.YtjaibjdhfljmmaaDoor
open Go.RowKit
set_option maxRecDepth 100000
set_option maxHeartbeats 1000000

theorem lower_any (c : Int) (w : World) : Calls Tryd.prog 39 #[.int .u8 c] w fun e w' => e = .returned (.int .u8 (bits .or .u8 c 32)) ∧ w = w' := by
  go_enter Tryd.func39, Tryd.ntmps39
  go_wp2
  go_ret
  exact ⟨rfl, rfl⟩

theorem nonempty_of {t : ByteArray} (hne : 0 < t.size) : t.toList.isEmpty = false := by
  rw [← decide_eq_emptyBytes]
  exact decide_eq_false (fun h => by rw [h] at hne; exact absurd hne (by decide))

/-- underscoreOK: a text that begins with an underscore. -/
theorem uok_no (t : ByteArray) (hne : 0 < t.size) (h0 : t[0] = 95) (w : World) :
    Calls Tryd.prog 40 #[.string t] w fun e w' => e = .returned (.bool false) ∧ w = w' := by
  have q1 : (((t[0]).toNat : Int) == 45) = false := by rw [h0]; rfl
  have q2 : (((t[0]).toNat : Int) == 43) = false := by rw [h0]; rfl
  have q3 : (((t[0]).toNat : Int) == 48) = false := by rw [h0]; rfl
  by_cases h2 : 2 ≤ t.size
  all_goals
    go_enter Tryd.func40, Tryd.ntmps40
    go_wp2
    go_loop [3, 4] (fun a i => a = .int .i32 94 ∧ i = .int .i64 0) (fun _ _ => 0)
    case atStart => exact ⟨rfl, rfl⟩
    case round =>
      obtain ⟨rfl, rfl⟩ := hrel
      go_wp2
      go_ret
      exact ⟨rfl, rfl⟩
theorem bytes_below (w : World) (t : ByteArray) : Below w.heap.size w (Lib.bytesWorld w 5 t) :=
  ⟨rfl, rfl, rfl, by rw [Lib.bytesWorld_size]; omega, fun k hk => Lib.bytesWorld_at_old w 5 t k hk⟩

theorem pu_plain (t : ByteArray) (hne : 0 < t.size) (hmax : t.size ≤ 1073741824) (hno : ∀ x ∈ t.data.toList, ¬ (48 ≤ x.toNat ∧ x.toNat ≤ 57)) (w : World) :
    Calls Tryd.prog 33 #[.string t, .int .i64 0, .int .i64 64] w fun e w' => e = .returned (.tuple #[.int .u64 0, .iface 70 (.int .i64 2)]) ∧ Below w.heap.size w w' := by
  have hemp := nonempty_of hne
  have hcv := Lib.run_convert_string_bytes (P := Tryd.prog) w 9 41 5 t (u := .string) Tryd.underlying9 Tryd.underlying41 Tryd.underlying5
  have hB := Lib.hid (fun j (hj : j < t.size) => Lib.bytesWorld_cell w 5 t j hj)
  have hbel := Lib.hid (bytes_below w t)
  obtain ⟨W1, hW1⟩ : ∃ W1, W1 = Lib.bytesWorld w 5 t := ⟨_, rfl⟩
  rw [← hW1] at hcv hB hbel
  clear hW1
  have hno' := Lib.hid hno
  have hx0 : (((t[0]).toNat : Int) == 48) = false := by
    have := hno t[0] (by rw [show t[0] = t.data.toList[0]'(by rw [Lib.size_eq] at hne; exact hne) from rfl]; exact List.getElem_mem _)
    rw [beq_eq_false_iff_ne]
    omega
  clear hno
  go_enter Tryd.func33, Tryd.ntmps33
  go_wp2_with fail
  go_loop [12, 13, 101] (fun vu vn vi => ∃ k : Nat, k ≤ t.size ∧ vu = .bool (decide (0 < k)) ∧ vn = .int .u64 0 ∧ vi = .int .i64 k ∧ Hid (∀ x ∈ t.data.toList.take k, x = 95)) (fun _ _ vi => t.size - (intOf vi).toNat)
  case atStart => exact ⟨0, by omega, rfl, rfl, rfl, Lib.hid (by simp)⟩
  case round =>
    obtain ⟨k, hk, rfl, rfl, rfl, hall⟩ := hrel
    by_cases hlt : k < t.size
    · have hc := hB.out k hlt
      have hnd := hno'.out (t.data.toList.getD k 0) (by
        have hl : k < t.data.toList.length := by rw [Lib.size_eq] at hlt; exact hlt
        simp [List.getD, List.getElem?_eq_getElem hl])
      have htk : Hid (t.data.toList.take (k + 1) = t.data.toList.take k ++ [t.data.toList.getD k 0]) := Lib.hid (by
        have hl : k < t.data.toList.length := by rw [Lib.size_eq] at hlt; exact hlt
        rw [List.take_succ_eq_append_getElem hl]
        simp [List.getD, List.getElem?_eq_getElem hl])
      generalize t.data.toList.getD k 0 = c at hc hnd htk
      have hc256 : c.toNat < 256 := c.toNat_lt
      by_cases h95 : c = 95
      · subst h95
        have hd : decide (0 < k + 1) = true := by simp
        have hall2 : Hid (∀ x ∈ t.data.toList.take (k + 1), x = 95) := Lib.hid (by
          intro x hx
          rw [htk.out] at hx
          rcases List.mem_append.1 hx with hx | hx
          · exact hall.out x hx
          · simpa using hx)
        go_wp2_with fail
        go_round
        case rel => exact ⟨k + 1, by omega, by rw [hd], rfl, by go_num, hall2⟩
        case measure => simp [intOf]; omega
      · have hu : ((c.toNat : Int) == 95) = false := by
          rw [beq_eq_false_iff_ne]
          intro e
          exact h95 (by rw [← UInt8.toNat_inj]; exact (by omega : c.toNat = 95))
        have hv0 := bits_lo_u8 .or (c.toNat : Int) 32
        have hv1 := bits_hi_u8 .or (c.toNat : Int) 32
        clear htk h95
        by_cases hlo : c.toNat < 48
        · have hlo' : ¬ (48 : Int) ≤ (c.toNat : Int) := by omega
          go_wp2_with (go_at_call 39; refine (lower_any _ _).mono ?_; rintro e w' ⟨rfl, rfl⟩)
          all_goals (go_ret2; exact ⟨rfl, hbel.out⟩)
        · have hlo' : (48 : Int) ≤ (c.toNat : Int) := by omega
          have hhi' : ¬ (c.toNat : Int) ≤ 57 := by omega
          go_wp2_with (go_at_call 39; refine (lower_any _ _).mono ?_; rintro e w' ⟨rfl, rfl⟩)
          all_goals (go_ret2; exact ⟨rfl, hbel.out⟩)
    · obtain rfl : k = t.size := by omega
      have hd : decide (0 < t.size) = true := by simpa using hne
      have HU := Lib.hid (uok_no t hne (by
        have := hall.out t.data.toList[0] (by rw [List.take_of_length_le (by rw [Lib.size_eq]; exact Nat.le_refl _)]; exact List.getElem_mem _)
        exact this) W1)
      go_wp2_with (go_at_call 40; refine HU.out.mono ?_; rintro e w' ⟨rfl, rfl⟩)
      go_ret2
      exact ⟨rfl, hbel.out⟩
end Go.Proofs.YtjaibjdhfljmmaaDoor
