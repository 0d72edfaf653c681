/-
  ParseUint at base 0, 64 bits, at a decimal and at a hexadecimal numeral: its value.
-/
import Derived.Test.YtjaibjdhfljmmaaDoorSpecial
namespace Go.Proofs.YtjaibjdhfljmmaaDoor
open Go.RowKit
set_option maxRecDepth 100000
set_option maxHeartbeats 2000000

/-- A byte as a digit. -/
def dv (c : UInt8) : Nat := if c.toNat ≤ 57 then c.toNat - 48 else c.toNat - 87
def val (b : Nat) (l : List UInt8) : Nat := l.foldl (fun a c => a * b + dv c) 0

theorem val_snoc (b : Nat) (l : List UInt8) (c : UInt8) : val b (l ++ [c]) = val b l * b + dv c := by simp [val]
theorem val_mono (b : Nat) (hb : 1 ≤ b) (l r : List UInt8) : val b l ≤ val b (l ++ r) := by
  unfold val
  rw [List.foldl_append]
  generalize List.foldl (fun a c => a * b + dv c) 0 l = x
  induction r generalizing x with
  | nil => exact Nat.le_refl _
  | cons c r ih =>
    rw [List.foldl_cons]
    refine Nat.le_trans ?_ (ih _)
    have := Nat.le_mul_of_pos_right x hb
    omega
theorem val_take (b : Nat) (hb : 1 ≤ b) (l : List UInt8) (k : Nat) : val b (l.take k) ≤ val b l := by
  have := val_mono b hb (l.take k) (l.drop k)
  rwa [List.take_append_drop] at this

def Dec (c : UInt8) : Prop := 48 ≤ c.toNat ∧ c.toNat ≤ 57

theorem hmv64 : IntKind.u64.wrap (IntKind.u64.wrap 18446744073709551616 - 1) = 18446744073709551615 := by
  rw [IntKind.wrap_u64, IntKind.wrap_u64]
  decide

theorem getD_lt {l : List UInt8} {k : Nat} (h : k < l.length) : l.getD k 0 = l[k] := by simp [List.getD, List.getElem?_eq_getElem h]

theorem pu_dec (t : ByteArray) (hne : 0 < t.size) (hmax : t.size ≤ 1073741824) (h0 : ¬ t[0] = 48) (hd : ∀ x ∈ t.data.toList, Dec x) (hv : val 10 t.data.toList < 18446744073709551616) (w : World) :
    Calls Tryd.prog 33 #[.string t, .int .i64 0, .int .i64 64] w fun e w' => e = .returned (.tuple #[.int .u64 (val 10 t.data.toList), .nilIface]) ∧ Below w.heap.size w w' := by
  have hemp := nonempty_of hne
  have hcv := Lib.run_convert_string_bytes (P := Tryd.prog) w 9 41 5 t (u := .string) Tryd.underlying9 Tryd.underlying41 Tryd.underlying5
  have hB := Lib.hid (fun j (hj : j < t.size) => Lib.bytesWorld_cell w 5 t j hj)
  have hbel := Lib.hid (bytes_below w t)
  obtain ⟨W1, hW1⟩ : ∃ W1, W1 = Lib.bytesWorld w 5 t := ⟨_, rfl⟩
  rw [← hW1] at hcv hB hbel
  clear hW1
  have hd' := Lib.hid hd
  have hx0 := beq_no t[0] 48 h0
  change (_ == (48 : Int)) = _ at hx0
  have hmv := hmv64
  have hvt := Lib.hid (fun k => val_take 10 (by omega) t.data.toList k)
  obtain ⟨V, hV⟩ : ∃ V, val 10 t.data.toList = V := ⟨_, rfl⟩
  rw [hV] at hv hvt ⊢
  have hV' := Lib.hid hV
  have hv' := Lib.hid hv
  clear hd h0 hV hv
  go_enter Tryd.func33, Tryd.ntmps33
  go_wp2_with fail
  go_loop [12, 13, 101] (fun vu vn vi => ∃ (k : Nat) (a : Int), k ≤ t.size ∧ vu = .bool false ∧ vn = .int .u64 a ∧ vi = .int .i64 k ∧ Hid (a = (val 10 (t.data.toList.take k) : Nat))) (fun _ _ vi => t.size - (intOf vi).toNat)
  case atStart => exact ⟨0, 0, by omega, rfl, rfl, rfl, Lib.hid (by simp [val])⟩
  case round =>
    obtain ⟨k, a, hk, rfl, rfl, rfl, hh⟩ := hrel
    have ha := hh.out
    have hvk := hvt.out k
    have hv := hv'.out
    have a0 : 0 ≤ a := by omega
    have a1 : a < 18446744073709551616 := by omega
    by_cases hlt : k < t.size
    · have hl : k < t.data.toList.length := by rw [← Lib.size_eq]; exact hlt
      have hc := hB.out k hlt
      rw [getD_lt hl] at hc
      have hdc := hd'.out _ (List.getElem_mem hl)
      have hvk1 := hvt.out (k + 1)
      rw [List.take_succ_eq_append_getElem hl, val_snoc] at hvk1
      have hnx : Hid (t.data.toList.take (k + 1) = t.data.toList.take k ++ [t.data.toList[k]]) := Lib.hid (List.take_succ_eq_append_getElem hl)
      generalize t.data.toList[k] = c at hc hdc hvk1 hnx
      obtain ⟨hd0, hd1⟩ := hdc
      have hdv : dv c = c.toNat - 48 := by unfold dv; rw [if_pos hd1]
      rw [hdv] at hvk1
      have hc256 : c.toNat < 256 := c.toNat_lt
      have e95 : ((c.toNat : Int) == 95) = false := by rw [beq_eq_false_iff_ne]; omega
      have icut : a < 1844674407370955162 := by omega
      have iov : a * 10 + ((c.toNat : Int) - 48) < 18446744073709551616 := by omega
      have HN : Hid (a * 10 + ((c.toNat : Int) - 48) = (val 10 (t.data.toList.take (k + 1)) : Nat)) := Lib.hid (by rw [hnx.out, val_snoc, hdv]; omega)
      have h48 : (48 : Int) ≤ (c.toNat : Int) := by omega
      have h57 : (c.toNat : Int) ≤ 57 := by omega
      clear hvk hvk1 hv ha hdv hd0 hd1 hl
      go_wp2_with fail
      refine ⟨⟨k + 1, a * 10 + ((c.toNat : Int) - 48), by omega, rfl, (by first | rfl | (congr 1; omega)), (by first | rfl | (congr 1; omega)), HN⟩, by simp [intOf]; omega⟩
    · obtain rfl : k = t.size := by omega
      have haV : a = (V : Int) := by
        rw [ha, List.take_of_length_le (by rw [← Lib.size_eq]; exact Nat.le_refl _), hV'.out]
      subst haV
      clear ha hvk hv
      go_wp2_with fail
      go_ret2
      exact ⟨rfl, hbel.out⟩
theorem pu_zero (w : World) :
    Calls Tryd.prog 33 #[.string ⟨#[48]⟩, .int .i64 0, .int .i64 64] w fun e w' => e = .returned (.tuple #[.int .u64 0, .nilIface]) ∧ Below w.heap.size w w' := by
  have hcv := Lib.run_convert_string_bytes (P := Tryd.prog) w 9 41 5 ⟨#[]⟩ (u := .string) Tryd.underlying9 Tryd.underlying41 Tryd.underlying5
  have hbel := Lib.hid (bytes_below w ⟨#[]⟩)
  obtain ⟨W1, hW1⟩ : ∃ W1, W1 = Lib.bytesWorld w 5 ⟨#[]⟩ := ⟨_, rfl⟩
  rw [← hW1] at hcv hbel
  clear hW1
  have hcv2 : (convert 9 41 (.string ⟨#[]⟩)).run Tryd.prog w = .ok (.slice (some ⟨w.heap.size, 0, none⟩) 0 (grownCap w 0 0 5)) W1 := hcv
  have hsl : ∀ W, (Instr.slice 9 (.string ⟨#[48]⟩) (some (.int .i64 1)) none none).run Tryd.prog W = .ok (.string ⟨#[]⟩) W := fun W => by kernel_rfl
  generalize grownCap w 0 0 5 = cp at hcv2
  clear hcv
  go_enter Tryd.func33, Tryd.ntmps33
  go_wp2_with fail
  go_loop [12, 13, 101] (fun vu vn vi => vu = .bool false ∧ vn = .int .u64 0 ∧ vi = .int .i64 0) (fun _ _ _ => 0)
  case atStart => exact ⟨rfl, rfl, rfl⟩
  case round =>
    obtain ⟨rfl, rfl, rfl⟩ := hrel
    go_wp2_with fail
    go_ret2
    exact ⟨rfl, hbel.out⟩

def Hex (c : UInt8) : Prop := (48 ≤ c.toNat ∧ c.toNat ≤ 57) ∨ (97 ≤ c.toNat ∧ c.toNat ≤ 102)

theorem lower_const (n : Nat) (hn : n = 120 ∨ (97 ≤ n ∧ n ≤ 102)) (w : World) : Calls Tryd.prog 39 #[.int .u8 n] w fun e w' => e = .returned (.int .u8 n) ∧ w = w' := by
  refine (lower_any n w).mono ?_
  rintro e w' ⟨rfl, rfl⟩
  refine ⟨?_, rfl⟩
  have : bits .or .u8 (n : Int) 32 = (n : Int) := by
    rcases hn with rfl | hn
    · decide
    · rcases (by omega : n = 97 ∨ n = 98 ∨ n = 99 ∨ n = 100 ∨ n = 101 ∨ n = 102) with rfl | rfl | rfl | rfl | rfl | rfl <;> decide
  rw [this]

theorem pu_hex (t u : ByteArray) (hne : 3 ≤ t.size) (hmax : t.size ≤ 1073741824) (h0 : t[0] = 48) (h1 : t[1] = 120) (hu : t.extract 2 t.size = u) (hd : ∀ x ∈ u.data.toList, Hex x) (hv : val 16 u.data.toList < 18446744073709551616) (w : World) :
    Calls Tryd.prog 33 #[.string t, .int .i64 0, .int .i64 64] w fun e w' => e = .returned (.tuple #[.int .u64 (val 16 u.data.toList), .nilIface]) ∧ Below w.heap.size w w' := by
  have hemp := nonempty_of (t := t) (by omega)
  have hsl : ∀ W, (Instr.slice 9 (.string t) (some (.int .i64 2)) none none).run Tryd.prog W = .ok (.string u) W := fun W => by
    rw [run_slice_string_from_if W 9 t .i64 _ Tryd.underlying9, if_pos ⟨by omega, by omega⟩, ← hu]
    rfl
  have hus : u.size ≤ 1073741824 := by
    have : u.data.toList = t.data.toList.drop 2 := by rw [← hu, Lib.extract_data, List.take_of_length_le (by simp)]
    rw [Lib.size_eq, this, List.length_drop, ← Lib.size_eq]
    omega
  have hcv := Lib.run_convert_string_bytes (P := Tryd.prog) w 9 41 5 u (u := .string) Tryd.underlying9 Tryd.underlying41 Tryd.underlying5
  have hB := Lib.hid (fun j (hj : j < u.size) => Lib.bytesWorld_cell w 5 u j hj)
  have hbel := Lib.hid (bytes_below w u)
  obtain ⟨W1, hW1⟩ : ∃ W1, W1 = Lib.bytesWorld w 5 u := ⟨_, rfl⟩
  rw [← hW1] at hcv hB hbel
  clear hW1 hu
  have hd' := Lib.hid hd
  have hx0 : (((t[0]).toNat : Int) == 48) = true := by rw [h0]; rfl
  have hx1 : ((t[1]).toNat : Int) = ((120 : Nat) : Int) := by rw [h1]; rfl
  have hn3 : (3 : Int) ≤ (t.size : Int) := by omega
  have hmv := hmv64
  have hvt := Lib.hid (fun k => val_take 16 (by omega) u.data.toList k)
  obtain ⟨V, hV⟩ : ∃ V, val 16 u.data.toList = V := ⟨_, rfl⟩
  rw [hV] at hv hvt ⊢
  have hV' := Lib.hid hV
  have hv' := Lib.hid hv
  have HX := Lib.hid (fun W : World => lower_const 120 (Or.inl rfl) W)
  clear hd h0 h1 hV hv
  go_enter Tryd.func33, Tryd.ntmps33
  go_wp2_with (go_at_call 39; refine (HX.out _).mono ?_; rintro e w' ⟨rfl, rfl⟩)
  clear HX hx1 hn3
  go_loop [12, 13, 101] (fun vu vn vi => ∃ (k : Nat) (a : Int), k ≤ u.size ∧ vu = .bool false ∧ vn = .int .u64 a ∧ vi = .int .i64 k ∧ Hid (a = (val 16 (u.data.toList.take k) : Nat))) (fun _ _ vi => u.size - (intOf vi).toNat)
  case atStart => exact ⟨0, 0, by omega, rfl, rfl, rfl, Lib.hid (by simp [val])⟩
  case round =>
    obtain ⟨k, a, hk, rfl, rfl, rfl, hh⟩ := hrel
    have ha := hh.out
    have hvk := hvt.out k
    have hv := hv'.out
    have a0 : 0 ≤ a := by omega
    have a1 : a < 18446744073709551616 := by omega
    by_cases hlt : k < u.size
    · have hl : k < u.data.toList.length := by rw [← Lib.size_eq]; exact hlt
      have hc := hB.out k hlt
      rw [getD_lt hl] at hc
      have hdc := hd'.out _ (List.getElem_mem hl)
      have hvk1 := hvt.out (k + 1)
      rw [List.take_succ_eq_append_getElem hl, val_snoc] at hvk1
      have hnx : Hid (u.data.toList.take (k + 1) = u.data.toList.take k ++ [u.data.toList[k]]) := Lib.hid (List.take_succ_eq_append_getElem hl)
      generalize u.data.toList[k] = c at hc hdc hvk1 hnx
      have hc256 : c.toNat < 256 := c.toNat_lt
      rcases hdc with ⟨hd0, hd1⟩ | ⟨hd0, hd1⟩
      · have hdv : dv c = c.toNat - 48 := by unfold dv; rw [if_pos hd1]
        rw [hdv] at hvk1
        have e95 : ((c.toNat : Int) == 95) = false := by rw [beq_eq_false_iff_ne]; omega
        have icut : a < 1152921504606846976 := by omega
        have iov : a * 16 + ((c.toNat : Int) - 48) < 18446744073709551616 := by omega
        have HN : Hid (a * 16 + ((c.toNat : Int) - 48) = (val 16 (u.data.toList.take (k + 1)) : Nat)) := Lib.hid (by rw [hnx.out, val_snoc, hdv]; omega)
        have h48 : (48 : Int) ≤ (c.toNat : Int) := by omega
        have h57 : (c.toNat : Int) ≤ 57 := by omega
        clear hvk hvk1 hv ha hdv hd0 hd1 hl
        go_wp2_with fail
        refine ⟨⟨k + 1, a * 16 + ((c.toNat : Int) - 48), by omega, rfl, (by first | rfl | (congr 1; omega)), (by first | rfl | (congr 1; omega)), HN⟩, by simp [intOf]; omega⟩
      · have hdv : dv c = c.toNat - 87 := by unfold dv; rw [if_neg (by omega)]
        rw [hdv] at hvk1
        have e95 : ((c.toNat : Int) == 95) = false := by rw [beq_eq_false_iff_ne]; omega
        have icut : a < 1152921504606846976 := by omega
        have iov : a * 16 + ((c.toNat : Int) - 97 + 10) < 18446744073709551616 := by omega
        have HN : Hid (a * 16 + ((c.toNat : Int) - 97 + 10) = (val 16 (u.data.toList.take (k + 1)) : Nat)) := Lib.hid (by rw [hnx.out, val_snoc, hdv]; omega)
        have HC := Lib.hid (fun W : World => lower_const c.toNat (Or.inr ⟨hd0, hd1⟩) W)
        have h48 : (48 : Int) ≤ (c.toNat : Int) := by omega
        have h57 : ¬ (c.toNat : Int) ≤ 57 := by omega
        have h97 : (97 : Int) ≤ (c.toNat : Int) := by omega
        have h122 : (c.toNat : Int) ≤ 122 := by omega
        have h16 : (c.toNat : Int) - 97 + 10 < 16 := by omega
        clear hvk hvk1 hv ha hdv hd0 hd1 hl
        go_wp2_with (go_at_call 39; refine (HC.out _).mono ?_; rintro e w' ⟨rfl, rfl⟩)
        refine ⟨⟨k + 1, a * 16 + ((c.toNat : Int) - 97 + 10), by omega, rfl, (by first | rfl | (congr 1; omega)), (by first | rfl | (congr 1; omega)), HN⟩, by simp [intOf]; omega⟩
    · obtain rfl : k = u.size := by omega
      have haV : a = (V : Int) := by
        rw [ha, List.take_of_length_le (by rw [← Lib.size_eq]; exact Nat.le_refl _), hV'.out]
      subst haV
      clear ha hvk hv
      go_wp2_with fail
      go_ret2
      exact ⟨rfl, hbel.out⟩
end Go.Proofs.YtjaibjdhfljmmaaDoor
