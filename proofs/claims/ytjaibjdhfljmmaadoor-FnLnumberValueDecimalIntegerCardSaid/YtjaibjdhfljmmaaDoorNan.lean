/-
  lnumberValue of a number literal and of a string; the walk of FnLnumberValueNonNumeralIsNaN.
-/
import Derived.Test.YtjaibjdhfljmmaaDoorParse
import Derived.Test.YtjaibjdhfljmmaaDoorVars
namespace Go.Proofs.YtjaibjdhfljmmaaDoor
open Go.RowKit
set_option maxRecDepth 100000
set_option maxHeartbeats 1000000

theorem as_num (p : Value) (W : World) : (Instr.typeAssert (.iface 43 p) 60 43 true).run Tryd.prog W = .ok (.tuple #[p, .bool true]) W := by kernel_rfl
theorem as_str (p : Value) (W : World) : (Instr.typeAssert (.iface 52 p) 60 43 true).run Tryd.prog W = .ok (.tuple #[.pointer none, .bool false]) W := by kernel_rfl
theorem as_str2 (p : Value) (W : World) : (Instr.typeAssert (.iface 52 p) 60 63 true).run Tryd.prog W = .ok (.tuple #[.pointer none, .bool false]) W := by kernel_rfl
theorem nn74 (p : Value) (W : World) : (binOp .neq 37 (.iface 74 p) .nilIface).run Tryd.prog W = .ok (.bool true) W := by kernel_rfl

/-- lnumberValue of a number literal whose text parseNumber refuses: (NaN, true). -/
theorem lv_bad (b : Nat) (s : ByteArray) (w : World) (hc : w.cell? ⟨b, 2, none⟩ = some (.string s))
    (hP : Calls Tryd.prog 20 #[.string s] w fun e w' => (∃ N : Nat, e = .returned (.tuple #[.float .f64 0, .iface 74 (.pointer (some ⟨N, 0, none⟩))])) ∧ Below w.heap.size w w') :
    Calls Tryd.prog 21 #[.iface 43 (.pointer (some ⟨b, 0, none⟩))] w fun e w' => e = .returned (.tuple #[.float .f64 9221120237041090561, .bool true]) ∧ Below w.heap.size w w' := by
  have HP := Lib.hid hP
  have a1 := as_num
  have n1 := nn74
  clear hP
  go_enter Tryd.func21, Tryd.ntmps21
  go_wp2_with fail
  refine HP.out.mono ?_
  rintro e w1 ⟨⟨N, rfl⟩, hb⟩
  have hb' := Lib.hid hb
  clear hb HP
  go_wp2_with fail
  refine (mathnan w1).mono ?_
  rintro e w2 ⟨rfl, rfl⟩
  go_wp2_with fail
  go_ret2
  exact ⟨rfl, hb'.out⟩

theorem lv_str (p : Value) (w : World) :
    Calls Tryd.prog 21 #[.iface 52 p] w fun e w' => e = .returned (.tuple #[.float .f64 0, .bool false]) ∧ w = w' := by
  have a1 := as_str
  have a2 := as_str2
  go_enter Tryd.func21, Tryd.ntmps21
  go_wp2_with fail
  go_ret2
  exact ⟨rfl, rfl⟩

theorem zz_str (s : ByteArray) (w : World) :
    Calls Tryd.prog 16 #[.string s] w fun e w' => e = .returned (.tuple #[.float .f64 0, .bool false]) ∧ Below w.heap.size w w' := by
  have HL := Lib.hid lv_str
  go_enter Tryd.func16, Tryd.ntmps16
  go_wp2_with fail
  refine (HL.out _ _).mono ?_
  rintro e w1 ⟨rfl, rfl⟩
  go_wp2_with fail
  go_ret2
  exact ⟨rfl, (Below.refl _ w).alloc (Nat.le_refl _) _⟩

theorem zz_num (s : ByteArray) (w : World) (hmax : s.size ≤ 1073741824) (hv : Errs w) (hp : Plain s.data.toList) :
    Calls Tryd.prog 15 #[.string s] w fun e w' => e = .returned (.tuple #[.float .f64 9221120237041090561, .bool true]) ∧ Below w.heap.size w w' := by
  have HP := Lib.hid (fun (W : World) (h : Below w.heap.size w W) => pn_plain s W hmax (hv.below h) hp)
  clear hv hp
  go_enter Tryd.func15, Tryd.ntmps15
  go_wp2_with fail
  have hb := (Below.refl w.heap.size w).alloc (Nat.le_refl _) (.cells #[.int .i64 0, .int .i64 0, .string s] 51)
  refine (lv_bad w.heap.size s _ ?_ (HP.out _ hb)).mono ?_
  · simp [World.cell?_alloc_new]
  rintro e w1 ⟨rfl, hb1⟩
  have hf := Lib.hid (hb.trans (hb1.mono hb.size))
  clear hb hb1 HP
  go_wp2_with fail
  go_ret2
  exact ⟨rfl, hf.out⟩

theorem nan_nan (W : World) : (binOp .eql 24 (.float .f64 9221120237041090561) (.float .f64 9221120237041090561)).run Tryd.prog W = .ok (.bool false) W := by kernel_rfl
theorem zero_zero (W : World) : (binOp .eql 24 (.float .f64 0) (.float .f64 0)).run Tryd.prog W = .ok (.bool true) W := by kernel_rfl

theorem bytes14 (s : ByteArray) (w : World) :
    Calls Tryd.prog 14 #[.string s] w fun e w' => e = .returned (.bool (decide (s.size ≤ 1048576))) ∧ w = w' := by
  by_cases h : s.size ≤ 1048576
  · have h2 : ¬ (1048576 : Int) < (s.size : Int) := by omega
    have hd : decide (s.size ≤ 1048576) = true := by simpa using h
    rw [hd]
    clear hd h
    go_enter Tryd.func14, Tryd.ntmps14
    go_wp2
    go_ret
    exact ⟨rfl, rfl⟩
  · have h2 : (1048576 : Int) < (s.size : Int) := by omega
    have hd : decide (s.size ≤ 1048576) = false := by simpa using h
    rw [hd]
    clear hd h
    go_enter Tryd.func14, Tryd.ntmps14
    go_wp2
    go_ret
    exact ⟨rfl, rfl⟩

theorem nan_main (s : ByteArray) (w : World) (hE : Errs w) :
    Calls Tryd.prog 5 #[.string s] w fun e w' => e = .returned (.bool true) ∧ Below w.heap.size w w' := by
  have HB := Lib.hid (bytes14 s w)
  by_cases hsz : s.size ≤ 1048576
  · have hd : decide (s.size ≤ 1048576) = true := by simpa using hsz
    rw [hd] at HB
    have hs2 : ¬ (1048576 : Int) < (s.size : Int) := by omega
    have HZ := Lib.hid (fun hp => zz_num s w (by omega) hE hp)
    have HS := Lib.hid (fun W : World => zz_str s W)
    have n1 := nan_nan
    have n2 := zero_zero
    have hsz' := Lib.hid hsz
    clear hE hd hsz
    go_enter Tryd.func5, Tryd.ntmps5
    go_wp2_with (go_at_call 14; refine HB.out.mono ?_; rintro e w' ⟨rfl, rfl⟩)
    clear HB
    go_loop [3] (fun i => ∃ k : Nat, k ≤ s.size ∧ i = .int .i64 k ∧ Hid (Plain (s.data.toList.take k))) (fun i => s.size - (intOf i).toNat)
    case atStart => exact ⟨0, Nat.zero_le _, rfl, Lib.hid (fun x hx => by simp at hx)⟩
    case round =>
      obtain ⟨k, hk, rfl, hall⟩ := hrel
      by_cases hlt : k < s.size
      · obtain ⟨c, hc⟩ : ∃ c, s[k] = c := ⟨_, rfl⟩
        have hc256 : c.toNat < 256 := c.toNat_lt
        by_cases hdig : 48 ≤ c.toNat ∧ c.toNat ≤ 57
        · have h1 : (48 : Int) ≤ (c.toNat : Int) := by omega
          have h2 : (c.toNat : Int) ≤ 57 := by omega
          clear hdig
          go_wp2_with fail
          go_ret
          exact ⟨rfl, Below.refl _ _⟩
        · by_cases hlet : c = 105 ∨ c = 73 ∨ c = 110 ∨ c = 78
          · have hlo : (48 : Int) ≤ (c.toNat : Int) := by rcases hlet with rfl | rfl | rfl | rfl <;> decide
            have hhi : ¬ (c.toNat : Int) ≤ 57 := by omega
            rcases hlet with h | h | h | h
            · have e1 : ((c.toNat : Int) == 105) = true := by rw [h]; rfl
              clear h hdig
              go_wp2_with fail
              go_ret
              exact ⟨rfl, Below.refl _ _⟩
            · have e1 : ((c.toNat : Int) == 105) = false := by rw [h]; rfl
              have e2 : ((c.toNat : Int) == 73) = true := by rw [h]; rfl
              clear h hdig
              go_wp2_with fail
              go_ret
              exact ⟨rfl, Below.refl _ _⟩
            · have e1 : ((c.toNat : Int) == 105) = false := by rw [h]; rfl
              have e2 : ((c.toNat : Int) == 73) = false := by rw [h]; rfl
              have e3 : ((c.toNat : Int) == 110) = true := by rw [h]; rfl
              clear h hdig
              go_wp2_with fail
              go_ret
              exact ⟨rfl, Below.refl _ _⟩
            · have e1 : ((c.toNat : Int) == 105) = false := by rw [h]; rfl
              have e2 : ((c.toNat : Int) == 73) = false := by rw [h]; rfl
              have e3 : ((c.toNat : Int) == 110) = false := by rw [h]; rfl
              have e4 : ((c.toNat : Int) == 78) = true := by rw [h]; rfl
              clear h hdig
              go_wp2_with fail
              go_ret
              exact ⟨rfl, Below.refl _ _⟩
          · have e1 := beq_no c 105 (fun h => hlet (Or.inl h))
            have e2 := beq_no c 73 (fun h => hlet (Or.inr (Or.inl h)))
            have e3 := beq_no c 110 (fun h => hlet (Or.inr (Or.inr (Or.inl h))))
            have e4 := beq_no c 78 (fun h => hlet (Or.inr (Or.inr (Or.inr h))))
            change (_ == (105 : Int)) = _ at e1
            change (_ == (73 : Int)) = _ at e2
            change (_ == (110 : Int)) = _ at e3
            change (_ == (78 : Int)) = _ at e4
            have hall2 : Hid (Plain (s.data.toList.take (k + 1))) := Lib.hid (by
              intro x hx
              rw [List.take_succ_eq_append_getElem (by rw [← Lib.size_eq]; exact hlt)] at hx
              rcases List.mem_append.1 hx with hx | hx
              · exact hall.out x hx
              · simp at hx
                have : x = c := hx.trans hc
                rw [this]
                exact ⟨hdig, hlet⟩)
            by_cases hlo : 48 ≤ c.toNat
            · have h1 : (48 : Int) ≤ (c.toNat : Int) := by omega
              have h2 : ¬ (c.toNat : Int) ≤ 57 := by omega
              clear hdig hlet hlo
              go_wp2_with fail
              go_round
              case rel => exact ⟨k + 1, by omega, by go_num, hall2⟩
              case measure => simp [intOf]; omega
            · have h1 : ¬ (48 : Int) ≤ (c.toNat : Int) := by omega
              clear hdig hlet hlo
              go_wp2_with fail
              go_round
              case rel => exact ⟨k + 1, by omega, by go_num, hall2⟩
              case measure => simp [intOf]; omega
      · obtain rfl : k = s.size := by omega
        have HZ' := Lib.hid (HZ.out (by have := hall.out; rw [List.take_of_length_le (by rw [← Lib.size_eq]; exact Nat.le_refl _)] at this; exact this))
        clear HZ
        go_wp2_with fail
        refine HZ'.out.mono ?_
        rintro e w1 ⟨rfl, hb1⟩
        have hb1' := Lib.hid hb1
        clear hb1 HZ'
        go_wp2_with fail
        refine (HS.out w1).mono ?_
        rintro e w2 ⟨rfl, hb2⟩
        have hb2' := Lib.hid (hb1'.out.trans (hb2.mono hb1'.out.size))
        clear hb2
        go_wp2_with fail
        go_ret
        exact ⟨rfl, hb2'.out⟩
  · have hd : decide (s.size ≤ 1048576) = false := by simpa using hsz
    rw [hd] at HB
    clear hd hsz hE
    go_enter Tryd.func5, Tryd.ntmps5
    go_wp2_with (go_at_call 14; refine HB.out.mono ?_; rintro e w' ⟨rfl, rfl⟩)
    go_ret
    exact ⟨rfl, Below.refl _ _⟩

theorem nan_law (s : ByteArray) (w : World) (_ : s.size ≤ maxLen) (hL : laidMet Tryd.prog Rows.fnLnumberValueNonNumeralIsNaNRow.laid w) :
    Calls Tryd.prog 5 #[.string s] w fun e w' => e = .returned (.bool true) ∧ Below w.heap.size w w' := nan_main s w (errs_nan hL)
end Go.Proofs.YtjaibjdhfljmmaaDoor
