/-
  The walk of FnAsNumberRefusesForeignByte: for every argument the call returns true and turns nothing that was there.
-/
import Derived.Test.YtjaibjdhfljmmaaDoorDmA64B
import Derived.Test.YtjaibjdhfljmmaaDoorSigned
namespace Go.Proofs.YtjaibjdhfljmmaaDoor
open Go.RowKit
set_option maxRecDepth 100000
set_option maxHeartbeats 1000000

/-- ParseInt at a text with a foreign byte: an error. -/
theorem pi_foreign (t : ByteArray) (hs : t.size ≤ 1073741824) (hf : HasForeign t) (w : World) :
    Calls Tryd.prog 28 #[.string t, .int .i64 0, .int .i64 64] w fun e w' => PiErr e ∧ Below w.heap.size w w' := by
  have hne : 0 < t.size := by
    obtain ⟨x, hx, _⟩ := hf
    have := List.length_pos_of_mem hx
    rw [Lib.size_eq]
    exact this
  by_cases sg : t[0] = 43 ∨ t[0] = 45
  · refine pi_err_sign t hne w sg ?_
    have hex : (t.extract 1 t.size).data.toList = t.data.toList.drop 1 := by rw [Lib.extract_data, List.take_of_length_le (by simp)]
    have hsz : (t.extract 1 t.size).size = t.size - 1 := by rw [Lib.size_eq, hex, List.length_drop, ← Lib.size_eq]
    have hp2 : HasForeign (t.extract 1 t.size) := by
      obtain ⟨x, hx, hn⟩ := hf
      refine ⟨x, ?_, hn⟩
      rw [hex]
      have hl : 0 < t.data.toList.length := by rw [← Lib.size_eq]; exact hne
      have hcons : t.data.toList = t[0] :: t.data.toList.drop 1 := by
        have := List.drop_eq_getElem_cons (i := 0) hl
        rw [List.drop_zero] at this
        exact this
      rw [hcons] at hx
      rcases List.mem_cons.1 hx with h | h
      · rw [h] at hn
        rcases sg with h | h
        · rw [h] at hn; cases hn
        · rw [h] at hn; cases hn
      · exact h
    have hnu : 0 < (t.extract 1 t.size).size := by
      obtain ⟨x, hx, _⟩ := hp2
      have := List.length_pos_of_mem hx
      rw [Lib.size_eq]
      exact this
    exact pu_foreign _ hnu (by omega) hp2 w
  · exact pi_err_plain t hne w (fun h => sg (Or.inl h)) (fun h => sg (Or.inr h)) (pu_foreign t hne hs hf w)

theorem ws_num {x : UInt8} (h : num x = false) : ws x = false := by
  rw [ws_nat]
  have h32 : ¬ x.toNat = 32 := fun e => by rw [UInt8.toNat_inj.1 (show x.toNat = (32 : UInt8).toNat from e)] at h; cases h
  have h9 : ¬ x.toNat = 9 := fun e => by rw [UInt8.toNat_inj.1 (show x.toNat = (9 : UInt8).toNat from e)] at h; cases h
  have h10 : ¬ x.toNat = 10 := fun e => by rw [UInt8.toNat_inj.1 (show x.toNat = (10 : UInt8).toNat from e)] at h; cases h
  simp
  omega

theorem HasForeign.trim {s t : ByteArray} (h : HasForeign s) (ht : Trimmed s.data.toList t.data.toList) : HasForeign t := by
  obtain ⟨x, hx, hn⟩ := h
  exact ⟨x, ht.stays hx (ws_num hn), hn⟩

theorem pn_foreign (s : ByteArray) (w : World) (hmax : s.size ≤ 1073741824) (hv : Errs w) (hG : Globs w) (hf : HasForeign s) :
    Calls Tryd.prog 20 #[.string s] w fun e w' => (∃ N : Nat, e = .returned (.tuple #[.float .f64 0, .iface 74 (.pointer (some ⟨N, 0, none⟩))])) ∧ Below w.heap.size w w' := by
  have HT := Lib.hid (trim_any s w hmax)
  have hG' := Lib.hid hG
  have hf' := Lib.hid hf
  have hv' := Lib.hid hv
  have hmax' := Lib.hid hmax
  have hnn : ∀ (p : Value) (W : World), (binOp .neq 37 (.iface 74 p) .nilIface).run Tryd.prog W = .ok (.bool true) W := fun p W => by kernel_rfl
  clear hG hf hv hmax
  go_enter Tryd.func20, Tryd.ntmps20
  go_wp2_with fail
  refine HT.out.mono ?_
  rintro e w1 ⟨⟨t, rfl, ht⟩, hb1⟩
  have hsz : t.size ≤ 1073741824 := by have := ht.length; have := hmax'.out; rw [Lib.size_eq] at *; omega
  have he1 := hv'.out.below hb1
  have hft := Lib.hid (hf'.out.trim ht)
  have HI := Lib.hid (spi_err t w1 hsz he1 (pi_foreign t hsz hft.out w1))
  have hb1' := Lib.hid hb1
  have he1' := Lib.hid he1
  have hsz' := Lib.hid hsz
  have hG1 := Lib.hid (hG'.out.keep hb1)
  clear HT hb1 ht he1 hsz
  go_wp2_with fail
  refine HI.out.mono ?_
  rintro e w2 ⟨⟨z, N, rfl⟩, hb2⟩
  have HF := Lib.hid (spf_bad t w2 hsz'.out (he1'.out.below hb2) (a64_any t hsz'.out hft.out w2 (hG1.out.keep hb2)))
  have hb2' := Lib.hid (hb1'.out.trans (hb2.mono hb1'.out.size))
  clear HI hb2
  go_wp2_with fail
  refine HF.out.mono ?_
  rintro e w3 ⟨⟨f, N2, rfl⟩, hb3⟩
  have hb3' := Lib.hid (hb2'.out.trans (hb3.mono hb2'.out.size))
  clear HF hb3
  go_wp2_with fail
  go_ret2
  exact ⟨⟨N2, rfl⟩, hb3'.out⟩

/-- LVAsNumber of a text that parseNumber refuses. -/
theorem lva_bad (s : ByteArray) (w : World) (hP : Calls Tryd.prog 20 #[.string s] w fun e w' => (∃ N : Nat, e = .returned (.tuple #[.float .f64 0, .iface 74 (.pointer (some ⟨N, 0, none⟩))])) ∧ Below w.heap.size w w') :
    Calls Tryd.prog 9 #[.iface 26 (.string s)] w fun e w' => e = .returned (.float .f64 0) ∧ Below w.heap.size w w' := by
  have HP := Lib.hid hP
  have a1 := as24
  have a2 := as26
  have hnn : ∀ (p : Value) (W : World), (binOp .eql 37 (.iface 74 p) .nilIface).run Tryd.prog W = .ok (.bool false) W := fun p W => by kernel_rfl
  clear hP
  go_enter Tryd.func9, Tryd.ntmps9
  go_wp2_with fail
  refine HP.out.mono ?_
  rintro e w1 ⟨⟨N, rfl⟩, hb⟩
  have hb' := Lib.hid hb
  clear hb HP
  go_wp2_with fail
  go_ret
  exact ⟨rfl, hb'.out⟩

theorem num_no (c : UInt8) (h1 : ¬ (48 ≤ c.toNat ∧ c.toNat ≤ 57)) (h2 : ¬ (97 ≤ c.toNat ∧ c.toNat ≤ 102)) (h3 : ¬ (65 ≤ c.toNat ∧ c.toNat ≤ 70))
    (h : ¬ c.toNat = 105 ∧ ¬ c.toNat = 73 ∧ ¬ c.toNat = 110 ∧ ¬ c.toNat = 78 ∧ ¬ c.toNat = 111 ∧ ¬ c.toNat = 79 ∧ ¬ c.toNat = 112 ∧ ¬ c.toNat = 80 ∧ ¬ c.toNat = 116 ∧ ¬ c.toNat = 84 ∧ ¬ c.toNat = 120 ∧ ¬ c.toNat = 88 ∧ ¬ c.toNat = 121 ∧ ¬ c.toNat = 89 ∧ ¬ c.toNat = 46 ∧ ¬ c.toNat = 43 ∧ ¬ c.toNat = 45 ∧ ¬ c.toNat = 95 ∧ ¬ c.toNat = 32 ∧ ¬ c.toNat = 9 ∧ ¬ c.toNat = 10) : num c = false := by
  have hc : ([105, 73, 110, 78, 111, 79, 112, 80, 116, 84, 120, 88, 121, 89, 46, 43, 45, 95, 32, 9, 10] : List Nat).contains c.toNat = false := by
    simp only [List.contains_cons, List.contains_nil, Bool.or_false, Bool.or_eq_false_iff, beq_eq_false_iff_ne, ne_eq]
    omega
  unfold num
  rw [hc]
  simp
  omega

def NumB (c : UInt8) (e : Ending) : Prop := ∃ b, e = .returned (.bool b) ∧ (b = false → num c = false)

theorem numeral_any (c : UInt8) (w : World) : Calls Tryd.prog 19 #[.int .u8 c.toNat] w fun e w' => NumB c e ∧ w = w' := by
  have hc256 : c.toNat < 256 := c.toNat_lt
  go_enter Tryd.func19, Tryd.ntmps19
  go_wp2_with fail
  all_goals
    go_ret
    first
      | exact ⟨⟨true, rfl, fun h => by cases h⟩, rfl⟩
      | (refine ⟨⟨false, rfl, fun _ => ?_⟩, rfl⟩
         simp only [beq_eq_false_iff_ne, ne_eq] at *
         exact num_no c (by omega) (by omega) (by omega) (by omega))

theorem has_foreign (s : ByteArray) (hs : s.size ≤ 1073741824) (w : World) :
    Calls Tryd.prog 8 #[.string s] w fun e w' => Tells (HasForeign s) e ∧ w = w' := by
  go_enter Tryd.func8, Tryd.ntmps8
  go_wp2_with fail
  go_loop [3] (fun i => ∃ p : Nat, i = .int .i64 p ∧ p ≤ s.size) (fun i => s.size - (intOf i).toNat)
  case atStart => exact ⟨0, rfl, by omega⟩
  case round =>
    obtain ⟨p, rfl, hp⟩ := hrel
    by_cases hlt : p < s.size
    · obtain ⟨c, hc⟩ : ∃ c, s[p] = c := ⟨_, rfl⟩
      have hm : c ∈ s.data.toList := by
        rw [← hc]
        exact List.getElem_mem (l := s.data.toList) (by rw [← Lib.size_eq]; exact hlt)
      have HN := Lib.hid (numeral_any c)
      go_wp2_with (go_at_call 19; refine (HN.out w).mono ?_; rintro e w' ⟨⟨b, rfl, hb⟩, rfl⟩)
      · rename_i hbf
        go_ret
        exact ⟨⟨true, rfl, fun _ => ⟨c, hm, hb (by simpa using hbf)⟩⟩, rfl⟩
      · go_round
        case rel => exact ⟨p + 1, by go_num, by omega⟩
        case measure => simp [intOf]; omega
    · obtain rfl : p = s.size := by omega
      go_wp2_with fail
      go_ret
      exact ⟨⟨false, rfl, fun h => by cases h⟩, rfl⟩

theorem bytes7 (s : ByteArray) (w : World) :
    Calls Tryd.prog 7 #[.string s] w fun e w' => e = .returned (.bool (decide (s.size ≤ 1048576))) ∧ w = w' := by
  by_cases h : s.size ≤ 1048576
  · have h2 : ¬ (1048576 : Int) < (s.size : Int) := by omega
    have hd : decide (s.size ≤ 1048576) = true := by simpa using h
    rw [hd]
    clear hd h
    go_enter Tryd.func7, Tryd.ntmps7
    go_wp2
    go_ret
    exact ⟨rfl, rfl⟩
  · have h2 : (1048576 : Int) < (s.size : Int) := by omega
    have hd : decide (s.size ≤ 1048576) = false := by simpa using h
    rw [hd]
    clear hd h
    go_enter Tryd.func7, Tryd.ntmps7
    go_wp2
    go_ret
    exact ⟨rfl, rfl⟩

theorem for_main (s : ByteArray) (w : World) (hE : Errs w) (hG : Globs w) :
    Calls Tryd.prog 3 #[.string s] w fun e w' => e = .returned (.bool true) ∧ Below w.heap.size w w' := by
  have HB := Lib.hid (bytes7 s w)
  by_cases hsz : s.size ≤ 1048576
  · have hd : decide (s.size ≤ 1048576) = true := by simpa using hsz
    rw [hd] at HB
    have hs2 : ¬ (1048576 : Int) < (s.size : Int) := by omega
    have HF := Lib.hid (has_foreign s (by omega) w)
    have HL := Lib.hid (fun hf => lva_bad s w (pn_foreign s w (by omega) hE hG hf))
    have zz : ∀ W : World, (binOp .eql 24 (.float .f64 0) (.float .f64 0)).run Tryd.prog W = .ok (.bool true) W := fun W => by kernel_rfl
    clear hE hG hd hsz
    go_enter Tryd.func3, Tryd.ntmps3
    go_wp2_with (go_at_call 7; refine HB.out.mono ?_; rintro e w' ⟨rfl, rfl⟩)
    refine HF.out.mono ?_
    rintro e w' ⟨⟨r, rfl, hr⟩, rfl⟩
    clear HF HB
    cases r with
    | false =>
      clear hr HL
      go_wp2_with fail
      go_ret
      exact ⟨rfl, Below.refl _ _⟩
    | true =>
      have HL' := Lib.hid (HL.out (hr rfl))
      clear hr HL
      go_wp2_with fail
      refine HL'.out.mono ?_
      rintro e w2 ⟨rfl, hb2⟩
      have hf := Lib.hid hb2
      clear hb2 HL'
      go_wp2_with fail
      go_ret
      exact ⟨rfl, hf.out⟩
  · have hd : decide (s.size ≤ 1048576) = false := by simpa using hsz
    rw [hd] at HB
    clear hd hsz hE hG
    go_enter Tryd.func3, Tryd.ntmps3
    go_wp2_with (go_at_call 7; refine HB.out.mono ?_; rintro e w' ⟨rfl, rfl⟩)
    go_ret
    exact ⟨rfl, Below.refl _ _⟩
end Go.Proofs.YtjaibjdhfljmmaaDoor
