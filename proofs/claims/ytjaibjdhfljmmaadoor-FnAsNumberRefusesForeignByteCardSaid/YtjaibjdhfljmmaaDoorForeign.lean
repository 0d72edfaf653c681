/-
  ParseUint at base 0, 64 bits, at every text that holds a byte that no numeral holds: an error.
-/
import Derived.Test.YtjaibjdhfljmmaaDoorParse
import Derived.Laws.BitsAllLaws
import Derived.Test.YtjaibjdhfljmmaaDoorNumeral
namespace Go.Proofs.YtjaibjdhfljmmaaDoor
open Go.RowKit
set_option maxRecDepth 100000
set_option maxHeartbeats 1000000

/-- The bytes that a numeral may hold. -/
def num (c : UInt8) : Bool := (48 ≤ c.toNat && c.toNat ≤ 57) || (97 ≤ c.toNat && c.toNat ≤ 102) || (65 ≤ c.toNat && c.toNat ≤ 70) || [105, 73, 110, 78, 111, 79, 112, 80, 116, 84, 120, 88, 121, 89, 46, 43, 45, 95, 32, 9, 10].contains c.toNat

def Foreign (l : List UInt8) : Prop := ∃ x ∈ l, num x = false

/-- The byte with bit 32 set. -/
def low (c : Nat) : Nat := c ||| 32
theorem low_bits (c : UInt8) : bits .or .u8 (c.toNat : Int) 32 = (low c.toNat : Int) := by
  have := u8_or_nat c.toNat 32 c.toNat_lt (by decide)
  exact this
theorem low_lt (c : UInt8) : low c.toNat < 256 := by
  unfold low
  exact Nat.or_lt_two_pow (n := 8) c.toNat_lt (by decide)

theorem by_256 {P : Nat → Prop} [DecidablePred P] (h : (List.range 256).all (fun n => decide (P n)) = true) (n : Nat) (hn : n < 256) : P n := by
  have := List.all_eq_true.1 h n (List.mem_range.2 hn)
  simpa using this

theorem low_foreign (c : UInt8) (h : num c = false) : ¬ (48 ≤ c.toNat ∧ c.toNat ≤ 57) ∧ ¬ c = 95 ∧ ¬ (97 ≤ low c.toNat ∧ low c.toNat ≤ 102) := by
  have key : ∀ n, n < 256 → ((48 ≤ n && n ≤ 57) || (97 ≤ n && n ≤ 102) || (65 ≤ n && n ≤ 70) || [105, 73, 110, 78, 111, 79, 112, 80, 116, 84, 120, 88, 121, 89, 46, 43, 45, 95, 32, 9, 10].contains n) = false → ¬ (48 ≤ n ∧ n ≤ 57) ∧ ¬ n = 95 ∧ ¬ (97 ≤ low n ∧ low n ≤ 102) := by_256 (by decide)
  obtain ⟨h1, h2, h3⟩ := key c.toNat c.toNat_lt h
  exact ⟨h1, fun e => h2 (by rw [e]; rfl), h3⟩

theorem low_prefix (c : UInt8) (h : low c.toNat = 98 ∨ low c.toNat = 111 ∨ low c.toNat = 120) : num c = true := by
  have key : ∀ n, n < 256 → low n = 98 ∨ low n = 111 ∨ low n = 120 → ((48 ≤ n && n ≤ 57) || (97 ≤ n && n ≤ 102) || (65 ≤ n && n ≤ 70) || [105, 73, 110, 78, 111, 79, 112, 80, 116, 84, 120, 88, 121, 89, 46, 43, 45, 95, 32, 9, 10].contains n) = true := by_256 (by decide)
  unfold num
  by_cases h' : low c.toNat = 98 ∨ low c.toNat = 111 ∨ low c.toNat = 120
  · exact key c.toNat c.toNat_lt h
  · exact absurd h h'

theorem lower_low (c : UInt8) (w : World) : Calls Tryd.prog 39 #[.int .u8 c.toNat] w fun e w' => e = .returned (.int .u8 (low c.toNat)) ∧ w = w' := by
  rw [← low_bits]
  exact lower_any _ w

theorem foreign_drop (t u : ByteArray) (k : Nat) (hu : t.extract k t.size = u) (hp : ∀ x ∈ t.data.toList.take k, num x = true) (hf : Foreign t.data.toList) : Foreign u.data.toList := by
  have : u.data.toList = t.data.toList.drop k := by rw [← hu, Lib.extract_data, List.take_of_length_le (by simp)]
  rw [this]
  obtain ⟨x, hx, hn⟩ := hf
  rw [← List.take_append_drop k t.data.toList] at hx
  rcases List.mem_append.1 hx with hx | hx
  · rw [hp x hx] at hn; cases hn
  · exact ⟨x, hx, hn⟩

theorem drop_size (t u : ByteArray) (k : Nat) (hu : t.extract k t.size = u) : u.size ≤ t.size := by
  have : u.data.toList = t.data.toList.drop k := by rw [← hu, Lib.extract_data, List.take_of_length_le (by simp)]
  rw [Lib.size_eq, this, List.length_drop, ← Lib.size_eq]
  omega

theorem take_one (t : ByteArray) (h : 0 < t.size) : t.data.toList.take 1 = [t[0]] := by
  obtain ⟨⟨l⟩⟩ := t
  cases l with
  | nil => exact absurd h (by decide)
  | cons a r => rfl
theorem take_two (t : ByteArray) (h : 1 < t.size) : t.data.toList.take 2 = [t[0], t[1]] := by
  obtain ⟨⟨l⟩⟩ := t
  cases l with
  | nil => exact absurd h (by decide)
  | cons a r =>
    cases r with
    | nil => exact absurd (show 1 < 1 from h) (by decide)
    | cons b r => rfl

theorem pu_foreign (t : ByteArray) (hne : 0 < t.size) (hmax : t.size ≤ 1073741824) (hf : Foreign t.data.toList) (w : World) :
    Calls Tryd.prog 33 #[.string t, .int .i64 0, .int .i64 64] w fun e w' => PuErr e ∧ Below w.heap.size w w' := by
  have hemp := nonempty_of hne
  have hf' := Lib.hid hf
  clear hf
  go_enter Tryd.func33, Tryd.ntmps33
  go_upto_block 0 with fail
  go_cut [0, 1] (fun a b wx => ∃ (z : Int) (u : ByteArray), a = .string u ∧ b = .int .i64 z ∧ 2 ≤ z ∧ z ≤ 16 ∧ u.size ≤ 1073741824 ∧ Hid (w = wx) ∧ Hid (Foreign u.data.toList))
  case first =>
    by_cases h0 : t[0] = 48
    · have q0 : (((t[0]).toNat : Int) == 48) = true := by rw [h0]; rfl
      have ht1 : ∀ (u : ByteArray), t.extract 1 t.size = u → Foreign u.data.toList ∧ u.size ≤ 1073741824 := fun u hu => ⟨foreign_drop t u 1 hu (fun x hx => by
          have : t.data.toList.take 1 = [t[0]] := take_one t hne
          rw [this, h0] at hx
          simp at hx
          subst hx
          rfl) hf'.out, Nat.le_trans (drop_size t u 1 hu) hmax⟩
      obtain ⟨ff1, fs1⟩ := ht1 _ rfl
      have ff1' := Lib.hid ff1
      clear ht1 ff1
      by_cases h3 : 3 ≤ t.size
      · have h3' : (3 : Int) ≤ (t.size : Int) := by omega
        have HL := Lib.hid (fun W : World => lower_low t[1] W)
        obtain ⟨L, hL⟩ : ∃ L, low t[1].toNat = L := ⟨_, rfl⟩
        rw [hL] at HL
        have hL256 : L < 256 := by rw [← hL]; exact low_lt _
        have fs2 := Nat.le_trans (drop_size t _ 2 rfl) hmax
        have ff2 := Lib.hid (fun (h : L = 98 ∨ L = 111 ∨ L = 120) => foreign_drop t _ 2 rfl (fun x hx => by
          have e : t.data.toList.take 2 = [t[0], t[1]] := take_two t (by omega)
          rw [e] at hx
          simp at hx
          rcases hx with rfl | rfl
          · rw [h0]; rfl
          · exact low_prefix _ (by rw [hL]; exact h)) hf'.out)
        clear hL h0
        by_cases h98 : L = 98
        · have e1 : ((L : Int) == 98) = true := by rw [h98]; rfl
          have ff := Lib.hid (ff2.out (Or.inl h98))
          clear h98 ff2
          go_wp2_with (go_at_call 39; refine (HL.out _).mono ?_; rintro e w' ⟨rfl, rfl⟩)
          go_meet
          case rel => exact ⟨2, _, rfl, rfl, by omega, by omega, fs2, Lib.hid rfl, ff⟩
        by_cases h111 : L = 111
        · have e1 : ((L : Int) == 98) = false := by rw [h111]; rfl
          have e2 : ((L : Int) == 111) = true := by rw [h111]; rfl
          have ff := Lib.hid (ff2.out (Or.inr (Or.inl h111)))
          clear h98 h111 ff2
          go_wp2_with (go_at_call 39; refine (HL.out _).mono ?_; rintro e w' ⟨rfl, rfl⟩)
          go_meet
          case rel => exact ⟨8, _, rfl, rfl, by omega, by omega, fs2, Lib.hid rfl, ff⟩
        by_cases h120 : L = 120
        · have e1 : ((L : Int) == 98) = false := by rw [h120]; rfl
          have e2 : ((L : Int) == 111) = false := by rw [h120]; rfl
          have e3 : ((L : Int) == 120) = true := by rw [h120]; rfl
          have ff := Lib.hid (ff2.out (Or.inr (Or.inr h120)))
          clear h98 h111 h120 ff2
          go_wp2_with (go_at_call 39; refine (HL.out _).mono ?_; rintro e w' ⟨rfl, rfl⟩)
          go_meet
          case rel => exact ⟨16, _, rfl, rfl, by omega, by omega, fs2, Lib.hid rfl, ff⟩
        · have e1 : ((L : Int) == 98) = false := by rw [beq_eq_false_iff_ne]; omega
          have e2 : ((L : Int) == 111) = false := by rw [beq_eq_false_iff_ne]; omega
          have e3 : ((L : Int) == 120) = false := by rw [beq_eq_false_iff_ne]; omega
          clear h98 h111 h120 ff2
          go_wp2_with (go_at_call 39; refine (HL.out _).mono ?_; rintro e w' ⟨rfl, rfl⟩)
          go_meet
          case rel => exact ⟨8, _, rfl, rfl, by omega, by omega, fs1, Lib.hid rfl, ff1'⟩
      · have h3' : ¬ (3 : Int) ≤ (t.size : Int) := by omega
        clear h0 h3
        go_wp2_with fail
        go_meet
        case rel => exact ⟨8, _, rfl, rfl, by omega, by omega, fs1, Lib.hid rfl, ff1'⟩
    · have q0 := beq_no t[0] 48 h0
      change (_ == (48 : Int)) = _ at q0
      clear h0
      go_wp2_with fail
      go_meet
      case rel => exact ⟨10, t, rfl, rfl, by omega, by omega, hmax, Lib.hid rfl, hf'⟩
  case rest =>
    obtain ⟨b, u, rfl, rfl, hb1, hb2, hus, hw, hfu⟩ := hcut
    have hw' := hw.out
    subst hw'
    clear hw hf'
    go_upto_block 2 with fail
    go_cut [10] (fun c wx => ∃ z : Int, c = .int .u64 z ∧ Hid (w = wx))
    case first =>
      by_cases h10 : b = 10
      · subst h10
        go_wp2_with fail
        go_meet
        case rel => exact ⟨_, rfl, Lib.hid rfl⟩
      by_cases h16 : b = 16
      · subst h16
        go_wp2_with fail
        go_meet
        case rel => exact ⟨_, rfl, Lib.hid rfl⟩
      · have e1 : (b == 10) = false := by rw [beq_eq_false_iff_ne]; exact h10
        have e2 : (b == 16) = false := by rw [beq_eq_false_iff_ne]; exact h16
        have e0 : ¬ b = 0 := by omega
        clear h10 h16
        go_wp2_with fail
        go_meet
        case rel => exact ⟨_, rfl, Lib.hid rfl⟩
    case rest =>
      obtain ⟨cut, rfl, hw⟩ := hcut
      have hw' := hw.out
      subst hw'
      clear hw
      have hcv := Lib.run_convert_string_bytes (P := Tryd.prog) w 9 41 5 u (u := .string) Tryd.underlying9 Tryd.underlying41 Tryd.underlying5
      have hB := Lib.hid (fun j (hj : j < u.size) => Lib.bytesWorld_cell w 5 u j hj)
      have hbel := Lib.hid (bytes_below w u)
      obtain ⟨W1, hW1⟩ : ∃ W1, W1 = Lib.bytesWorld w 5 u := ⟨_, rfl⟩
      rw [← hW1] at hcv hB hbel
      clear hW1
      have hmv := hmv64
      go_wp2_with fail
      go_loop [12, 13, 101] (fun vu vn vi => ∃ (k : Nat) (a : Int) (us : Bool), k ≤ u.size ∧ vu = .bool us ∧ vn = .int .u64 a ∧ vi = .int .i64 k ∧ Hid (Foreign (u.data.toList.drop k))) (fun _ _ vi => u.size - (intOf vi).toNat)
      case atStart => exact ⟨0, 0, false, by omega, rfl, rfl, rfl, hfu⟩
      case round =>
        obtain ⟨k, a, us, hk, rfl, rfl, rfl, hh⟩ := hrel
        by_cases hlt : k < u.size
        · have hl : k < u.data.toList.length := by rw [← Lib.size_eq]; exact hlt
          have hc := hB.out k hlt
          rw [getD_lt hl] at hc
          have hdr := Lib.hid (List.drop_eq_getElem_cons hl)
          generalize u.data.toList[k] = c at hc hdr
          have hc256 : c.toNat < 256 := c.toNat_lt
          obtain ⟨L, hL⟩ : ∃ L, low c.toNat = L := ⟨_, rfl⟩
          have HL := Lib.hid (fun W : World => lower_low c W)
          rw [hL] at HL
          have hL256 : L < 256 := by rw [← hL]; exact low_lt _
          have hnext : Hid (num c = true → Foreign (u.data.toList.drop (k + 1))) := Lib.hid (fun hn => by
            obtain ⟨x, hx, hxn⟩ := hh.out
            rw [hdr.out] at hx
            rcases List.mem_cons.1 hx with rfl | hx
            · rw [hn] at hxn; cases hxn
            · exact ⟨x, hx, hxn⟩)
          have hbad : Hid (num c = false → ¬ (48 ≤ c.toNat ∧ c.toNat ≤ 57) ∧ ¬ c = 95 ∧ ¬ (97 ≤ L ∧ L ≤ 102)) := Lib.hid (fun hn => by rw [← hL]; exact low_foreign c hn)
          clear hh hL
          by_cases h95 : c = 95
          · have e1 : ((c.toNat : Int) == 95) = true := by rw [h95]; rfl
            have hn := Lib.hid (hnext.out (by rw [h95]; rfl))
            clear h95 hnext hbad
            go_wp2_with fail
            go_round
            case rel => exact ⟨k + 1, a, true, by omega, rfl, rfl, by go_num, hn⟩
            case measure => simp [intOf]; omega
          have e1 := beq_no c 95 h95
          change (_ == (95 : Int)) = _ at e1
          clear h95
          by_cases hdig : 48 ≤ c.toNat ∧ c.toNat ≤ 57
          · have h48 : (48 : Int) ≤ (c.toNat : Int) := by omega
            have h57 : (c.toNat : Int) ≤ 57 := by omega
            have hn : Hid (Foreign (u.data.toList.drop (k + 1))) := Lib.hid (hnext.out (by
              cases hc : num c with
              | true => rfl
              | false => exact absurd hdig (hbad.out hc).1))
            clear hdig hnext hbad
            by_cases hdb : b ≤ (c.toNat : Int) - 48
            · go_wp2_with fail
              go_ret2
              exact ⟨Or.inr rfl, hbel.out⟩
            by_cases hcut : cut ≤ a
            · go_wp2_with fail
              go_ret2
              exact ⟨Or.inl rfl, hbel.out⟩
            go_wp2_with fail
            all_goals first
              | (go_ret2
                 exact ⟨Or.inl rfl, hbel.out⟩)
              | (go_round
                 case rel => exact ⟨k + 1, _, us, by omega, rfl, rfl, by go_num, hn⟩
                 case measure => simp [intOf]; omega)
          by_cases h48 : 48 ≤ c.toNat
          · have h48' : (48 : Int) ≤ (c.toNat : Int) := by omega
            have h57' : ¬ (c.toNat : Int) ≤ 57 := by omega
            clear hdig h48
            by_cases hlo : 97 ≤ L
            · have g1 : (97 : Int) ≤ (L : Int) := by omega
              by_cases hhi : L ≤ 122
              · have g2 : (L : Int) ≤ 122 := by omega
                by_cases hdb : b ≤ (L : Int) - 97 + 10
                · clear hnext hbad
                  go_wp2_with (go_at_call 39; refine (HL.out _).mono ?_; rintro e w' ⟨rfl, rfl⟩)
                  go_ret2
                  exact ⟨Or.inr rfl, hbel.out⟩
                have hn : Hid (Foreign (u.data.toList.drop (k + 1))) := Lib.hid (hnext.out (by
                  cases hc : num c with
                  | true => rfl
                  | false => exact absurd (show 97 ≤ L ∧ L ≤ 102 by omega) (hbad.out hc).2.2))
                clear hnext hbad
                by_cases hcut : cut ≤ a
                · go_wp2_with (go_at_call 39; refine (HL.out _).mono ?_; rintro e w' ⟨rfl, rfl⟩)
                  go_ret2
                  exact ⟨Or.inl rfl, hbel.out⟩
                go_wp2_with (go_at_call 39; refine (HL.out _).mono ?_; rintro e w' ⟨rfl, rfl⟩)
                all_goals first
                  | (go_ret2
                     exact ⟨Or.inl rfl, hbel.out⟩)
                  | (go_round
                     case rel => exact ⟨k + 1, _, us, by omega, rfl, rfl, by go_num, hn⟩
                     case measure => simp [intOf]; omega)
              · have g2 : ¬ (L : Int) ≤ 122 := by omega
                clear hnext hbad
                go_wp2_with (go_at_call 39; refine (HL.out _).mono ?_; rintro e w' ⟨rfl, rfl⟩)
                go_ret2
                exact ⟨Or.inr rfl, hbel.out⟩
            · have g1 : ¬ (97 : Int) ≤ (L : Int) := by omega
              clear hnext hbad
              go_wp2_with (go_at_call 39; refine (HL.out _).mono ?_; rintro e w' ⟨rfl, rfl⟩)
              go_ret2
              exact ⟨Or.inr rfl, hbel.out⟩
          · have h48' : ¬ (48 : Int) ≤ (c.toNat : Int) := by omega
            clear hdig h48
            by_cases hlo : 97 ≤ L
            · have g1 : (97 : Int) ≤ (L : Int) := by omega
              by_cases hhi : L ≤ 122
              · have g2 : (L : Int) ≤ 122 := by omega
                by_cases hdb : b ≤ (L : Int) - 97 + 10
                · clear hnext hbad
                  go_wp2_with (go_at_call 39; refine (HL.out _).mono ?_; rintro e w' ⟨rfl, rfl⟩)
                  go_ret2
                  exact ⟨Or.inr rfl, hbel.out⟩
                have hn : Hid (Foreign (u.data.toList.drop (k + 1))) := Lib.hid (hnext.out (by
                  cases hc : num c with
                  | true => rfl
                  | false => exact absurd (show 97 ≤ L ∧ L ≤ 102 by omega) (hbad.out hc).2.2))
                clear hnext hbad
                by_cases hcut : cut ≤ a
                · go_wp2_with (go_at_call 39; refine (HL.out _).mono ?_; rintro e w' ⟨rfl, rfl⟩)
                  go_ret2
                  exact ⟨Or.inl rfl, hbel.out⟩
                go_wp2_with (go_at_call 39; refine (HL.out _).mono ?_; rintro e w' ⟨rfl, rfl⟩)
                all_goals first
                  | (go_ret2
                     exact ⟨Or.inl rfl, hbel.out⟩)
                  | (go_round
                     case rel => exact ⟨k + 1, _, us, by omega, rfl, rfl, by go_num, hn⟩
                     case measure => simp [intOf]; omega)
              · have g2 : ¬ (L : Int) ≤ 122 := by omega
                clear hnext hbad
                go_wp2_with (go_at_call 39; refine (HL.out _).mono ?_; rintro e w' ⟨rfl, rfl⟩)
                go_ret2
                exact ⟨Or.inr rfl, hbel.out⟩
            · have g1 : ¬ (97 : Int) ≤ (L : Int) := by omega
              clear hnext hbad
              go_wp2_with (go_at_call 39; refine (HL.out _).mono ?_; rintro e w' ⟨rfl, rfl⟩)
              go_ret2
              exact ⟨Or.inr rfl, hbel.out⟩
        · have := hh.out
          rw [List.drop_eq_nil_of_le (by rw [← Lib.size_eq]; omega)] at this
          obtain ⟨x, hx, _⟩ := this
          cases hx
end Go.Proofs.YtjaibjdhfljmmaaDoor
