/-
  underscoreOK, whatever the text: it returns a bool and turns nothing.
-/
import Derived.Test.YtjaibjdhfljmmaaDoorNoFloat
import Derived.Laws.BitsAllLaws
namespace Go.Proofs.YtjaibjdhfljmmaaDoor
open Go.RowKit
set_option maxRecDepth 100000
set_option maxHeartbeats 1000000

def Yields (e : Ending) : Prop := ∃ b : Bool, e = .returned (.bool b)

theorem lower_name (c : UInt8) (w : World) : ∃ L : Nat, L < 256 ∧ Calls Tryd.prog 39 #[.int .u8 c.toNat] w fun e w' => e = .returned (.int .u8 L) ∧ w = w' := by
  have hv0 := bits_lo_u8 .or (c.toNat : Int) 32
  have hv1 := bits_hi_u8 .or (c.toNat : Int) 32
  refine ⟨(bits .or .u8 (c.toNat : Int) 32).toNat, by omega, ?_⟩
  rw [show (((bits .or .u8 (c.toNat : Int) 32).toNat : Nat) : Int) = bits .or .u8 (c.toNat : Int) 32 by omega]
  exact lower_any _ w

theorem uok_any (s : ByteArray) (hs : s.size ≤ 1073741824) (w : World) :
    Calls Tryd.prog 40 #[.string s] w fun e w' => Yields e ∧ w = w' := by
  go_enter Tryd.func40, Tryd.ntmps40
  go_upto_region 3 with fail
  go_cut [18] (fun t wx => ∃ b : Bool, t = .bool b ∧ Hid (w = wx) ∧ Hid (b = true → 1 ≤ s.size))
  case first =>
    by_cases h1 : 1 ≤ s.size
    · have h1' : (1 : Int) ≤ (s.size : Int) := by omega
      have hx := Lib.hid h1
      have h0 : 0 < s.size := by omega
      obtain ⟨c, hc⟩ : ∃ c, s[0] = c := ⟨_, rfl⟩
      by_cases h45 : c = 45
      · have e1 : ((c.toNat : Int) == 45) = true := by rw [h45]; rfl
        clear h45
        go_wp2_with fail
        go_meet
        case rel => exact ⟨true, rfl, Lib.hid rfl, Lib.hid (fun _ => hx.out)⟩
      have e1 := beq_no c 45 h45
      change (_ == (45 : Int)) = _ at e1
      by_cases h43 : c = 43
      · have e2 : ((c.toNat : Int) == 43) = true := by rw [h43]; rfl
        clear h45 h43
        go_wp2_with fail
        go_meet
        case rel => exact ⟨true, rfl, Lib.hid rfl, Lib.hid (fun _ => hx.out)⟩
      have e2 := beq_no c 43 h43
      change (_ == (43 : Int)) = _ at e2
      clear h45 h43
      go_wp2_with fail
      go_meet
      case rel => exact ⟨false, rfl, Lib.hid rfl, Lib.hid (fun h => by cases h)⟩
    · have h1' : ¬ (1 : Int) ≤ (s.size : Int) := by omega
      go_wp2_with fail
      go_meet
      case rel => exact ⟨false, rfl, Lib.hid rfl, Lib.hid (fun h => by cases h)⟩
  case rest =>
    obtain ⟨b, rfl, hw, hb⟩ := hcut
    have hw' := hw.out
    subst hw'
    clear hw
    go_upto_if 18 with fail
    go_cut [0] (fun t wx => ∃ u : ByteArray, t = .string u ∧ Hid (w = wx) ∧ u.size ≤ 1073741824)
    case first =>
      cases b with
      | false =>
        go_wp2_with fail
        go_meet
        case rel => exact ⟨s, rfl, Lib.hid rfl, hs⟩
      | true =>
        have h1 := hb.out rfl
        have h1' : (1 : Int) ≤ (s.size : Int) := by omega
        have hz : (s.extract 1 s.size).size ≤ 1073741824 := by
          have e : (s.extract 1 s.size).data.toList = s.data.toList.drop 1 := by rw [Lib.extract_data, List.take_of_length_le (by simp)]
          rw [Lib.size_eq, e, List.length_drop, ← Lib.size_eq]
          omega
        clear hb
        go_wp2_with fail
        go_meet
        case rel => exact ⟨_, rfl, Lib.hid rfl, hz⟩
    case rest =>
      obtain ⟨u, rfl, hw, hus⟩ := hcut
      have hw' := hw.out
      subst hw'
      clear hw hb hs
      go_upto_region 6 with fail
      go_cut [46] (fun t wx => ∃ b : Bool, t = .bool b ∧ Hid (w = wx) ∧ Hid (b = true → 2 ≤ u.size))
      case first =>
        by_cases h2 : 2 ≤ u.size
        · have h2' : (2 : Int) ≤ (u.size : Int) := by omega
          have hx := Lib.hid h2
          obtain ⟨c, hc⟩ : ∃ c, u[0] = c := ⟨_, rfl⟩
          obtain ⟨L, hL, HL⟩ := lower_name u[1] w
          have HL' := Lib.hid HL
          clear HL
          by_cases h48 : c = 48
          · have e1 : ((c.toNat : Int) == 48) = true := by rw [h48]; rfl
            clear h48
            by_cases h98 : L = 98
            · have e2 : ((L : Int) == 98) = true := by rw [h98]; rfl
              clear h98
              go_wp2_with (go_at_call 39; refine HL'.out.mono ?_; rintro e w' ⟨rfl, rfl⟩)
              go_meet
              case rel => exact ⟨true, rfl, Lib.hid rfl, Lib.hid (fun _ => hx.out)⟩
            have e2 : ((L : Int) == 98) = false := by rw [beq_eq_false_iff_ne]; omega
            by_cases h111 : L = 111
            · have e3 : ((L : Int) == 111) = true := by rw [h111]; rfl
              clear h98 h111
              go_wp2_with (go_at_call 39; refine HL'.out.mono ?_; rintro e w' ⟨rfl, rfl⟩)
              go_meet
              case rel => exact ⟨true, rfl, Lib.hid rfl, Lib.hid (fun _ => hx.out)⟩
            have e3 : ((L : Int) == 111) = false := by rw [beq_eq_false_iff_ne]; omega
            by_cases h120 : L = 120
            · have e4 : ((L : Int) == 120) = true := by rw [h120]; rfl
              clear h98 h111 h120
              go_wp2_with (go_at_call 39; refine HL'.out.mono ?_; rintro e w' ⟨rfl, rfl⟩)
              go_meet
              case rel => exact ⟨true, rfl, Lib.hid rfl, Lib.hid (fun _ => hx.out)⟩
            · have e4 : ((L : Int) == 120) = false := by rw [beq_eq_false_iff_ne]; omega
              clear h98 h111 h120
              go_wp2_with (go_at_call 39; refine HL'.out.mono ?_; rintro e w' ⟨rfl, rfl⟩)
              go_meet
              case rel => exact ⟨false, rfl, Lib.hid rfl, Lib.hid (fun h => by cases h)⟩
          · have e1 := beq_no c 48 h48
            change (_ == (48 : Int)) = _ at e1
            clear h48
            go_wp2_with fail
            go_meet
            case rel => exact ⟨false, rfl, Lib.hid rfl, Lib.hid (fun h => by cases h)⟩
        · have h2' : ¬ (2 : Int) ≤ (u.size : Int) := by omega
          go_wp2_with fail
          go_meet
          case rel => exact ⟨false, rfl, Lib.hid rfl, Lib.hid (fun h => by cases h)⟩
      case rest =>
        obtain ⟨b, rfl, hw, hb⟩ := hcut
        have hw' := hw.out
        subst hw'
        clear hw
        go_upto_if 46 with fail
        go_cut [3, 4, 5] (fun a i x wx => ∃ (z : Int) (k : Nat) (hx : Bool), a = .int .i32 z ∧ i = .int .i64 k ∧ x = .bool hx ∧ k ≤ u.size ∧ Hid (w = wx))
        case first =>
          cases b with
          | false =>
            go_wp2_with fail
            go_meet
            case rel => exact ⟨94, 0, false, rfl, rfl, rfl, by omega, Lib.hid rfl⟩
          | true =>
            have h2 := hb.out rfl
            have h2' : (2 : Int) ≤ (u.size : Int) := by omega
            obtain ⟨L, hL, HL⟩ := lower_name u[1] w
            have HL' := Lib.hid HL
            clear HL hb
            go_wp2_with (go_at_call 39; refine HL'.out.mono ?_; rintro e w' ⟨rfl, rfl⟩)
            go_meet
            case rel => exact ⟨48, 2, _, rfl, rfl, rfl, h2, Lib.hid rfl⟩
        case rest =>
          obtain ⟨z, k, hx, rfl, rfl, rfl, hk, hw⟩ := hcut
          have hw' := hw.out
          subst hw'
          clear hw hb
          go_wp2_with fail
          go_loop [3, 4] (fun a i => ∃ (z : Int) (k : Nat), a = .int .i32 z ∧ i = .int .i64 k ∧ k ≤ u.size) (fun _ i => u.size - (intOf i).toNat)
          case atStart => exact ⟨z, k, rfl, rfl, hk⟩
          case round =>
            obtain ⟨z, k, rfl, rfl, hk⟩ := hrel
            by_cases hlt : k < u.size
            · obtain ⟨c, hc⟩ : ∃ c, u[k] = c := ⟨_, rfl⟩
              obtain ⟨L, hL, HL⟩ := lower_name c w
              have HL' := Lib.hid HL
              have hc256 : c.toNat < 256 := c.toNat_lt
              clear HL
              go_upto_region 12 with fail
              go_cut [83] (fun t wx => ∃ b : Bool, t = .bool b ∧ Hid (w = wx))
              case first =>
                by_cases h48 : 48 ≤ c.toNat
                · have f1 : (48 : Int) ≤ (c.toNat : Int) := by omega
                  by_cases h57 : c.toNat ≤ 57
                  · have f2 : (c.toNat : Int) ≤ 57 := by omega
                    go_wp2_with fail
                    go_meet
                    case rel => exact ⟨_, rfl, Lib.hid rfl⟩
                  · have f2 : ¬ (c.toNat : Int) ≤ 57 := by omega
                    cases hx with
                    | false =>
                      go_wp2_with fail
                      go_meet
                      case rel => exact ⟨_, rfl, Lib.hid rfl⟩
                    | true =>
                      by_cases h97 : (97 : Int) ≤ (L : Int)
                      · go_wp2_with (go_at_call 39; refine HL'.out.mono ?_; rintro e w' ⟨rfl, rfl⟩)
                        go_meet
                        case rel => exact ⟨_, rfl, Lib.hid rfl⟩
                      · go_wp2_with (go_at_call 39; refine HL'.out.mono ?_; rintro e w' ⟨rfl, rfl⟩)
                        go_meet
                        case rel => exact ⟨_, rfl, Lib.hid rfl⟩
                · have f1 : ¬ (48 : Int) ≤ (c.toNat : Int) := by omega
                  cases hx with
                  | false =>
                    go_wp2_with fail
                    go_meet
                    case rel => exact ⟨_, rfl, Lib.hid rfl⟩
                  | true =>
                    by_cases h97 : (97 : Int) ≤ (L : Int)
                    · go_wp2_with (go_at_call 39; refine HL'.out.mono ?_; rintro e w' ⟨rfl, rfl⟩)
                      go_meet
                      case rel => exact ⟨_, rfl, Lib.hid rfl⟩
                    · go_wp2_with (go_at_call 39; refine HL'.out.mono ?_; rintro e w' ⟨rfl, rfl⟩)
                      go_meet
                      case rel => exact ⟨_, rfl, Lib.hid rfl⟩
              case rest =>
                obtain ⟨b, rfl, hw⟩ := hcut
                have hw' := hw.out
                subst hw'
                clear hw HL'
                cases b with
                | true =>
                  go_wp2_with fail
                  go_round
                  case rel => exact ⟨48, k + 1, rfl, by go_num, by omega⟩
                  case measure => simp [intOf]; omega
                | false =>
                  by_cases h95 : c = 95
                  · have e1 : ((c.toNat : Int) == 95) = true := by rw [h95]; rfl
                    clear h95
                    by_cases hz : z = 48
                    · subst hz
                      go_wp2_with fail
                      go_round
                      case rel => exact ⟨95, k + 1, rfl, by go_num, by omega⟩
                      case measure => simp [intOf]; omega
                    · have e2 : (z != 48) = true := by simpa using hz
                      clear hz
                      go_wp2_with fail
                      go_ret
                      exact ⟨⟨_, rfl⟩, rfl⟩
                  · have e1 := beq_no c 95 h95
                    change (_ == (95 : Int)) = _ at e1
                    clear h95
                    by_cases hz : z = 95
                    · subst hz
                      go_wp2_with fail
                      go_ret
                      exact ⟨⟨_, rfl⟩, rfl⟩
                    · have e2 : (z == 95) = false := by simpa using hz
                      clear hz
                      go_wp2_with fail
                      go_round
                      case rel => exact ⟨33, k + 1, rfl, by go_num, by omega⟩
                      case measure => simp [intOf]; omega
            · obtain rfl : k = u.size := by omega
              go_wp2_with fail
              go_ret
              exact ⟨⟨_, rfl⟩, rfl⟩
end Go.Proofs.YtjaibjdhfljmmaaDoor
