/-
  atofHex: it returns a float and an error or nil; the values are left open.
-/
import Derived.Test.YtjaibjdhfljmmaaDoorHexEnd
namespace Go.Proofs.YtjaibjdhfljmmaaDoor
open Go.RowKit
set_option maxRecDepth 1000000
set_option maxHeartbeats 4000000

theorem hex_any (s : ByteArray) (m p : Int) (ng tr : Bool) (w : World) (h0 : 0 ≤ m) (h1 : m < 18446744073709551616) (hF : F64 w) (hA : At53 w) :
    Calls Tryd.prog 49 #[.string s, .pointer (some ⟨5, 0, none⟩), .int .u64 m, .int .i64 p, .bool ng, .bool tr] w fun e w' => FloatEr e ∧ Below w.heap.size w w' := by
  have c0 := hF.mb
  have c1 := hF.eb
  have c2 := hF.bi
  clear hF
  go_enter Tryd.func49, Tryd.ntmps49
  go_wp2_with fail
  go_quiet (fail)
  go_upto_block 0 with fail
  go_cut [2, 3] from 16 (fun a b wx => ∃ y z : Int, a = .int .u64 y ∧ b = .int .i64 z ∧ 0 ≤ y ∧ y < 18446744073709551616 ∧ Hid (w.drewN nq = wx))
  case first =>
    go_wp2_with fail
    go_loop [2, 3] (fun a b => ∃ y z : Int, a = .int .u64 y ∧ b = .int .i64 z ∧ 0 ≤ y ∧ y < 18446744073709551616) (fun a _ => 36028797018963968 - (intOf a).toNat)
    case atStart => exact ⟨_, _, rfl, rfl, h0, h1⟩
    case round =>
      obtain ⟨y, z, rfl, rfl, hy, hy2⟩ := hrel
      by_cases hy0 : y = 0
      · subst hy0
        go_wp2_with fail
        go_meet
        case rel => exact ⟨_, _, rfl, rfl, hy, hy2, Lib.hid rfl⟩
      have e0 : (y != 0) = true := by simpa using hy0
      by_cases hs : y / 18014398509481984 = 0
      · have e1 : (y / 18014398509481984 == 0) = true := by simpa using hs
        have hw : IntKind.u64.wrap (y * 2) = y * 2 := by
          have hd : y < 18014398509481984 := by omega
          exact wrap_is _ (by omega) (by omega)
        go_wp2_with fail
        go_round
        case rel => exact ⟨_, _, rfl, rfl, by omega, by omega⟩
        case measure =>
          simp only [intOf]
          omega
      · have e1 : (y / 18014398509481984 == 0) = false := by simpa using hs
        go_wp2_with fail
        go_meet
        case rel => exact ⟨_, _, rfl, rfl, hy, hy2, Lib.hid rfl⟩
  case rest =>
    obtain ⟨y, z, rfl, rfl, hy, hy2, hw⟩ := hcut
    have hw' := hw.out
    subst hw'
    clear hw h0 h1
    cases tr
    all_goals
      go_upto_block 2 with fail
      go_cut [2, 3] from 16 (fun a b wx => ∃ y z : Int, a = .int .u64 y ∧ b = .int .i64 z ∧ 0 ≤ y ∧ y < 18446744073709551616 ∧ Hid (w.drewN nq = wx))
      case first =>
        go_wp2_with fail
        go_loop [2, 3] (fun a b => ∃ y z : Int, a = .int .u64 y ∧ b = .int .i64 z ∧ 0 ≤ y ∧ y < 18446744073709551616) (fun a _ => (intOf a).toNat)
        case atStart =>
          have hb1 := bits_u .or y 1 (.inl rfl)
          refine ⟨_, _, rfl, rfl, ?_, ?_⟩
          all_goals first | with_reducible exact hy | with_reducible exact hy2 | with_reducible exact hb1.1 | with_reducible exact hb1.2
        case round =>
          obtain ⟨y, z, rfl, rfl, hy, hy2⟩ := hrel
          by_cases hs : y / 36028797018963968 = 0
          · have e1 : (y / 36028797018963968 != 0) = false := by simpa using hs
            go_wp2_with fail
            go_meet
            case rel => exact ⟨_, _, rfl, rfl, hy, hy2, Lib.hid rfl⟩
          · have e1 : (y / 36028797018963968 != 0) = true := by simpa using hs
            go_wp2_with fail
            go_round
            case rel => exact ⟨_, _, rfl, rfl, (bits_u .or (y / 2) (bits .and .u64 y 1) (.inl rfl)).1, (bits_u .or (y / 2) (bits .and .u64 y 1) (.inl rfl)).2⟩
            case measure =>
              exact toNat_lt (bits_u .or (y / 2) (bits .and .u64 y 1) (.inl rfl)).1 (sticky y (by omega) hy2)
      case rest =>
        obtain ⟨y, z, rfl, rfl, hy, hy2, hw⟩ := hcut
        have hw' := hw.out
        subst hw'
        clear hw
        rename_i K9 hk9
        apply hk9
        clear hk9 K9
        go_upto_block 4 with fail
        go_cut [2, 3] from 16 (fun a b wx => ∃ y z : Int, a = .int .u64 y ∧ b = .int .i64 z ∧ 0 ≤ y ∧ y < 18446744073709551616 ∧ Hid (w.drewN nq = wx))
        case first =>
          go_wp2_with fail
          go_loop [2, 3] (fun a b => ∃ y z : Int, a = .int .u64 y ∧ b = .int .i64 z ∧ 0 ≤ y ∧ y < 18446744073709551616) (fun a _ => (intOf a).toNat)
          case atStart => exact ⟨_, _, rfl, rfl, hy, hy2⟩
          case round =>
            obtain ⟨y, z, rfl, rfl, hy, hy2⟩ := hrel
            by_cases hy1 : 1 < y
            · by_cases hz : z < -1024
              · go_wp2_with fail
                go_round
                case rel => exact ⟨_, _, rfl, rfl, (bits_u .or (y / 2) (bits .and .u64 y 1) (.inl rfl)).1, (bits_u .or (y / 2) (bits .and .u64 y 1) (.inl rfl)).2⟩
                case measure => exact toNat_lt (bits_u .or (y / 2) (bits .and .u64 y 1) (.inl rfl)).1 (sticky y (by omega) hy2)
              · go_wp2_with fail
                go_meet
                case rel => exact ⟨_, _, rfl, rfl, hy, hy2, Lib.hid rfl⟩
            · go_wp2_with fail
              go_meet
              case rel => exact ⟨_, _, rfl, rfl, hy, hy2, Lib.hid rfl⟩
        case rest =>
          obtain ⟨y, z, rfl, rfl, hy, hy2, hw⟩ := hcut
          have hw' := hw.out
          subst hw'
          clear hw
          rename_i K9 hk9
          apply hk9
          exact hex_round s ng _ w nq c0 c1 c2 hA _ _ _ _ _ _ _ _ _ _ _ _ _ _ _ _ _ _ _ _ _ _ _ _ _ _ _ _ _ _ _ _ _ _ _ _ _ _ _ _ _ _ _ _ _ _ _ _ _ _ _ _ _ _ _ _ _ _ _ _ _ _ _ _ _ _ _ _ _ _ _ _ _ _ _ _ _ _ _ _ _ _ _ _ _ _ _ _ _ _ _ _ _ _ _ _ _ _ _ _ _ _ _ _ _ _ _ _ _ _ _ _ _ _ _ _ _ _ _ _ _ _ _ _ _ _ _ _ _ _ _ _ _ _ _ _ _ _ _ _ _ _ _ _ _ _ _ _ _ _ _ _ _ _ _ _ _ _ _ _ _ _ _ _ _ _ _ _ _ _ _ _ _ _ _ _ _ _ _ _ _ _ _ _
end Go.Proofs.YtjaibjdhfljmmaaDoor
