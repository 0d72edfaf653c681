/-
  readFloat, whatever the text: it returns; where it takes a prefix, that prefix holds only bytes of a numeral.
-/
import Derived.Test.YtjaibjdhfljmmaaDoorReadMid
namespace Go.Proofs.YtjaibjdhfljmmaaDoor
open Go.RowKit
set_option maxHeartbeats 4000000
set_option maxRecDepth 1000000

theorem rf_any (s : ByteArray) (hs : s.size ≤ 1073741824) (w : World) :
    Calls Tryd.prog 48 #[.string s] w fun e w' => Rf s e ∧ w = w' := by
  rcases Nat.eq_zero_or_pos s.size with hz | hne
  · have h0 : (s.size : Int) = 0 := by omega
    clear hz
    go_enter Tryd.func48, Tryd.ntmps48
    go_wp2_with fail
    go_step3
    go_wp2_with fail
    rw [Exit.noGoto_ret]
    exact bodyPost_ret (results_tmp7 rfl _ _ _) rfl ⟨⟨0, 0, false, false, false, false, 0, rfl, fun h => by cases h⟩, rfl⟩
  · have h0' : ¬ (s.size : Int) ≤ 0 := by omega
    have h00 : ¬ s.size = 0 := by omega
    have hemp := nonempty_of hne
    go_enter Tryd.func48, Tryd.ntmps48
    go_wp2_with fail
    go_step3
    go_upto_block 0 with fail
    go_cut [4, 7] from 10 (fun g i wx => ∃ (b : Bool) (k : Nat), g = .bool b ∧ i = .int .i64 k ∧ k ≤ 1 ∧ k ≤ s.size ∧ Hid (w = wx) ∧ Hid (Pre s k))
    case first =>
      by_cases q1 : s[0] = 43
      · have q1' : (((s[0]).toNat : Int) == 43) = true := by rw [q1]; rfl
        have hp := Lib.hid ((Pre.zero s).next hne (by rw [q1]; rfl))
        clear q1
        go_wp2_with fail
        go_meet
        case rel => exact ⟨false, 1, rfl, rfl, by omega, by omega, Lib.hid rfl, hp⟩
      · by_cases q2 : s[0] = 45
        · have q1' : (((s[0]).toNat : Int) == 43) = false := by rw [q2]; rfl
          have q2' : (((s[0]).toNat : Int) == 45) = true := by rw [q2]; rfl
          have hp := Lib.hid ((Pre.zero s).next hne (by rw [q2]; rfl))
          clear q1 q2
          go_wp2_with fail
          go_meet
          case rel => exact ⟨true, 1, rfl, rfl, by omega, by omega, Lib.hid rfl, hp⟩
        · have q1' := beq_no s[0] 43 q1
          have q2' := beq_no s[0] 45 q2
          change (_ == (43 : Int)) = _ at q1'
          change (_ == (45 : Int)) = _ at q2'
          clear q1 q2
          go_wp2_with fail
          go_meet
          case rel => exact ⟨false, 0, rfl, rfl, by omega, by omega, Lib.hid rfl, Lib.hid (Pre.zero s)⟩
    case rest =>
      obtain ⟨ng, k, rfl, rfl, hk1, hks, hw, hpre⟩ := hcut
      have hw' := hw.out
      subst hw'
      clear hw
      rename_i K9 hk9
      apply hk9
      exact rd_mid s hs hne ng w k hks hpre _ _ _ _ _ _ _ _ _ _ _ _ _ _ _ _ _ _ _ _ _ _ _ _ _ _ _ _ _ _ _ _ _ _ _ _ _ _ _ _ _ _ _ _ _ _ _ _ _ _ _ _ _ _ _ _ _ _ _ _ _ _ _ _ _ _ _ _ _ _ _ _ _ _ _ _ _ _ _ _ _ _ _ _ _ _ _ _ _ _ _ _ _ _ _ _ _ _ _ _ _ _ _ _ _ _ _ _ _ _ _ _ _ _ _ _ _ _ _ _ _ _ _ _ _ _ _ _ _ _ _ _ _ _ _ _ _ _ _ _ _ _ _ _ _ _ _ _ _ _ _ _ _ _ _ _ _ _ _ _ _ _ _ _ _ _ _ _ _ _ _ _ _ _ _ _ _ _ _ _ _ _ _ _ _ _ _ _ _ _ _ _ _ _ _ _ _ _ _ _ _ _ _ _ _ _ _ _ _ _ _ _ _ _ _ _ _ _ _ _ _ _ _ _ _ _ _ _ _ _ _ _ _ _ _ _ _ _ _ _ _ _ _ _
end Go.Proofs.YtjaibjdhfljmmaaDoor
