/-
  readFloat, atof64, ParseFloat at a text with no decimal digit and none of i, I, n, N: refused.
-/
import Derived.Test.YtjaibjdhfljmmaaDoorSpecial
import Derived.WalkMore
import Derived.Deep.DeepCutAuto
import Derived.Deep.CutBlock
import Derived.Deep.LoopGhost
namespace Go.Proofs.YtjaibjdhfljmmaaDoor
open Go.RowKit
set_option maxRecDepth 100000
set_option maxHeartbeats 1000000

def NoDigit (s : ByteArray) : Prop := ∀ x ∈ s.data.toList, ¬ (48 ≤ x.toNat ∧ x.toNat ≤ 57)

theorem NoDigit.at {s : ByteArray} (h : NoDigit s) (i : Nat) (hi : i < s.size) : ¬ (48 ≤ s[i].toNat ∧ s[i].toNat ≤ 57) := by
  have : s[i] = s.data.toList[i]'(by rw [← Lib.size_eq]; exact hi) := rfl
  rw [this]
  exact h _ (List.getElem_mem _)

def RfNo (s : ByteArray) (e : Ending) : Prop := ∃ (i : Nat) (ng : Bool), i ≤ s.size ∧ e = .returned (.tuple #[.int .u64 0, .int .i64 0, .bool ng, .bool false, .bool false, .int .i64 i, .bool false])

theorem results_tmp7 {fn : Func} {t1 t2 t3 t4 t5 t6 t7 : Tmp} (h : fn.results = #[.tmp t1, .tmp t2, .tmp t3, .tmp t4, .tmp t5, .tmp t6, .tmp t7]) (tmps : Array Value) (P : Program) (w : World) :
    (results fn tmps).run P w = .ok (.tuple #[tmps.getD t1 undef, tmps.getD t2 undef, tmps.getD t3 undef, tmps.getD t4 undef, tmps.getD t5 undef, tmps.getD t6 undef, tmps.getD t7 undef]) w := by
  simp [results, h]

theorem rf_no (s : ByteArray) (hs : s.size ≤ 1073741824) (hno : NoDigit s) (w : World) :
    Calls Tryd.prog 48 #[.string s] w fun e w' => RfNo s e ∧ w = w' := by
  rcases Nat.eq_zero_or_pos s.size with hz | hne
  · have h0 : (s.size : Int) = 0 := by omega
    clear hz
    go_enter Tryd.func48, Tryd.ntmps48
    go_wp2_with fail
    go_step3
    go_wp2_with fail
    rw [Exit.noGoto_ret]
    exact bodyPost_ret (results_tmp7 rfl _ _ _) rfl ⟨⟨0, false, by omega, rfl⟩, rfl⟩
  · have hno' := Lib.hid hno
    have h0' : ¬ (s.size : Int) ≤ 0 := by omega
    have h00 : ¬ s.size = 0 := by omega
    have hemp := nonempty_of hne
    clear hno
    go_enter Tryd.func48, Tryd.ntmps48
    go_wp2_with fail
    go_step3
    go_upto_block 0 with fail
    go_cut [4, 7] (fun g i wx => ∃ (b : Bool) (k : Nat), g = .bool b ∧ i = .int .i64 k ∧ k ≤ 1 ∧ k ≤ s.size ∧ Hid (w = wx))
    case first =>
      by_cases q1 : s[0] = 43
      · have q1' : (((s[0]).toNat : Int) == 43) = true := by rw [q1]; rfl
        clear q1
        go_wp2_with fail
        go_meet
        case rel => exact ⟨false, 1, rfl, rfl, by omega, by omega, Lib.hid rfl⟩
      · by_cases q2 : s[0] = 45
        · have q1' : (((s[0]).toNat : Int) == 43) = false := by rw [q2]; rfl
          have q2' : (((s[0]).toNat : Int) == 45) = true := by rw [q2]; rfl
          clear q1 q2
          go_wp2_with fail
          go_meet
          case rel => exact ⟨true, 1, rfl, rfl, by omega, by omega, Lib.hid rfl⟩
        · have q1' := beq_no s[0] 43 q1
          have q2' := beq_no s[0] 45 q2
          change (_ == (43 : Int)) = _ at q1'
          change (_ == (45 : Int)) = _ at q2'
          clear q1 q2
          go_wp2_with fail
          go_meet
          case rel => exact ⟨false, 0, rfl, rfl, by omega, by omega, Lib.hid rfl⟩
    case rest =>
      obtain ⟨b, k, rfl, rfl, hk1, hks, hw⟩ := hcut
      have hw' := hw.out
      subst hw'
      clear hw
      go_upto_region 12 with fail
      go_cut [54] (fun t wx => t = .bool false ∧ Hid (w = wx))
      case first =>
        by_cases h2 : k + 2 < s.size
        · have h2' : (k : Int) + 2 < (s.size : Int) := by omega
          have hk : k < s.size := by omega
          have q : (((s[k]).toNat : Int) == 48) = false := by
            have := hno'.out.at k hk
            rw [beq_eq_false_iff_ne]
            omega
          clear h2
          go_wp2_with fail
          go_meet
          case rel => exact ⟨rfl, Lib.hid rfl⟩
        · have h2' : ¬ (k : Int) + 2 < (s.size : Int) := by omega
          clear h2
          go_wp2_with fail
          go_meet
          case rel => exact ⟨rfl, Lib.hid rfl⟩
      case rest =>
        obtain ⟨rfl, hw⟩ := hcut
        have hw' := hw.out
        subst hw'
        clear hw
        go_wp2_with fail
        go_step3
        go_wp2_with fail
        go_loop [2, 5, 7, 9, 13, 14] (fun m t i us dot sd => ∃ (q : Nat) (b1 b2 : Bool), m = .int .u64 0 ∧ t = .bool false ∧ i = .int .i64 q ∧ us = .bool b1 ∧ dot = .bool b2 ∧ sd = .bool false ∧ q ≤ s.size) (fun _ _ i _ _ _ => s.size - (intOf i).toNat)
        case atStart => exact ⟨k, false, false, rfl, rfl, rfl, rfl, rfl, rfl, hks⟩
        case round =>
          obtain ⟨q, b1, b2, rfl, rfl, rfl, rfl, rfl, rfl, hq⟩ := hrel
          by_cases hlt : q < s.size
          · have hnd := hno'.out.at q hlt
            obtain ⟨c, hc⟩ : ∃ c, s[q] = c := ⟨_, rfl⟩
            rw [hc] at hnd
            have hc256 : c.toNat < 256 := c.toNat_lt
            by_cases h95 : c = 95
            · have e1 : ((c.toNat : Int) == 95) = true := by rw [h95]; rfl
              clear h95 hnd
              go_wp2_with fail
              go_round
              case rel => exact ⟨q + 1, true, b2, rfl, rfl, by go_num, rfl, rfl, rfl, by omega⟩
              case measure => simp [intOf]; omega
            have e1 := beq_no c 95 h95
            change (_ == (95 : Int)) = _ at e1
            clear h95
            by_cases h46 : c = 46
            · have e2 : ((c.toNat : Int) == 46) = true := by rw [h46]; rfl
              clear h46 hnd
              cases b2 with
              | false =>
                go_wp2_with fail
                go_round
                case rel => exact ⟨q + 1, b1, true, rfl, rfl, by go_num, rfl, rfl, rfl, by omega⟩
                case measure => simp [intOf]; omega
              | true =>
                go_wp2_with fail
                try rw [Exit.noGoto_ret]
                exact bodyPost_ret (results_tmp7 rfl _ _ _) rfl ⟨⟨q, b, hq, rfl⟩, rfl⟩
            have e2 := beq_no c 46 h46
            change (_ == (46 : Int)) = _ at e2
            clear h46
            by_cases hlo : c.toNat < 48
            · have hlo' : ¬ (48 : Int) ≤ (c.toNat : Int) := by omega
              clear hnd
              go_wp2_with fail
              try rw [Exit.noGoto_ret]
              exact bodyPost_ret (results_tmp7 rfl _ _ _) rfl ⟨⟨q, b, hq, rfl⟩, rfl⟩
            · have hlo' : (48 : Int) ≤ (c.toNat : Int) := by omega
              have hhi' : ¬ (c.toNat : Int) ≤ 57 := by omega
              clear hnd
              go_wp2_with fail
              try rw [Exit.noGoto_ret]
              exact bodyPost_ret (results_tmp7 rfl _ _ _) rfl ⟨⟨q, b, hq, rfl⟩, rfl⟩
          · obtain rfl : q = s.size := by omega
            go_wp2_with fail
            try rw [Exit.noGoto_ret]
            exact bodyPost_ret (results_tmp7 rfl _ _ _) rfl ⟨⟨_, b, hq, rfl⟩, rfl⟩
end Go.Proofs.YtjaibjdhfljmmaaDoor
