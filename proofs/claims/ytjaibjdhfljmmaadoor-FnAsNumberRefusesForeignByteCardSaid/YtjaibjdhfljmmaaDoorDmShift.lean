/-
  rightShift.
  Shift.
-/
import Derived.Test.YtjaibjdhfljmmaaDoorDmShrMid
namespace Go.Proofs.YtjaibjdhfljmmaaDoor
open Go.RowKit
set_option maxRecDepth 100000
set_option maxHeartbeats 4000000

/-- What rightShift leaves: a leading digit, the point moved back by s; where it didn't move, a small first digit. -/
def Shr (B k : Nat) (dp : Int) (d : Nat → Int) (w : World) (e : Ending) (w' : World) : Prop :=
  e = .returned (.tuple #[]) ∧ (∃ (n s : Nat) (d' : Nat → Int), 0 < n ∧ Lead d' n ∧ Dm w' B n (dp - s) d' ∧ s ≤ 900 ∧ (s = 0 → 2 ^ k ≤ (d 0 - 48).toNat ∧ d' 0 < 56)) ∧ Below B w w'

theorem Shr0.shr {B k r0 N0 : Nat} {dp : Int} {d : Nat → Int} {w w' : World} {e : Ending} (h : Shr0 B (dp - ((r0 : Int) - 1)) (N0 / 2 ^ k) w e w') (hk : 0 < k) (hr : 1 ≤ r0) (hr' : r0 ≤ 900)
    (hN : 2 ^ k ≤ N0) (h1 : r0 = 1 → N0 = (d 0 - 48).toNat) (hd : 48 ≤ d 0 ∧ d 0 ≤ 57) : Shr B k dp d w e w' := by
  obtain ⟨he, ⟨n, d', a1, a2, a3, a4⟩, hb⟩ := h
  refine ⟨he, ⟨n, r0 - 1, d', a1, a2, ?_, by omega, fun hs => ?_⟩, hb⟩
  · rw [show ((r0 - 1 : Nat) : Int) = (r0 : Int) - 1 by omega]
    exact a3
  · have e1 := h1 (by omega)
    refine ⟨by rw [← e1]; exact hN, ?_⟩
    rw [a4]
    obtain ⟨j, rfl⟩ : ∃ j, k = j + 1 := ⟨k - 1, by omega⟩
    have h2 : N0 / 2 ^ (j + 1) ≤ N0 / 2 := by
      rw [Nat.pow_succ, Nat.mul_comm, ← Nat.div_div_eq_div_mul]
      exact Nat.div_le_self _ _
    omega

theorem bodyPost_mono {P : Program} {fn : Func} {R R' : Ending → World → Prop} (hR : ∀ e w, R e w → R' e w) {x : Exit} {a : Act} {w : World} (h : bodyPost P fn R x a w) : bodyPost P fn R' x a w := by
  cases x
  case normal => obtain ⟨h1, v, h2, h3⟩ := h; exact ⟨h1, v, h2, hR _ _ h3⟩
  case ret => obtain ⟨h1, v, h2, h3⟩ := h; exact ⟨h1, v, h2, hR _ _ h3⟩
  case panic => exact ⟨h.1, hR _ _ h.2⟩
  case outgrown => exact hR _ _ h
  all_goals exact h

theorem inner_bound {r nd n k : Nat} (h : 2 ^ (r - nd) ≤ n) (hn : n < 10 * 2 ^ k) (hk : k < 61) : r ≤ nd + 64 := by
  rcases Nat.lt_or_ge (r - nd) 64 with h1 | h1
  · omega
  · have h2 : 2 ^ 64 ≤ 2 ^ (r - nd) := Nat.pow_le_pow_right (by omega) h1
    have h60 : 2 ^ k ≤ 2 ^ 60 := Nat.pow_le_pow_right (by omega) (by omega)
    omega

theorem shr_any (B nd k : Nat) (dp : Int) (d : Nat → Int) (w : World) (hk : 0 < k) (hk' : k < 61) (hn : 0 < nd) (hD : Dm w B nd dp d) (hL : Lead d nd) (hp : -1000000000000 ≤ dp ∧ dp ≤ 1000000000000) :
    Calls Tryd.prog 81 #[.pointer (some ⟨B, 0, none⟩), .int .u64 k] w fun e w' => Shr B k dp d w e w' := by
  have c1 := hD.cnd
  have hle := hD.le
  have hle1 : (nd : Int) ≤ 800 := by omega
  have hLh := Lib.hid hL
  have hDh := Lib.hid hD
  clear hL hD
  go_enter Tryd.func81, Tryd.ntmps81
  go_upto_block 0 with fail
  go_cut [4, 6] from 7 (fun a b wx => ∃ (r0 N0 : Nat), a = .int .i64 r0 ∧ b = .int .u64 N0 ∧ 1 ≤ r0 ∧ r0 ≤ 900 ∧ Hid (N0 < 10 * 2 ^ k) ∧ Hid (2 ^ k ≤ N0) ∧ Hid (r0 = 1 → N0 = (d 0 - 48).toNat) ∧ Hid (w = wx))
  case first =>
    go_wp2_with fail
    go_loop [4, 6] (fun a b => ∃ (r n : Nat), a = .int .i64 r ∧ b = .int .u64 n ∧ r ≤ nd ∧ Hid (n = dnum d r) ∧ Hid (n < 10 * 2 ^ k)) (fun a _ => nd - (intOf a).toNat)
    case atStart => exact ⟨0, 0, by go_num, by go_num, by omega, Lib.hid rfl, Lib.hid (by have : 0 < 2 ^ k := Nat.pow_pos (by omega); omega)⟩
    case round =>
      obtain ⟨r, n, rfl, rfl, hr, hv, hlt⟩ := hrel
      obtain ⟨q, m, hq, hm, hq9', hm1, hm2, hb, e1, _⟩ := shr_parts n k hk' hlt.out
      have hp2 : 0 < 2 ^ k := Nat.pow_pos (by omega)
      have h1e : Hid (r = 1 → n = (d 0 - 48).toNat) := Lib.hid (fun h => by rw [hv.out, h]; simp [dnum])
      by_cases hge : 2 ^ k ≤ n
      · have hq1 : 1 ≤ q := by rw [hq]; exact (Nat.le_div_iff_mul_le hp2).2 (by omega)
        have hr1 : 1 ≤ r := by
          rcases Nat.eq_zero_or_pos r with h | h
          · subst h
            have := hv.out
            simp [dnum] at this
            omega
          · exact h
        have e4 : ((q : Int) == 0) = false := by simp; omega
        have hgeh := Lib.hid hge
        clear hq hm hm1 hb hq9' hp2 hge hm2
        go_wp2_with fail
        go_meet
        case rel => exact ⟨r, n, rfl, rfl, hr1, by omega, hlt, hgeh, h1e, Lib.hid rfl⟩
      · have hq1 : q = 0 := by rw [hq]; exact Nat.div_eq_of_lt (by omega)
        subst hq1
        have hlh : Hid (n < 2 ^ k) := Lib.hid (by omega)
        have h60 : 2 ^ k ≤ 2 ^ 60 := Nat.pow_le_pow_right (by omega) (by omega)
        have hn61 : n < 1152921504606846976 := by omega
        by_cases hrn : r < nd
        · have hdr := hLh.out.1 r hrn
          obtain ⟨c, hc⟩ : ∃ c : Nat, d r = (c : Int) := ⟨(d r).toNat, by omega⟩
          have hc1 : 48 ≤ c := by omega
          have hc2 : c ≤ 57 := by omega
          have c3 := hDh.out.dig r (by omega)
          rw [hc] at c3
          have hrn' : ¬ (nd : Int) ≤ (r : Int) := by omega
          have hv' : Hid (n * 10 + (c - 48) = dnum d (r + 1)) := Lib.hid (by rw [dnum, ← hv.out, hc]; omega)
          have hn' : Hid (n * 10 + (c - 48) < 10 * 2 ^ k) := Lib.hid (by omega)
          clear hq hm hm1 hb hq9' hp2 hge hm2 h60 hdr hc
          go_wp2_with fail
          go_round
          case rel => exact ⟨r + 1, n * 10 + (c - 48), by go_num, congrArg (Value.int .u64) (by omega), by omega, hv', hn'⟩
          case measure => simp [intOf]; omega
        · have hrn' : (nd : Int) ≤ (r : Int) := by omega
          have hrnd : r = nd := by omega
          have hn1 : 1 ≤ n := by
            obtain ⟨j, hj⟩ : ∃ j, nd = j + 1 := ⟨nd - 1, by omega⟩
            have h2 := dnum_ge hLh.out.2 (n := j)
            have h3 : 0 < 10 ^ j := Nat.pow_pos (by omega)
            rw [hv.out, hrnd, hj]
            omega
          have hn1' : ((n : Int) == 0) = false := by simp; omega
          clear hq hm hm1 hb hq9' hp2 hge hm2 h60
          have hin : Hid (2 ^ (r - nd) ≤ n) := Lib.hid (by rw [hrnd, Nat.sub_self]; exact hn1)
          have h1w : Hid (w = w) := Lib.hid rfl
          go_wp2_with fail
          go_loop [4, 6] (fun a b => ∃ (r n : Nat), a = .int .i64 r ∧ b = .int .u64 n ∧ nd ≤ r ∧ r ≤ nd + 64 ∧ 1 ≤ n ∧ n < 18446744073709551616 ∧ Hid (n < 10 * 2 ^ k) ∧ Hid (2 ^ (r - nd) ≤ n) ∧ Hid (r = 1 → n = (d 0 - 48).toNat)) (fun _ b => 18446744073709551616 - (intOf b).toNat)
          case atStart => exact ⟨r, n, congrArg (Value.int .i64) (by omega), rfl, by omega, by omega, hn1, by omega, hlt, hin, h1e⟩
          case round =>
            clear hv hlt hlh hin h1e hn1 hn1' hrn' hn61 hrnd hrn hr e1
            obtain ⟨r, n, rfl, rfl, hr, hr64, hn1, hn64, hlt, hin, h1e⟩ := hrel
            obtain ⟨q, m, hq, hm, hq9', hm1, hm2, hb, e1, _⟩ := shr_parts n k hk' hlt.out
            have hp2 : 0 < 2 ^ k := Nat.pow_pos (by omega)
            by_cases hge : 2 ^ k ≤ n
            · have hq1 : 1 ≤ q := by rw [hq]; exact (Nat.le_div_iff_mul_le hp2).2 (by omega)
              have e4 : ((q : Int) == 0) = false := by simp; omega
              have hgeh := Lib.hid hge
              clear hq hm hm1 hb hq9' hp2 hge hm2
              go_wp2_with fail
              go_meet
              case rel => exact ⟨r, n, rfl, rfl, by omega, by omega, hlt, hgeh, h1e, Lib.hid rfl⟩
            · have hq1 : q = 0 := by rw [hq]; exact Nat.div_eq_of_lt (by omega)
              subst hq1
              have h60 : 2 ^ k ≤ 2 ^ 60 := Nat.pow_le_pow_right (by omega) (by omega)
              have hn61 : n < 1152921504606846976 := by omega
              have hn' : Hid (n * 10 < 10 * 2 ^ k) := Lib.hid (by omega)
              have hin' : Hid (2 ^ (r + 1 - nd) ≤ n * 10) := Lib.hid (by
                rw [show r + 1 - nd = (r - nd) + 1 by omega, Nat.pow_succ]
                have := hin.out
                omega)
              have hb' := inner_bound hin'.out hn'.out hk'
              clear hq hm hm1 hb hq9' hp2 hge hm2 h60
              go_wp2_with fail
              go_round
              case rel => exact ⟨r + 1, n * 10, by go_num, congrArg (Value.int .u64) (by omega), by omega, hb', by omega, by omega, hn', hin', Lib.hid (fun h => absurd h (by omega))⟩
              case measure => simp [intOf]; omega
  case rest =>
    obtain ⟨r0, N0, rfl, rfl, h1, h2, h3, h4, h5, hw⟩ := hcut
    have hw' := hw.out
    subst hw'
    rename_i K9 hk9
    apply hk9
    refine Code.wp_mono (fun e a w' h => bodyPost_mono (fun e w' h => Shr0.shr h hk h1 h2 h4.out h5.out (hLh.out.1 0 hn)) h) (shr_mid B nd k r0 N0 dp d w hk hk' h1 h2 h3.out h4.out hLh.out hp hDh.out _ _ _ _ _ _ _ _ _ _ _ _ _ _ _ _ _ _ _ _ _ _ _ _ _ _ _ _ _ _ _ _ _ _ _ _ _ _ _ _ _ _ _ _ _ _ _ _ _ _ _ _ _ _ _ _ _ _ _ _ _ _ _ _ _ _ _ _ _ _ _ _ _ _ _ _ _ _ _ _ _ _ _ _ _ _ _ _ _ _ _ _ _ _ _ _ _ _ _ _ _ _ _ _ _ _ _ _ _ _ _ _ _ _ _ _ _ _ _ _ _ _ _ _ _)
end Go.Proofs.YtjaibjdhfljmmaaDoor

namespace Go.Proofs.YtjaibjdhfljmmaaDoor
open Go.RowKit
set_option maxRecDepth 100000
set_option maxHeartbeats 4000000

theorem shift_pos (B nd k : Nat) (dp : Int) (d : Nat → Int) (w : World) (hk : 0 < k) (hk' : k < 61) (hn : 0 < nd) (hD : Dm w B nd dp d) (hL : Lead d nd) (hC : Cheats B w) (hp : -1000000000000 ≤ dp ∧ dp ≤ 1000000000000) :
    Calls Tryd.prog 72 #[.pointer (some ⟨B, 0, none⟩), .int .i64 k] w fun e w' => Shl B dp d w e w' := by
  have c1 := hD.cnd
  have hS := Lib.hid (shl_any B nd k dp d w hk hk' hn hD hL hC hp)
  clear hD hL hC
  have hn' : ((nd : Int) == 0) = false := by simp; omega
  have hk1 : (0 : Int) < (k : Int) := by omega
  have hk2 : ¬ (60 : Int) < (k : Int) := by omega
  go_enter Tryd.func72, Tryd.ntmps72
  go_wp2_with fail
  go_loop [1] (fun a => a = .int .i64 k) (fun _ => 0)
  case atStart => exact rfl
  case round =>
    obtain rfl := hrel
    go_wp2_with (go_at_call 80; refine hS.out.mono ?_; rintro e w' ⟨rfl, hX⟩)
    go_end0
    exact ⟨rfl, hX⟩

theorem shift_neg1 (B nd k : Nat) (dp : Int) (d : Nat → Int) (w : World) (hk : 0 < k) (hk' : k < 61) (hn : 0 < nd) (hD : Dm w B nd dp d) (hL : Lead d nd) (hp : -1000000000000 ≤ dp ∧ dp ≤ 1000000000000) :
    Calls Tryd.prog 72 #[.pointer (some ⟨B, 0, none⟩), .int .i64 (-(k : Int))] w fun e w' => Shr B k dp d w e w' := by
  have c1 := hD.cnd
  have hS := Lib.hid (shr_any B nd k dp d w hk hk' hn hD hL hp)
  clear hD hL
  have hn' : ((nd : Int) == 0) = false := by simp; omega
  have hk1 : ¬ (0 : Int) < (-(k : Int)) := by omega
  have hk2 : ¬ (-(k : Int)) < (-60 : Int) := by omega
  have hk3 : (-(k : Int)) < 0 := by omega
  go_enter Tryd.func72, Tryd.ntmps72
  go_wp2_with fail
  go_loop [1] (fun a => a = .int .i64 (-(k : Int))) (fun _ => 0)
  case atStart => exact rfl
  case round =>
    obtain rfl := hrel
    go_wp2_with (go_at_call 81; refine hS.out.mono ?_; rintro e w' ⟨rfl, hX⟩)
    go_end0
    exact ⟨rfl, hX⟩

/-- What Shift by -n leaves. -/
def Shrs (B n : Nat) (dp : Int) (w : World) (w' : World) : Prop :=
  ∃ (nd : Nat) (q : Int) (d' : Nat → Int), 0 < nd ∧ Lead d' nd ∧ Dm w' B nd q d' ∧ dp - 900 * n ≤ q ∧ q ≤ dp ∧ Below B w w'

theorem Shr.shrs {B k m : Nat} {dp : Int} {d : Nat → Int} {w a w' : World} {q : Int} {e : Ending} (h : Shr B k q d a e w') (hb : Below B w a) (h1 : dp - 900 * m ≤ q) (h2 : q ≤ dp) : Shrs B (m + 1) dp w w' := by
  obtain ⟨_, ⟨n, s, d', a1, a2, a3, a4, _⟩, hb'⟩ := h
  exact ⟨n, _, d', a1, a2, a3, by omega, by omega, hb.trans hb'⟩

theorem shift_neg (B nd n : Nat) (dp : Int) (d : Nat → Int) (w : World) (hk : 0 < n) (hk' : n ≤ 1000000) (hn : 0 < nd) (hD : Dm w B nd dp d) (hL : Lead d nd) (hp : -2000000 ≤ dp ∧ dp ≤ 2000000) :
    Calls Tryd.prog 72 #[.pointer (some ⟨B, 0, none⟩), .int .i64 (-(n : Int))] w fun e w' => e = .returned (.tuple #[]) ∧ Shrs B (n + 1) dp w w' := by
  have c1 := hD.cnd
  have hDh := Lib.hid hD
  have hLh := Lib.hid hL
  clear hD hL
  have hn' : ((nd : Int) == 0) = false := by simp; omega
  have hk1 : ¬ (0 : Int) < (-(n : Int)) := by omega
  have hk3 : (-(n : Int)) < 0 := by omega
  go_enter Tryd.func72, Tryd.ntmps72
  go_wp2_with fail
  go_loopw [1] (fun a wr => ∃ (m nd : Nat) (q : Int) (d' : Nat → Int), a = .int .i64 (-(m : Int)) ∧ 0 < m ∧ m ≤ n ∧ 0 < nd ∧ Hid (Lead d' nd) ∧ Hid (Dm wr B nd q d') ∧ Hid (dp - 900 * ((n - m : Nat) : Int) ≤ q) ∧ Hid (q ≤ dp) ∧ Hid (Below B w wr)) (fun a _ => (-(intOf a)).toNat)
  case atStart => exact ⟨n, nd, dp, d, rfl, hk, Nat.le_refl _, hn, hLh, hDh, Lib.hid (by omega), Lib.hid (by omega), Lib.hid (Below.refl _ _)⟩
  case round =>
    clear hDh hLh c1 hn' hn
    obtain ⟨m, nd, q, d', rfl, hm, hmn, hn, hL, hD, hq1, hq2, hB⟩ := hrel
    have hq3 : -1000000000000 ≤ q ∧ q ≤ 1000000000000 := by have := hq1.out; have := hq2.out; omega
    by_cases h60 : m ≤ 60
    · have hS := Lib.hid (shr_any B nd m q d' wr hm (by omega) hn hD.out hL.out hq3)
      have h60' : ¬ (-(m : Int)) < (-60 : Int) := by omega
      clear hq3
      go_wp2_with (go_at_call 81; refine hS.out.mono ?_; intro e w' hX; obtain ⟨rfl, _⟩ := id hX)
      go_end0
      obtain ⟨nd, q, d', a1, a2, a3, a4, a5, a6⟩ := hX.shrs (m := n - m) hB.out hq1.out hq2.out
      exact ⟨rfl, nd, q, d', a1, a2, a3, by omega, a5, a6⟩
    · have hS := Lib.hid (shr_any B nd 60 q d' wr (by omega) (by omega) hn hD.out hL.out hq3)
      have h60' : (-(m : Int)) < (-60 : Int) := by omega
      clear hq3
      obtain ⟨j, rfl⟩ : ∃ j, m = j + 60 := ⟨m - 60, by omega⟩
      go_wp2_with (go_at_call 81; refine hS.out.mono ?_; intro e w' hX; obtain ⟨rfl, _⟩ := id hX)
      go_round
      case rel =>
        obtain ⟨nd, q, d', a1, a2, a3, a4, a5, a6⟩ := hX.shrs (m := n - (j + 60)) hB.out hq1.out hq2.out
        exact ⟨j, nd, q, d', congrArg (Value.int .i64) (by omega), by omega, by omega, a1, Lib.hid a2, Lib.hid a3, Lib.hid (by omega), Lib.hid a5, Lib.hid a6⟩
      case measure => simp [intOf]; omega
end Go.Proofs.YtjaibjdhfljmmaaDoor
