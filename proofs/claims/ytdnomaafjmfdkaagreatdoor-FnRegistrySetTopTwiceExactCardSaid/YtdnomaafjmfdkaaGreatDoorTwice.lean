/-
  The walk of FnRegistrySetTopTwiceExact: for every argument the call returns true and turns nothing that was there.
-/
import Derived.Test.YtdnomaafjmfdkaaGreatDoorLifo
namespace Go.Proofs.YtdnomaafjmfdkaaGreatDoor
open Go.RowKit
set_option maxRecDepth 100000
set_option maxHeartbeats 400000

theorem bytes19_yes (n g : Int) (a : Option Addr) (len cap : Nat) (x y : Int) (w : World) (h : len ≤ 1048576) :
    Calls Tryz.prog 19 #[.int .i64 n, .int .i64 g, .slice a len cap, .int .i64 x, .int .i64 y] w fun e w' => e = .returned (.bool true) ∧ w = w' := by
  have h1 : decide (1048576 < len) = false := by simp; omega
  have h2 : decide ((1048576 : Int) < (len : Int)) = false := by simp; omega
  go_enter Tryz.func19, Tryz.ntmps19
  go_wp2
  go_ret
  exact ⟨rfl, rfl⟩

theorem bytes19_no (n g : Int) (a : Option Addr) (len cap : Nat) (x y : Int) (w : World) (h : 1048576 < len) :
    Calls Tryz.prog 19 #[.int .i64 n, .int .i64 g, .slice a len cap, .int .i64 x, .int .i64 y] w fun e w' => e = .returned (.bool false) ∧ w = w' := by
  have h2 : (1048576 : Int) < (len : Int) := by omega
  go_enter Tryz.func19, Tryz.ntmps19
  go_wp2
  go_ret
  exact ⟨rfl, rfl⟩

def Good5 (n g : Int) (len : Nat) (x y : Int) : Prop := len ≤ 65536 ∧ 0 ≤ n ∧ n ≤ 65536 ∧ 0 ≤ g ∧ g ≤ 1073741824 ∧ 0 ≤ x ∧ x ≤ 65536 ∧ 0 ≤ y ∧ y ≤ 65536

theorem twice_out (n g : Int) (a : Option Addr) (len cap : Nat) (x y : Int) (w : World) (h : ¬ Good5 n g len x y) :
    Calls Tryz.prog 5 #[.int .i64 n, .int .i64 g, .slice a len cap, .int .i64 x, .int .i64 y] w fun e w' => e = .returned (.bool true) ∧ w = w' := by
  by_cases h0 : 1048576 < len
  · have HC := Lib.hid (bytes19_no n g a len cap x y w h0)
    clear h0 h
    go_enter Tryz.func5, Tryz.ntmps5
    go_wp2_with (go_at_call 19; refine HC.out.mono ?_; rintro e w' ⟨rfl, rfl⟩)
    go_ret
    exact ⟨rfl, rfl⟩
  · have HC := Lib.hid (bytes19_yes n g a len cap x y w (by omega))
    by_cases h1 : 65536 < len
    · have h1' : (65536 : Int) < (len : Int) := by omega
      clear h0 h
      go_enter Tryz.func5, Tryz.ntmps5
      go_wp2_with (go_at_call 19; refine HC.out.mono ?_; rintro e w' ⟨rfl, rfl⟩)
      go_ret
      exact ⟨rfl, rfl⟩
    · have h1' : ¬ (65536 : Int) < (len : Int) := by omega
      clear h0
      by_cases h2 : n < 0
      · clear h
        go_enter Tryz.func5, Tryz.ntmps5
        go_wp2_with (go_at_call 19; refine HC.out.mono ?_; rintro e w' ⟨rfl, rfl⟩)
        go_ret
        exact ⟨rfl, rfl⟩
      · skip
        by_cases h3 : 65536 < n
        · clear h
          go_enter Tryz.func5, Tryz.ntmps5
          go_wp2_with (go_at_call 19; refine HC.out.mono ?_; rintro e w' ⟨rfl, rfl⟩)
          go_ret
          exact ⟨rfl, rfl⟩
        · skip
          by_cases h4 : g < 0
          · clear h
            go_enter Tryz.func5, Tryz.ntmps5
            go_wp2_with (go_at_call 19; refine HC.out.mono ?_; rintro e w' ⟨rfl, rfl⟩)
            go_ret
            exact ⟨rfl, rfl⟩
          · skip
            by_cases h5 : 1073741824 < g
            · clear h
              go_enter Tryz.func5, Tryz.ntmps5
              go_wp2_with (go_at_call 19; refine HC.out.mono ?_; rintro e w' ⟨rfl, rfl⟩)
              go_ret
              exact ⟨rfl, rfl⟩
            · skip
              by_cases h6 : x < 0
              · clear h
                go_enter Tryz.func5, Tryz.ntmps5
                go_wp2_with (go_at_call 19; refine HC.out.mono ?_; rintro e w' ⟨rfl, rfl⟩)
                go_ret
                exact ⟨rfl, rfl⟩
              · skip
                by_cases h7 : 65536 < x
                · clear h
                  go_enter Tryz.func5, Tryz.ntmps5
                  go_wp2_with (go_at_call 19; refine HC.out.mono ?_; rintro e w' ⟨rfl, rfl⟩)
                  go_ret
                  exact ⟨rfl, rfl⟩
                · skip
                  by_cases h8 : y < 0
                  · clear h
                    go_enter Tryz.func5, Tryz.ntmps5
                    go_wp2_with (go_at_call 19; refine HC.out.mono ?_; rintro e w' ⟨rfl, rfl⟩)
                    go_ret
                    exact ⟨rfl, rfl⟩
                  · skip
                    have h9 : 65536 < y := by unfold Good5 at h; omega
                    clear h
                    go_enter Tryz.func5, Tryz.ntmps5
                    go_wp2_with (go_at_call 19; refine HC.out.mono ?_; rintro e w' ⟨rfl, rfl⟩)
                    go_ret
                    exact ⟨rfl, rfl⟩

/-- The lesser of two. -/
def mnN (x y : Nat) : Nat := if x < y then x else y
theorem mn_le (x y : Nat) : mnN x y ≤ x ∧ mnN x y ≤ y := by unfold mnN; split <;> omega
theorem min_any (x y : Nat) (w : World) :
    Calls Tryz.prog 20 #[.int .i64 x, .int .i64 y] w fun e w' => e = .returned (.int .i64 (mnN x y)) ∧ w = w' := by
  by_cases h : x < y
  · have hm : mnN x y = x := if_pos h
    rw [hm]
    clear hm
    go_enter Tryz.func20, Tryz.ntmps20
    go_wp2
    go_ret
    exact ⟨rfl, rfl⟩
  · have hm : mnN x y = y := if_neg h
    rw [hm]
    clear hm
    go_enter Tryz.func20, Tryz.ntmps20
    go_wp2
    go_ret
    exact ⟨rfl, rfl⟩

theorem get_toTop (st : List Value) (t j : Nat) : (toTop st t)[j]? = if j < t then (if j < st.length then st[j]? else some LNIL) else none := by
  unfold toTop
  by_cases hj : j < t
  · rw [if_pos hj]
    by_cases hs : j < st.length
    · rw [if_pos hs, List.getElem?_append_left (by simp; omega), List.getElem?_take, if_pos hj]
    · rw [if_neg hs, List.getElem?_append_right (by simp; omega), List.getElem?_replicate, if_pos (by simp; omega)]
  · rw [if_neg hj, List.getElem?_eq_none]
    simp; omega

/-- The stack behind both SetTops. -/
theorem twice_get (zs : List Int) (len a b j : Nat) (hle : len ≤ zs.length) (hj : j < b) :
    (toTop (toTop ((zs.take len).map num) a) b)[j]? = some (if j < mnN len (mnN a b) then NUM (floatOfInt .f64 (zs[j]?.getD 0)) else LNIL) := by
  rw [get_toTop, if_pos hj, length_toTop, get_toTop]
  have hl : (List.map num (List.take len zs)).length = len := by simp; omega
  rw [hl]
  have hm : (j < mnN len (mnN a b)) ↔ j < len ∧ j < a := by unfold mnN; split <;> split <;> omega
  by_cases h1 : j < a
  · rw [if_pos h1, if_pos h1]
    by_cases h2 : j < len
    · rw [if_pos h2, if_pos (hm.2 ⟨h2, h1⟩)]
      simp [h2, num, show j < zs.length by omega]
    · rw [if_neg h2, if_neg (fun h => h2 (hm.1 h).1)]
  · rw [if_neg h1, if_neg (fun h => h1 (hm.1 h).2)]

theorem twice_main (n g A B : Nat) (a : Option Addr) (len cap : Nat) (zs : List Int) (w : World) (hlen : len ≤ 65536) (hn : n ≤ 65536) (hg : g ≤ 1073741824) (hA : A ≤ 65536) (hB : B ≤ 65536) (hrow : IsRow .i32 w a len cap zs) :
    Calls Tryz.prog 5 #[.int .i64 n, .int .i64 g, .slice a len cap, .int .i64 A, .int .i64 B] w fun e w' => e = .returned (.bool true) ∧ Below w.heap.size w w' := by
  have HB := Lib.hid (bytes19_yes n g a len cap A B w (by omega))
  have HP := Lib.hid (copy_any a len cap zs w (by omega) hrow)
  have hle := hrow.le
  have HN : ∀ W : World, Calls Tryz.prog 10 #[.int .i64 n, .int .i64 g, .int .i64 262144] W fun e w' => e = .returned (.pointer (some ⟨W.heap.size + 1, 0, none⟩)) ∧ RegS w' (W.heap.size + 1) W.heap.size [] n g 262144 ∧ Below W.heap.size W w' := fun W => newS n g 262144 W hn
  have HN' := Lib.hid HN
  have g1 : ¬ (65536 : Int) < (len : Int) := by omega
  have g2 : ¬ (n : Int) < 0 := by omega
  have g3 : ¬ (65536 : Int) < (n : Int) := by omega
  have g4 : ¬ (g : Int) < 0 := by omega
  have g5 : ¬ (1073741824 : Int) < (g : Int) := by omega
  have g6 : ¬ (A : Int) < 0 := by omega
  have g7 : ¬ (65536 : Int) < (A : Int) := by omega
  have g8 : ¬ (B : Int) < 0 := by omega
  have g9 : ¬ (65536 : Int) < (B : Int) := by omega
  clear HN hrow
  go_enter Tryz.func5, Tryz.ntmps5
  go_wp2_with (go_at_call 19; refine HB.out.mono ?_; rintro e w' ⟨rfl, rfl⟩)
  refine HP.out.mono ?_
  rintro e w1 ⟨v, rfl, ao, rfl, hao⟩
  have hao' := Lib.hid hao
  clear hao
  go_wp2_with fail
  refine (HN'.out _).mono ?_
  rintro e w2 ⟨rfl, hr2⟩
  have hr2' := Lib.hid hr2
  clear hr2
  go_wp2_with fail
  have hst0 : Hid (St w w2 (w1.heap.size + 1) zs len g 262144 262144 []) := St.start hr2'.out.1 hr2'.out.2 (by omega) (by omega) hao'.out.1 hao'.out.2
  generalize hR : w1.heap.size + 1 = R at *
  clear hR
  have hao2 := Lib.hid hao'.out.1
  clear hr2' hao' HB HP HN' g1 g2 g3 g4 g5 g6 g7 g8 g9
  have ho := FPlain.ofInt_self
  go_loopw [12] (fun i wr => ∃ k : Nat, k ≤ len ∧ i = .int .i64 k ∧ Hid (St w wr R zs len g 262144 262144 ((zs.take k).map num))) (fun i _ => len - (intOf i).toNat)
  case atStart => exact ⟨0, Nat.zero_le _, rfl, hst0⟩
  case round =>
    obtain ⟨k, hk, rfl, hst⟩ := hrel
    by_cases hlt : k < len
    · obtain ⟨A1, cap', hr, hcap, hm, hA1, hRR, hC, hb⟩ := hst.out
      obtain rfl : ao = some ⟨w.heap.size, 0, none⟩ := (hao2.out (by omega)).1
      have cs : wr.cell? ⟨w.heap.size, k, none⟩ = some (.int .i32 (zs.getD k 0)) := get_cell (hC (by omega)).2.2 hlt hle
      have HPu := Lib.hid (fun b => pushS R A1 _ cap' g 262144 b wr (by omega) hg (by omega) (by simp; omega) hr)
      have HNx := Lib.hid (fun st' w' hn => St.next (zs := zs) (len := len) (st' := st') (w' := w') hr hcap hm hA1 hRR hC hb hn)
      clear hr hC hb hcap hm hA1 hRR hst
      go_wp2_with fail
      refine (HPu.out _).mono ?_
      rintro e w3 ⟨rfl, hnx⟩
      have hst3 := Lib.hid (HNx.out _ _ hnx)
      clear hnx
      go_wp2_with fail
      go_roundw
      case rel => exact ⟨k + 1, by omega, by go_num, by rw [take_num zs k (by omega)]; exact hst3⟩
      case measure => simp [intOf]; omega
    · obtain rfl : k = len := by omega
      obtain ⟨A1, cap', hr, hcap, hm, hA1, hRR, hC, hb⟩ := hst.out
      have HS1 := Lib.hid (settopS R A1 _ A cap' g 262144 wr (by omega) hg (by omega) (by omega) hr)
      have HNx := Lib.hid (fun st' w' hn => St.next (zs := zs) (len := k) (st' := st') (w' := w') hr hcap hm hA1 hRR hC hb hn)
      clear hr hC hb hcap hm hA1 hRR hst
      go_wp2_with fail
      refine HS1.out.mono ?_
      rintro e w3 ⟨rfl, hnx⟩
      have hst3 := HNx.out _ _ hnx
      obtain ⟨A2, cap2, hr, hcap, hm, hA1, hRR, hC, hb⟩ := hst3
      have HS2 := Lib.hid (settopS R A2 _ B cap2 g 262144 w3 (by omega) hg (by omega) (by omega) hr)
      have HNx2 := Lib.hid (fun st' w' hn => St.next (zs := zs) (len := k) (st' := st') (w' := w') hr hcap hm hA1 hRR hC hb hn)
      clear hr hC hb hcap hm hA1 hRR hnx
      go_wp2_with fail
      refine HS2.out.mono ?_
      rintro e w4 ⟨rfl, hnx⟩
      have hst4 := HNx2.out _ _ hnx
      obtain ⟨A3, cap3, hr, hcap, hm, hA1, hRR, hC, hb⟩ := hst4
      have hr' := Lib.hid hr
      have hb' := Lib.hid hb
      have hC' := Lib.hid hC
      have hcb : cap3 ≤ 262144 := hcap
      have HT : Hid (Calls Tryz.prog 12 #[.pointer (some ⟨R, 0, none⟩)] w4 fun e w' => e = .returned (.int .i64 (B : Int)) ∧ w4 = w') := by
        have := topS R A3 _ cap3 g 262144 w4 hr
        rw [length_toTop] at this
        exact this
      have HL := Lib.hid (lenS R A3 _ cap3 g 262144 w4 hr)
      have HM1 := Lib.hid (min_any A B w4)
      have hmn : mnN A B ≤ 65536 := Nat.le_trans (mn_le A B).1 hA
      have HM2 := Lib.hid (min_any k (mnN A B) w4)
      have hKm : mnN k (mnN A B) ≤ k := (mn_le _ _).1
      have hBle := hr'.out
      clear hr hC hb hcap hm hA1 hRR hnx HS1 HS2 HNx HNx2 hBle
      generalize hK : mnN k (mnN A B) = K at *
      have hK' := Lib.hid hK
      generalize hM : mnN A B = M at *
      have hM' := Lib.hid hM
      clear hK hM
      go_wp2_with (go_at_call 12; refine HT.out.mono ?_; rintro e w' ⟨rfl, rfl⟩)
      refine HM1.out.mono ?_
      rintro e w5 ⟨rfl, rfl⟩
      go_wp2_with fail
      refine HM2.out.mono ?_
      rintro e w5 ⟨rfl, rfl⟩
      go_wp2_with fail
      go_loop [14] (fun i => ∃ q : Nat, q ≤ B ∧ i = .int .i64 q) (fun i => B - (intOf i).toNat)
      case atStart => exact ⟨0, Nat.zero_le _, rfl⟩
      case round =>
        obtain ⟨q, hq, rfl⟩ := hrel
        by_cases hlt : q < B
        · have hget := twice_get zs k A B q hle hlt
          rw [hM'.out, hK'.out] at hget
          by_cases hqk : q < K
          · rw [if_pos hqk] at hget
            have hc0 : Hid (Calls Tryz.prog 15 #[.pointer (some ⟨R, 0, none⟩), .int .i64 q] w4 fun e w' => e = .returned (.tuple #[.int .i64 2, .float .f64 (floatOfInt .f64 (zs[q]?.getD 0))]) ∧ w4 = w') := slotS R A3 _ cap3 g 262144 q _ w4 hr'.out hget
            obtain rfl : ao = some ⟨w.heap.size, 0, none⟩ := (hao2.out (by omega)).1
            have hqk2 : q < k := by omega
            have cs : w4.cell? ⟨w.heap.size, q, none⟩ = some (.int .i32 (zs.getD q 0)) := get_cell (hC'.out (by omega)).2.2 hqk2 hle
            clear hget
            go_wp2_with (go_at_call 15; refine hc0.out.mono ?_; rintro e w' ⟨rfl, rfl⟩)
            go_round
            case rel => exact ⟨q + 1, by omega, by go_num⟩
            case measure => simp [intOf]; omega
          · rw [if_neg hqk] at hget
            have hc0 : Hid (Calls Tryz.prog 15 #[.pointer (some ⟨R, 0, none⟩), .int .i64 q] w4 fun e w' => e = .returned (.tuple #[.int .i64 1, .float .f64 0]) ∧ w4 = w') := slotS R A3 _ cap3 g 262144 q _ w4 hr'.out hget
            clear hget
            go_wp2_with (go_at_call 15; refine hc0.out.mono ?_; rintro e w' ⟨rfl, rfl⟩)
            go_round
            case rel => exact ⟨q + 1, by omega, by go_num⟩
            case measure => simp [intOf]; omega
        · obtain rfl : q = B := by omega
          have hqc : q ≤ cap3 := by obtain ⟨xs, _, _, h, _⟩ := hr'.out; rw [length_toTop] at h; exact h
          go_wp2_with (go_at_call 14; refine HL.out.mono ?_; rintro e w' ⟨rfl, rfl⟩)
          go_loop [18] (fun i => ∃ r : Nat, q ≤ r ∧ r ≤ cap3 ∧ i = .int .i64 r) (fun i => cap3 - (intOf i).toNat)
          case atStart => exact ⟨q, Nat.le_refl _, hqc, rfl⟩
          case round =>
            obtain ⟨r, hqr, hr2, rfl⟩ := hrel
            by_cases hlt2 : r < cap3
            · obtain ⟨v, hv, hc⟩ := slotC R A3 _ cap3 g 262144 r w4 hr'.out (by rw [length_toTop]; exact hqr) hlt2
              rcases hv with rfl | rfl
              · have hc0 : Hid (Calls Tryz.prog 15 #[.pointer (some ⟨R, 0, none⟩), .int .i64 r] w4 fun e w' => e = .returned (.tuple #[.int .i64 0, .float .f64 0]) ∧ w4 = w') := hc
                clear hc
                go_wp2_with (go_at_call 15; refine hc0.out.mono ?_; rintro e w' ⟨rfl, rfl⟩)
                go_round
                case rel => exact ⟨r + 1, by omega, by omega, by go_num⟩
                case measure => simp [intOf]; omega
              · have hc0 : Hid (Calls Tryz.prog 15 #[.pointer (some ⟨R, 0, none⟩), .int .i64 r] w4 fun e w' => e = .returned (.tuple #[.int .i64 1, .float .f64 0]) ∧ w4 = w') := hc
                clear hc
                go_wp2_with (go_at_call 15; refine hc0.out.mono ?_; rintro e w' ⟨rfl, rfl⟩)
                go_round
                case rel => exact ⟨r + 1, by omega, by omega, by go_num⟩
                case measure => simp [intOf]; omega
            · go_wp2
              go_ret
              exact ⟨rfl, hb'.out⟩

theorem twice_any (n g : Int) (a : Option Addr) (len cap : Nat) (zs : List Int) (x y : Int) (w : World) (hrow : IsRow .i32 w a len cap zs) :
    Calls Tryz.prog 5 #[.int .i64 n, .int .i64 g, .slice a len cap, .int .i64 x, .int .i64 y] w fun e w' => e = .returned (.bool true) ∧ Below w.heap.size w w' := by
  by_cases h : Good5 n g len x y
  · obtain ⟨h1, h2, h3, h4, h5, h6, h7, h8, h9⟩ := h
    obtain ⟨N, rfl⟩ := Int.eq_ofNat_of_zero_le h2
    obtain ⟨G, rfl⟩ := Int.eq_ofNat_of_zero_le h4
    obtain ⟨X, rfl⟩ := Int.eq_ofNat_of_zero_le h6
    obtain ⟨Y, rfl⟩ := Int.eq_ofNat_of_zero_le h8
    exact twice_main N G X Y a len cap zs w h1 (by omega) (by omega) (by omega) (by omega) hrow
  · exact (twice_out n g a len cap x y w h).mono fun e w' ⟨he, hw⟩ => ⟨he, hw ▸ Below.refl _ _⟩
end Go.Proofs.YtdnomaafjmfdkaaGreatDoor
