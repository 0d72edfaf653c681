/-
  The walk of FnRegistryPushLifo: for every initial size, growth step and slice the call returns true and turns nothing that was there.
-/
import Derived.Test.YtdnomaafjmfdkaaGreatDoorCopy
import Derived.Test.YtdnomaafjmfdkaaGreatDoorFloat
namespace Go.Proofs.YtdnomaafjmfdkaaGreatDoor
open Go.RowKit
set_option maxRecDepth 100000
set_option maxHeartbeats 400000

theorem bytes8_yes (n g : Int) (a : Option Addr) (len cap : Nat) (w : World) (h : len ≤ 1048576) :
    Calls Tryz.prog 8 #[.int .i64 n, .int .i64 g, .slice a len cap] w fun e w' => e = .returned (.bool true) ∧ w = w' := by
  have h1 : decide (1048576 < len) = false := by simp; omega
  have h2 : decide ((1048576 : Int) < (len : Int)) = false := by simp; omega
  go_enter Tryz.func8, Tryz.ntmps8
  go_wp2
  go_ret
  exact ⟨rfl, rfl⟩

theorem bytes8_no (n g : Int) (a : Option Addr) (len cap : Nat) (w : World) (h : 1048576 < len) :
    Calls Tryz.prog 8 #[.int .i64 n, .int .i64 g, .slice a len cap] w fun e w' => e = .returned (.bool false) ∧ w = w' := by
  have h2 : (1048576 : Int) < (len : Int) := by omega
  go_enter Tryz.func8, Tryz.ntmps8
  go_wp2
  go_ret
  exact ⟨rfl, rfl⟩

def Good3 (n g : Int) (len : Nat) : Prop := len ≤ 65536 ∧ 0 ≤ n ∧ n ≤ 65536 ∧ 0 ≤ g ∧ g ≤ 1073741824

theorem lifo_out (n g : Int) (a : Option Addr) (len cap : Nat) (w : World) (h : ¬ Good3 n g len) :
    Calls Tryz.prog 3 #[.int .i64 n, .int .i64 g, .slice a len cap] w fun e w' => e = .returned (.bool true) ∧ w = w' := by
  by_cases h0 : 1048576 < len
  · have HC := Lib.hid (bytes8_no n g a len cap w h0)
    clear h0 h
    go_enter Tryz.func3, Tryz.ntmps3
    go_wp2_with (go_at_call 8; refine HC.out.mono ?_; rintro e w' ⟨rfl, rfl⟩)
    go_ret
    exact ⟨rfl, rfl⟩
  · have HC := Lib.hid (bytes8_yes n g a len cap w (by omega))
    by_cases h1 : 65536 < len
    · have h1' : (65536 : Int) < (len : Int) := by omega
      clear h0 h
      go_enter Tryz.func3, Tryz.ntmps3
      go_wp2_with (go_at_call 8; refine HC.out.mono ?_; rintro e w' ⟨rfl, rfl⟩)
      go_ret
      exact ⟨rfl, rfl⟩
    · have h1' : ¬ (65536 : Int) < (len : Int) := by omega
      clear h0
      by_cases h2 : n < 0
      · clear h
        go_enter Tryz.func3, Tryz.ntmps3
        go_wp2_with (go_at_call 8; refine HC.out.mono ?_; rintro e w' ⟨rfl, rfl⟩)
        go_ret
        exact ⟨rfl, rfl⟩
      · by_cases h3 : 65536 < n
        · clear h
          go_enter Tryz.func3, Tryz.ntmps3
          go_wp2_with (go_at_call 8; refine HC.out.mono ?_; rintro e w' ⟨rfl, rfl⟩)
          go_ret
          exact ⟨rfl, rfl⟩
        · by_cases h4 : g < 0
          · clear h
            go_enter Tryz.func3, Tryz.ntmps3
            go_wp2_with (go_at_call 8; refine HC.out.mono ?_; rintro e w' ⟨rfl, rfl⟩)
            go_ret
            exact ⟨rfl, rfl⟩
          · have h5 : 1073741824 < g := by unfold Good3 at h; omega
            clear h
            go_enter Tryz.func3, Tryz.ntmps3
            go_wp2_with (go_at_call 8; refine HC.out.mono ?_; rintro e w' ⟨rfl, rfl⟩)
            go_ret
            exact ⟨rfl, rfl⟩

/-- A number as the registry holds it. -/
def num (z : Int) : Value := NUM (floatOfInt .f64 z)

/-- The registry at R holds st; the copied numbers lie in the block w.heap.size; nothing that was there when the call began has turned. -/
def St (w wr : World) (R : Nat) (zs : List Int) (len : Nat) (g m top : Nat) (st : List Value) : Prop :=
  ∃ A cap, RegS wr R A st cap g m ∧ cap ≤ top ∧ m ≤ top ∧ w.heap.size ≤ A ∧ w.heap.size ≤ R ∧
    (0 < len → w.heap.size < A ∧ w.heap.size < R ∧ wr.heap[w.heap.size]? = some (.cells ((zs.take len).map (Value.int .i32)).toArray 21 (0, 0))) ∧ Below w.heap.size w wr

theorem St.next {w wr w' : World} {R A cap : Nat} {zs : List Int} {len g m top : Nat} {st st' : List Value} (hr : RegS wr R A st cap g m) (hcap : cap ≤ top) (hm : m ≤ top) (hA : w.heap.size ≤ A) (hR : w.heap.size ≤ R)
    (hC : 0 < len → w.heap.size < A ∧ w.heap.size < R ∧ wr.heap[w.heap.size]? = some (.cells ((zs.take len).map (Value.int .i32)).toArray 21 (0, 0))) (hb : Below w.heap.size w wr) (hn : Next R A st' cap g m wr w') : St w w' R zs len g m top st' := by
  obtain ⟨A', cap', h1, h2, h3, h4, h5⟩ := hn
  have hs := hr.size
  refine ⟨A', cap', h1, Nat.le_trans h3 (Nat.max_le.2 ⟨hcap, hm⟩), hm, by omega, hR, fun h => ?_, Keeps.below_of hb h4 (by omega) (fun n hn ht => by rcases ht with e | e <;> omega)⟩
  obtain ⟨c1, c2, c3⟩ := hC h
  exact ⟨by omega, c2, (h4.block _ (by omega) (fun ht => by rcases ht with e | e <;> omega)).trans c3⟩

theorem St.start {w w1 w2 : World} {zs : List Int} {len g m top n : Nat} {ao : Option Addr} (hr : RegS w2 (w1.heap.size + 1) w1.heap.size [] n g m) (hb2 : Below w1.heap.size w1 w2) (hn : n ≤ top) (hm : m ≤ top)
    (hc : 0 < len → ao = some ⟨w.heap.size, 0, none⟩ ∧ w1.heap[w.heap.size]? = some (.cells ((zs.take len).map (Value.int .i32)).toArray 21 (0, 0))) (hb1 : Below w.heap.size w w1) : St w w2 (w1.heap.size + 1) zs len g m top [] := by
  have hs := hb1.size
  refine ⟨_, n, hr, hn, hm, hs, by omega, fun h => ?_, hb1.trans (hb2.mono hs)⟩
  have h1 := (hc h).2
  have hlt := lt_of h1
  exact ⟨hlt, by omega, (hb2.block _ hlt).trans h1⟩

theorem get_cell {w : World} {C len k : Nat} {zs : List Int} (hC : w.heap[C]? = some (.cells ((zs.take len).map (Value.int .i32)).toArray 21 (0, 0))) (hk : k < len) (hle : len ≤ zs.length) : w.cell? ⟨C, k, none⟩ = some (.int .i32 (zs.getD k 0)) := by
  rw [cell_of hC]
  simp [hk, show k < zs.length by omega]

theorem take_num (zs : List Int) (k : Nat) (h : k < zs.length) : ((zs.take (k + 1)).map num) = (zs.take k).map num ++ [NUM (floatOfInt .f64 (zs[k]?.getD 0))] := by
  rw [List.take_succ_eq_append_getElem h, List.map_append]
  simp [num, h]

theorem lifo_main (n g : Nat) (a : Option Addr) (len cap : Nat) (zs : List Int) (w : World) (hlen : len ≤ 65536) (hn : n ≤ 65536) (hg : g ≤ 1073741824) (hrow : IsRow .i32 w a len cap zs) :
    Calls Tryz.prog 3 #[.int .i64 n, .int .i64 g, .slice a len cap] w fun e w' => e = .returned (.bool true) ∧ Below w.heap.size w w' := by
  have HB := Lib.hid (bytes8_yes n g a len cap w (by omega))
  have HP := Lib.hid (copy_any a len cap zs w (by omega) hrow)
  have hle := hrow.le
  have HN : ∀ W : World, Calls Tryz.prog 10 #[.int .i64 n, .int .i64 g, .int .i64 262144] W fun e w' => e = .returned (.pointer (some ⟨W.heap.size + 1, 0, none⟩)) ∧ RegS w' (W.heap.size + 1) W.heap.size [] n g 262144 ∧ Below W.heap.size W w' := fun W => newS n g 262144 W hn
  have HN' := Lib.hid HN
  have g1 : ¬ (65536 : Int) < (len : Int) := by omega
  have g2 : ¬ (n : Int) < 0 := by omega
  have g3 : ¬ (65536 : Int) < (n : Int) := by omega
  have g4 : ¬ (g : Int) < 0 := by omega
  have g5 : ¬ (1073741824 : Int) < (g : Int) := by omega
  clear HN hrow
  go_enter Tryz.func3, Tryz.ntmps3
  go_wp2_with (go_at_call 8; refine HB.out.mono ?_; rintro e w' ⟨rfl, rfl⟩)
  refine HP.out.mono ?_
  rintro e w1 ⟨v, rfl, ao, rfl, hao⟩
  have hao' := Lib.hid hao
  clear hao
  go_wp2_with fail
  refine (HN'.out _).mono ?_
  rintro e w2 ⟨rfl, hr2⟩
  have hr2' := Lib.hid hr2
  clear hr2
  go_wp2_with fail
  have hst0 : Hid (St w w2 (w1.heap.size + 1) zs len g 262144 262144 []) := St.start hr2'.out.1 hr2'.out.2 (by omega) (by omega) hao'.out.1 hao'.out.2
  generalize hR : w1.heap.size + 1 = R at *
  have hR' := Lib.hid hR
  clear hR
  have hao2 := Lib.hid hao'.out.1
  clear hr2' hao'
  have ho := FPlain.ofInt_self
  go_loopw [8] (fun i wr => ∃ k : Nat, k ≤ len ∧ i = .int .i64 k ∧ Hid (St w wr R zs len g 262144 262144 ((zs.take k).map num))) (fun i _ => len - (intOf i).toNat)
  case atStart => exact ⟨0, Nat.zero_le _, rfl, hst0⟩
  case round =>
    obtain ⟨k, hk, rfl, hst⟩ := hrel
    by_cases hlt : k < len
    · obtain ⟨A, cap', hr, hcap, hm, hA, hRR, hC, hb⟩ := hst.out
      obtain rfl : ao = some ⟨w.heap.size, 0, none⟩ := (hao2.out (by omega)).1
      have cs : wr.cell? ⟨w.heap.size, k, none⟩ = some (.int .i32 (zs.getD k 0)) := get_cell (hC (by omega)).2.2 hlt hle
      have HPu := Lib.hid (fun b => pushS R A _ cap' g 262144 b wr (by omega) hg (by omega) (by simp; omega) hr)
      have HNx := Lib.hid (fun st' w' hn => St.next (zs := zs) (len := len) (st' := st') (w' := w') hr hcap hm hA hRR hC hb hn)
      clear hr hC hb hcap hm hA hRR hst
      go_wp2_with fail
      refine (HPu.out _).mono ?_
      rintro e w3 ⟨rfl, hnx⟩
      have hst3 := Lib.hid (HNx.out _ _ hnx)
      have HT : Hid (Calls Tryz.prog 12 #[.pointer (some ⟨R, 0, none⟩)] w3 fun e w' => e = .returned (.int .i64 ((k : Int) + 1)) ∧ w3 = w') := by
        obtain ⟨A3, cap3, hr3, _⟩ := hst3.out
        have := topS R A3 _ cap3 g 262144 w3 hr3
        rw [show ((List.map num (List.take k zs) ++ [NUM (floatOfInt FloatKind.f64 (zs[k]?.getD 0))]).length : Int) = (k : Int) + 1 by simp; omega] at this
        exact this
      clear hnx
      go_wp2_with (go_at_call 12; refine HT.out.mono ?_; rintro e w' ⟨rfl, rfl⟩)
      go_roundw
      case rel => exact ⟨k + 1, by omega, by go_num, by rw [take_num zs k (by omega)]; exact hst3⟩
      case measure => simp [intOf]; omega
    · obtain rfl : k = len := by omega
      go_wp2
      go_loopw [9] (fun i wr => ∃ z : Int, i = .int .i64 z ∧ -1 ≤ z ∧ z < (k : Int) ∧ Hid (St w wr R zs k g 262144 262144 ((zs.take (z + 1).toNat).map num))) (fun i _ => (intOf i + 1).toNat)
      case atStart => exact ⟨_, rfl, by omega, by omega, by rw [show (((k : Int) - 1 + 1).toNat) = k by omega]; exact hst⟩
      case round =>
        obtain ⟨z, rfl, hz1, hz2, hst⟩ := hrel
        by_cases hlt : 0 ≤ z
        · obtain ⟨j, rfl⟩ := Int.eq_ofNat_of_zero_le hlt
          obtain ⟨A, cap', hr, hcap, hm, hA, hRR, hC, hb⟩ := hst.out
          obtain rfl : ao = some ⟨w.heap.size, 0, none⟩ := (hao2.out (by omega)).1
          have hj : j < k := by omega
          rw [show (((j : Int) + 1).toNat) = j + 1 by omega, take_num zs j (by omega)] at hr
          have HPo : Hid (Calls Tryz.prog 13 #[.pointer (some ⟨R, 0, none⟩)] wr fun e w' => e = .returned (.tuple #[.int .i64 2, .float .f64 (floatOfInt .f64 (zs[j]?.getD 0))]) ∧ RegS w' R A (List.map num (List.take j zs)) cap' g 262144 ∧ Keeps (fun k => k = R ∨ k = A) wr w') := popS R A _ _ cap' g 262144 wr (by omega) hr
          have HNx := Lib.hid (fun st' w' hn => St.next (zs := zs) (len := k) (st' := st') (w' := w') hr hcap hm hA hRR hC hb hn)
          clear hr hC hb hcap hm hA hRR hst
          go_wp2_with fail
          refine HPo.out.mono ?_
          rintro e w3 ⟨rfl, hr3, hk3⟩
          have hst3 := Lib.hid (HNx.out _ _ ⟨A, cap', hr3, Nat.le_refl _, Nat.le_max_left _ _, hk3, Or.inl rfl⟩)
          have cs : w3.cell? ⟨w.heap.size, j, none⟩ = some (.int .i32 (zs.getD j 0)) := by
            obtain ⟨A3, cap3, _, _, _, _, _, hC3, _⟩ := hst3.out
            exact get_cell (hC3 (by omega)).2.2 hj hle
          have HT : Hid (Calls Tryz.prog 12 #[.pointer (some ⟨R, 0, none⟩)] w3 fun e w' => e = .returned (.int .i64 (j : Int)) ∧ w3 = w') := by
            have := topS R A _ cap' g 262144 w3 hr3
            rw [show ((List.map num (List.take j zs)).length : Int) = (j : Int) by simp; omega] at this
            exact this
          clear hr3 hk3
          go_wp2_with (go_at_call 12; refine HT.out.mono ?_; rintro e w' ⟨rfl, rfl⟩)
          go_roundw
          case rel => exact ⟨(j : Int) - 1, by go_num, by omega, by omega, by rw [show (((j : Int) - 1 + 1).toNat) = j by omega]; exact hst3⟩
          case measure => simp [intOf]
        · obtain rfl : z = -1 := by omega
          obtain ⟨A, cap', hr, hcap, hm, hA, hRR, hC, hb⟩ := hst.out
          have HL := Lib.hid (lenS R A _ cap' g 262144 wr hr)
          have hb' := Lib.hid hb
          have hr' := Lib.hid hr
          have hcb : cap' ≤ 262144 := hcap
          clear hr hb hC hcap hm hA hRR hst
          go_wp2_with (go_at_call 14; refine HL.out.mono ?_; rintro e w' ⟨rfl, rfl⟩)
          go_loop [13] (fun i => ∃ q : Nat, q ≤ cap' ∧ i = .int .i64 q) (fun i => cap' - (intOf i).toNat)
          case atStart => exact ⟨0, Nat.zero_le _, rfl⟩
          case round =>
            obtain ⟨q, hq, rfl⟩ := hrel
            by_cases hlt : q < cap'
            · obtain ⟨v, hv, hc⟩ := slotC R A _ cap' g 262144 q wr hr'.out (by simp) hlt
              rcases hv with rfl | rfl
              · have hc0 : Hid (Calls Tryz.prog 15 #[.pointer (some ⟨R, 0, none⟩), .int .i64 q] wr fun e w' => e = .returned (.tuple #[.int .i64 0, .float .f64 0]) ∧ wr = w') := hc
                clear hc
                go_wp2_with (go_at_call 15; refine hc0.out.mono ?_; rintro e w' ⟨rfl, rfl⟩)
                go_round
                case rel => exact ⟨q + 1, by omega, by go_num⟩
                case measure => simp [intOf]; omega
              · have hc0 : Hid (Calls Tryz.prog 15 #[.pointer (some ⟨R, 0, none⟩), .int .i64 q] wr fun e w' => e = .returned (.tuple #[.int .i64 1, .float .f64 0]) ∧ wr = w') := hc
                clear hc
                go_wp2_with (go_at_call 15; refine hc0.out.mono ?_; rintro e w' ⟨rfl, rfl⟩)
                go_round
                case rel => exact ⟨q + 1, by omega, by go_num⟩
                case measure => simp [intOf]; omega
            · go_wp2
              go_ret
              exact ⟨rfl, hb'.out⟩

theorem lifo_any (n g : Int) (a : Option Addr) (len cap : Nat) (zs : List Int) (w : World) (hrow : IsRow .i32 w a len cap zs) :
    Calls Tryz.prog 3 #[.int .i64 n, .int .i64 g, .slice a len cap] w fun e w' => e = .returned (.bool true) ∧ Below w.heap.size w w' := by
  by_cases h : Good3 n g len
  · obtain ⟨h1, h2, h3, h4, h5⟩ := h
    obtain ⟨N, rfl⟩ := Int.eq_ofNat_of_zero_le h2
    obtain ⟨G, rfl⟩ := Int.eq_ofNat_of_zero_le h4
    exact lifo_main N G a len cap zs w h1 (by omega) (by omega) hrow
  · exact (lifo_out n g a len cap w h).mono fun e w' ⟨he, hw⟩ => ⟨he, hw ▸ Below.refl _ _⟩
end Go.Proofs.YtdnomaafjmfdkaaGreatDoor
