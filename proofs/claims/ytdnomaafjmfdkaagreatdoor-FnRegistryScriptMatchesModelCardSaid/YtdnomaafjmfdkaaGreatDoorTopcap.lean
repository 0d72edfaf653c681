/-
  The walk of FnRegistryTopWithinCapacity: for every argument the call returns true and turns nothing that was there.
-/
import Derived.Test.YtdnomaafjmfdkaaGreatDoorLifo
namespace Go.Proofs.YtdnomaafjmfdkaaGreatDoor
open Go.RowKit
set_option maxRecDepth 100000
set_option maxHeartbeats 400000

theorem bytes16_yes (n g m : Int) (a : Option Addr) (len cap : Nat) (w : World) (h : len ≤ 1048576) :
    Calls Tryz.prog 16 #[.int .i64 n, .int .i64 g, .int .i64 m, .slice a len cap] w fun e w' => e = .returned (.bool true) ∧ w = w' := by
  have h1 : decide (1048576 < len) = false := by simp; omega
  have h2 : decide ((1048576 : Int) < (len : Int)) = false := by simp; omega
  go_enter Tryz.func16, Tryz.ntmps16
  go_wp2
  go_ret
  exact ⟨rfl, rfl⟩

theorem bytes16_no (n g m : Int) (a : Option Addr) (len cap : Nat) (w : World) (h : 1048576 < len) :
    Calls Tryz.prog 16 #[.int .i64 n, .int .i64 g, .int .i64 m, .slice a len cap] w fun e w' => e = .returned (.bool false) ∧ w = w' := by
  have h2 : (1048576 : Int) < (len : Int) := by omega
  go_enter Tryz.func16, Tryz.ntmps16
  go_wp2
  go_ret
  exact ⟨rfl, rfl⟩

def Good4 (n g m : Int) (len : Nat) : Prop := len ≤ 65536 ∧ 0 ≤ n ∧ n ≤ 65536 ∧ 0 ≤ g ∧ g ≤ 1073741824 ∧ 4096 + (len : Int) ≤ m ∧ m ≤ 1048576

theorem top_out (n g m : Int) (a : Option Addr) (len cap : Nat) (w : World) (h : ¬ Good4 n g m len) :
    Calls Tryz.prog 4 #[.int .i64 n, .int .i64 g, .int .i64 m, .slice a len cap] w fun e w' => e = .returned (.bool true) ∧ w = w' := by
  by_cases h0 : 1048576 < len
  · have HC := Lib.hid (bytes16_no n g m a len cap w h0)
    clear h0 h
    go_enter Tryz.func4, Tryz.ntmps4
    go_wp2_with (go_at_call 16; refine HC.out.mono ?_; rintro e w' ⟨rfl, rfl⟩)
    go_ret
    exact ⟨rfl, rfl⟩
  · have HC := Lib.hid (bytes16_yes n g m a len cap w (by omega))
    by_cases h1 : 65536 < len
    · have h1' : (65536 : Int) < (len : Int) := by omega
      clear h0 h
      go_enter Tryz.func4, Tryz.ntmps4
      go_wp2_with (go_at_call 16; refine HC.out.mono ?_; rintro e w' ⟨rfl, rfl⟩)
      go_ret
      exact ⟨rfl, rfl⟩
    · have h1' : ¬ (65536 : Int) < (len : Int) := by omega
      clear h0
      by_cases h2 : n < 0
      · clear h
        go_enter Tryz.func4, Tryz.ntmps4
        go_wp2_with (go_at_call 16; refine HC.out.mono ?_; rintro e w' ⟨rfl, rfl⟩)
        go_ret
        exact ⟨rfl, rfl⟩
      · skip
        by_cases h3 : 65536 < n
        · clear h
          go_enter Tryz.func4, Tryz.ntmps4
          go_wp2_with (go_at_call 16; refine HC.out.mono ?_; rintro e w' ⟨rfl, rfl⟩)
          go_ret
          exact ⟨rfl, rfl⟩
        · skip
          by_cases h4 : g < 0
          · clear h
            go_enter Tryz.func4, Tryz.ntmps4
            go_wp2_with (go_at_call 16; refine HC.out.mono ?_; rintro e w' ⟨rfl, rfl⟩)
            go_ret
            exact ⟨rfl, rfl⟩
          · skip
            by_cases h5 : 1073741824 < g
            · clear h
              go_enter Tryz.func4, Tryz.ntmps4
              go_wp2_with (go_at_call 16; refine HC.out.mono ?_; rintro e w' ⟨rfl, rfl⟩)
              go_ret
              exact ⟨rfl, rfl⟩
            · skip
              by_cases h6 : m < 4096 + (len : Int)
              · clear h
                go_enter Tryz.func4, Tryz.ntmps4
                go_wp2_with (go_at_call 16; refine HC.out.mono ?_; rintro e w' ⟨rfl, rfl⟩)
                go_ret
                exact ⟨rfl, rfl⟩
              · skip
                have h7 : 1048576 < m := by unfold Good4 at h; omega
                clear h
                go_enter Tryz.func4, Tryz.ntmps4
                go_wp2_with (go_at_call 16; refine HC.out.mono ?_; rintro e w' ⟨rfl, rfl⟩)
                go_ret
                exact ⟨rfl, rfl⟩


/-- The greater of two. -/
def mxN (x y : Nat) : Nat := if y < x then x else y
theorem mx_ge (x y : Nat) : x ≤ mxN x y ∧ y ≤ mxN x y ∧ mxN x y = max x y := by unfold mxN; split <;> omega
theorem max_any (x y : Nat) (w : World) :
    Calls Tryz.prog 17 #[.int .i64 x, .int .i64 y] w fun e w' => e = .returned (.int .i64 (mxN x y)) ∧ w = w' := by
  by_cases h : y < x
  · have hm : mxN x y = x := if_pos h
    rw [hm]
    clear hm
    go_enter Tryz.func17, Tryz.ntmps17
    go_wp2
    go_ret
    exact ⟨rfl, rfl⟩
  · have hm : mxN x y = y := if_neg h
    rw [hm]
    clear hm
    go_enter Tryz.func17, Tryz.ntmps17
    go_wp2
    go_ret
    exact ⟨rfl, rfl⟩

/-- As 'St', the array and its length named. -/
def StC (w wr : World) (R A cap : Nat) (zs : List Int) (len : Nat) (g m : Nat) (st : List Value) : Prop :=
  RegS wr R A st cap g m ∧ w.heap.size ≤ A ∧ w.heap.size ≤ R ∧
    (0 < len → w.heap.size < A ∧ w.heap.size < R ∧ wr.heap[w.heap.size]? = some (.cells ((zs.take len).map (Value.int .i32)).toArray 21 (0, 0))) ∧ Below w.heap.size w wr

theorem StC.next {w wr w' : World} {R A cap : Nat} {zs : List Int} {len g m : Nat} {st st' : List Value} (h : StC w wr R A cap zs len g m st) (hn : Next R A st' cap g m wr w') :
    ∃ A' cap', StC w w' R A' cap' zs len g m st' ∧ cap ≤ cap' ∧ cap' ≤ max cap m := by
  obtain ⟨hr, hA, hR, hC, hb⟩ := h
  obtain ⟨A', cap', h1, h2, h3, h4, h5⟩ := hn
  have hs := hr.size
  refine ⟨A', cap', ⟨h1, by omega, hR, fun h => ?_, Keeps.below_of hb h4 (by omega) (fun n hn ht => by rcases ht with e | e <;> omega)⟩, h2, h3⟩
  obtain ⟨c1, c2, c3⟩ := hC h
  exact ⟨by omega, c2, (h4.block _ (by omega) (fun ht => by rcases ht with e | e <;> omega)).trans c3⟩

theorem StC.start {w w1 w2 : World} {zs : List Int} {len g m n : Nat} {ao : Option Addr} (hr : RegS w2 (w1.heap.size + 1) w1.heap.size [] n g m) (hb2 : Below w1.heap.size w1 w2)
    (hc : 0 < len → ao = some ⟨w.heap.size, 0, none⟩ ∧ w1.heap[w.heap.size]? = some (.cells ((zs.take len).map (Value.int .i32)).toArray 21 (0, 0))) (hb1 : Below w.heap.size w w1) : StC w w2 (w1.heap.size + 1) w1.heap.size n zs len g m [] := by
  have hs := hb1.size
  refine ⟨hr, hs, by omega, fun h => ?_, hb1.trans (hb2.mono hs)⟩
  have h1 := (hc h).2
  have hlt := lt_of h1
  exact ⟨hlt, by omega, (hb2.block _ hlt).trans h1⟩

theorem top_main (n g m : Nat) (a : Option Addr) (len cap : Nat) (zs : List Int) (w : World) (hlen : len ≤ 65536) (hn : n ≤ 65536) (hg : g ≤ 1073741824) (hm1 : 4096 + len ≤ m) (hm2 : m ≤ 1048576) (hrow : IsRow .i32 w a len cap zs) :
    Calls Tryz.prog 4 #[.int .i64 n, .int .i64 g, .int .i64 m, .slice a len cap] w fun e w' => e = .returned (.bool true) ∧ Below w.heap.size w w' := by
  have HB := Lib.hid (bytes16_yes n g m a len cap w (by omega))
  have HP := Lib.hid (copy_any a len cap zs w (by omega) hrow)
  have hle := hrow.le
  have HN' := Lib.hid (fun W : World => newS n g m W hn)
  have HX := Lib.hid (fun W : World => max_any n m W)
  have g1 : ¬ (65536 : Int) < (len : Int) := by omega
  have g2 : ¬ (n : Int) < 0 := by omega
  have g3 : ¬ (65536 : Int) < (n : Int) := by omega
  have g4 : ¬ (g : Int) < 0 := by omega
  have g5 : ¬ (1073741824 : Int) < (g : Int) := by omega
  have g6 : ¬ (m : Int) < 4096 + (len : Int) := by omega
  have g7 : ¬ (1048576 : Int) < (m : Int) := by omega
  clear hrow
  go_enter Tryz.func4, Tryz.ntmps4
  go_wp2_with (go_at_call 16; refine HB.out.mono ?_; rintro e w' ⟨rfl, rfl⟩)
  refine HP.out.mono ?_
  rintro e w1 ⟨v, rfl, ao, rfl, hao⟩
  have hao' := Lib.hid hao
  clear hao
  go_wp2_with fail
  refine (HN'.out _).mono ?_
  rintro e w2 ⟨rfl, hr2⟩
  have hr2' := Lib.hid hr2
  have HL := Lib.hid (lenS _ _ _ n g m w2 hr2.1)
  clear hr2
  go_wp2_with fail
  refine (HX.out _).mono ?_
  rintro e w2' ⟨rfl, rfl⟩
  go_wp2_with fail
  refine HL.out.mono ?_
  rintro e w2' ⟨rfl, rfl⟩
  have hmx := mx_ge n m
  have hst0 : Hid (∃ st A, st.length ≤ 4096 + 0 ∧ StC w w2 (w1.heap.size + 1) A n zs len g m st) := ⟨[], _, Nat.zero_le _, StC.start hr2'.out.1 hr2'.out.2 hao'.out.1 hao'.out.2⟩
  generalize hR : w1.heap.size + 1 = R at *
  clear hR
  have hao2 := Lib.hid hao'.out.1
  have hmx2 : mxN n m ≤ 1048576 := by rw [hmx.2.2]; omega
  have hmx' := Lib.hid hmx
  generalize mxN n m = mx at *
  clear hr2' hao' HB HP HN' HX HL g1 g2 g3 g4 g5 g6 g7 hmx
  go_wp2_with fail
  go_loopw [11, 12] (fun p i wr => ∃ k cap' : Nat, k ≤ len ∧ i = .int .i64 k ∧ p = .int .i64 cap' ∧ cap' ≤ mx ∧ Hid (∃ st A, st.length ≤ 4096 + k ∧ StC w wr R A cap' zs len g m st)) (fun _ i _ => len - (intOf i).toNat)
  case atStart => exact ⟨0, n, Nat.zero_le _, rfl, rfl, hmx'.out.1, hst0⟩
  case round =>
    obtain ⟨k, cap', hk, rfl, rfl, hcm, hst⟩ := hrel
    by_cases hlt : k < len
    · obtain ⟨st, A, hsl, hst⟩ := hst.out
      obtain rfl : ao = some ⟨w.heap.size, 0, none⟩ := (hao2.out (by omega)).1
      have cs : wr.cell? ⟨w.heap.size, k, none⟩ = some (.int .i32 (zs.getD k 0)) := get_cell (hst.2.2.2.1 (by omega)).2.2 hlt hle
      generalize zs.getD k 0 = z at *
      have hst' := Lib.hid hst
      clear hst
      have hT0 : 0 ≤ z % 4294967296 / 4 % 4097 := by omega
      have hT1 : z % 4294967296 / 4 % 4097 ≤ 4096 := by omega
      obtain ⟨T, hT⟩ := Int.eq_ofNat_of_zero_le hT0
      have hT4 : T ≤ 4096 := by omega
      have HPu := Lib.hid (pushS R A st cap' g m (floatOfInt .f64 z) wr (by omega) hg (by omega) (by omega) hst'.out.1)
      have HTo := Lib.hid (topS R A st cap' g m wr hst'.out.1)
      have HSt : Hid (Calls Tryz.prog 18 #[.pointer (some ⟨R, 0, none⟩), .int .i64 (z % 4294967296 / 4 % 4097)] wr fun e w' => e = .returned (.tuple #[]) ∧ Next R A (toTop st T) cap' g m wr w') := by
        rw [hT]; exact settopS R A st T cap' g m wr (by omega) hg (by omega) (by omega) hst'.out.1
      -- what every way comes to behind its operation
      have HE : ∀ st' w5, st'.length ≤ 4096 + (k + 1) → Next R A st' cap' g m wr w5 → ∃ A5 cap5 : Nat, cap' ≤ cap5 ∧ cap5 ≤ mx ∧ st'.length ≤ cap5 ∧ StC w w5 R A5 cap5 zs len g m st' ∧
          Hid (Calls Tryz.prog 12 #[.pointer (some ⟨R, 0, none⟩)] w5 fun e w' => e = .returned (.int .i64 st'.length) ∧ w5 = w') ∧ Hid (Calls Tryz.prog 14 #[.pointer (some ⟨R, 0, none⟩)] w5 fun e w' => e = .returned (.int .i64 cap5) ∧ w5 = w') := by
        intro st' w5 hl hn5
        obtain ⟨A5, cap5, h1, h2, h3⟩ := hst'.out.next hn5
        have h4 : st'.length ≤ cap5 := by obtain ⟨⟨xs, _, _, h, _⟩, _⟩ := h1; exact h
        have hmxo := hmx'.out
        exact ⟨A5, cap5, h2, by omega, h4, h1, topS R A5 st' cap5 g m w5 h1.1, lenS R A5 st' cap5 g m w5 h1.1⟩
      have HE' := Lib.hid HE
      have hsl' := hsl
      clear HE hT0 hT1
      have hTT := Lib.hid hT
      clear hT
      go_wp2_with fail
      · refine HPu.out.mono ?_
        rintro e w5 ⟨rfl, hn5⟩
        obtain ⟨A5, cap5, h1, h2, h3, h4, h5, h6⟩ := HE'.out _ _ (by simp; omega) hn5
        have h4' := Lib.hid h4
        have hl5 : (st ++ [NUM (floatOfInt FloatKind.f64 z)]).length ≤ 4096 + (k + 1) := by simp; omega
        generalize (st ++ [NUM (floatOfInt FloatKind.f64 z)]) = st5 at *
        generalize hL5 : st5.length = L5 at *
        have hL5' := Lib.hid hL5
        clear h4 hn5 hL5
        go_wp2_with (first | (go_at_call 12; refine h5.out.mono ?_; rintro e w' ⟨rfl, rfl⟩) | (go_at_call 14; refine h6.out.mono ?_; rintro e w' ⟨rfl, rfl⟩))
        go_roundw
        case rel => exact ⟨k + 1, cap5, by omega, by go_num, rfl, h2, st5, A5, by rw [hL5'.out]; exact hl5, h4'.out⟩
        case measure => simp [intOf]; omega
      · refine HTo.out.mono ?_
        rintro e w' ⟨rfl, rfl⟩
        rcases List.eq_nil_or_concat st with rfl | ⟨st5, x, rfl⟩
        · have hz0 : ((([] : List Value).length : Int) == 0) = true := rfl
          go_wp2_with fail
          go_roundw
          case rel => exact ⟨k + 1, cap', by omega, by go_num, rfl, hcm, [], A, by simp, hst'.out⟩
          case measure => simp [intOf]; omega
        · rw [List.concat_eq_append] at *
          have hz0 : (((st5 ++ [x]).length : Int) == 0) = false := by simp; omega
          have HPo := Lib.hid (popS R A st5 x cap' g m wr (by omega) hst'.out.1)
          generalize hLL : (st5 ++ [x]).length = LL at *
          have hLL' := Lib.hid hLL
          clear hLL
          go_wp2_with fail
          refine HPo.out.mono ?_
          rintro e w5 ⟨rfl, hr5, hk5⟩
          obtain ⟨A5, cap5, h1, h2, h3, h4, h5, h6⟩ := HE'.out st5 w5 (by have := hLL'.out; simp at this; omega) ⟨A, cap', hr5, Nat.le_refl _, Nat.le_max_left _ _, hk5, Or.inl rfl⟩
          have h4' := Lib.hid h4
          have hl5 : st5.length ≤ 4096 + (k + 1) := by have := hLL'.out; simp at this; omega
          generalize hL5 : st5.length = L5 at *
          have hL5' := Lib.hid hL5
          clear h4 hr5 hk5 hL5
          go_wp2_with (first | (go_at_call 12; refine h5.out.mono ?_; rintro e w' ⟨rfl, rfl⟩) | (go_at_call 14; refine h6.out.mono ?_; rintro e w' ⟨rfl, rfl⟩))
          go_roundw
          case rel => exact ⟨k + 1, cap5, by omega, by go_num, rfl, h2, st5, A5, by rw [hL5'.out]; exact hl5, h4'.out⟩
          case measure => simp [intOf]; omega
      · refine HSt.out.mono ?_
        rintro e w5 ⟨rfl, hn5⟩
        obtain ⟨A5, cap5, h1, h2, h3, h4, h5, h6⟩ := HE'.out _ _ (by rw [length_toTop]; omega) hn5
        have h4' := Lib.hid h4
        have hl5 : (toTop st T).length ≤ 4096 + (k + 1) := by rw [length_toTop]; omega
        generalize toTop st T = st5 at *
        generalize hL5 : st5.length = L5 at *
        have hL5' := Lib.hid hL5
        clear h4 hn5 hL5
        go_wp2_with (first | (go_at_call 12; refine h5.out.mono ?_; rintro e w' ⟨rfl, rfl⟩) | (go_at_call 14; refine h6.out.mono ?_; rintro e w' ⟨rfl, rfl⟩))
        go_roundw
        case rel => exact ⟨k + 1, cap5, by omega, by go_num, rfl, h2, st5, A5, by rw [hL5'.out]; exact hl5, h4'.out⟩
        case measure => simp [intOf]; omega
    · obtain rfl : k = len := by omega
      obtain ⟨st, A, hsl, hst⟩ := hst.out
      have hb' := Lib.hid hst.2.2.2.2
      clear hst
      go_wp2
      go_ret
      exact ⟨rfl, hb'.out⟩

theorem top4_any (n g m : Int) (a : Option Addr) (len cap : Nat) (zs : List Int) (w : World) (hrow : IsRow .i32 w a len cap zs) :
    Calls Tryz.prog 4 #[.int .i64 n, .int .i64 g, .int .i64 m, .slice a len cap] w fun e w' => e = .returned (.bool true) ∧ Below w.heap.size w w' := by
  by_cases h : Good4 n g m len
  · obtain ⟨h1, h2, h3, h4, h5, h6, h7⟩ := h
    obtain ⟨N, rfl⟩ := Int.eq_ofNat_of_zero_le h2
    obtain ⟨G, rfl⟩ := Int.eq_ofNat_of_zero_le h4
    obtain ⟨M, rfl⟩ := Int.eq_ofNat_of_zero_le (show 0 ≤ m by omega)
    exact top_main N G M a len cap zs w h1 (by omega) (by omega) (by omega) (by omega) hrow
  · exact (top_out n g m a len cap w h).mono fun e w' ⟨he, hw⟩ => ⟨he, hw ▸ Below.refl _ _⟩
end Go.Proofs.YtdnomaafjmfdkaaGreatDoor
