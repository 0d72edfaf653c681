/-
  The walk of FnCreateTableIsEmptyForAnyHint: for every argument the call returns true and turns nothing that was there.
-/
import Derived.Test.YtbgolkdhcgjfkaaGreatDoorFresh
namespace Go.Proofs.YtbgolkdhcgjfkaaGreatDoor
open Go.RowKit
set_option maxRecDepth 100000
set_option maxHeartbeats 400000


theorem bytes11_yes (ac hc k : Int) (s : ByteArray) (w : World) (h : s.size ≤ 1048576) :
    Calls Tryz.prog 11 #[.int .i64 ac, .int .i64 hc, .int .i64 k, .string s] w fun e w' => e = .returned (.bool true) ∧ w = w' := by
  have h2 : ¬ (1048576 : Int) < (s.size : Int) := by omega
  go_enter Tryz.func11, Tryz.ntmps11
  go_wp2
  go_ret
  exact ⟨rfl, rfl⟩

theorem bytes11_no (ac hc k : Int) (s : ByteArray) (w : World) (h : 1048576 < s.size) :
    Calls Tryz.prog 11 #[.int .i64 ac, .int .i64 hc, .int .i64 k, .string s] w fun e w' => e = .returned (.bool false) ∧ w = w' := by
  have h2 : (1048576 : Int) < (s.size : Int) := by omega
  go_enter Tryz.func11, Tryz.ntmps11
  go_wp2
  go_ret
  exact ⟨rfl, rfl⟩

/-- Two tables, one behind the other: their blocks apart. -/
theorem hint_out (ac hc k : Int) (s : ByteArray) (w : World) (h : ¬ (ac ≤ 65536 ∧ hc ≤ 65536 ∧ s.size ≤ 65536)) :
    Calls Tryz.prog 4 #[.int .i64 ac, .int .i64 hc, .int .i64 k, .string s] w fun e w' => e = .returned (.bool true) ∧ w = w' := by
  by_cases h0 : 1048576 < s.size
  · have HB := Lib.hid (bytes11_no ac hc k s w h0)
    clear h
    go_enter Tryz.func4, Tryz.ntmps4
    go_wp2_with (go_at_call 11; refine HB.out.mono ?_; rintro e w' ⟨rfl, rfl⟩)
    go_ret
    exact ⟨rfl, rfl⟩
  · have HB := Lib.hid (bytes11_yes ac hc k s w (by omega))
    by_cases h1 : 65536 < s.size
    · have h2 : (65536 : Int) < (s.size : Int) := by omega
      clear h h0
      go_enter Tryz.func4, Tryz.ntmps4
      go_wp2_with (go_at_call 11; refine HB.out.mono ?_; rintro e w' ⟨rfl, rfl⟩)
      go_ret
      exact ⟨rfl, rfl⟩
    · by_cases h3 : 65536 < ac
      · clear h h0
        have h1' : ¬ (65536 : Int) < (s.size : Int) := by omega
        go_enter Tryz.func4, Tryz.ntmps4
        go_wp2_with (go_at_call 11; refine HB.out.mono ?_; rintro e w' ⟨rfl, rfl⟩)
        go_ret
        exact ⟨rfl, rfl⟩
      · have h4 : 65536 < hc := by omega
        clear h h0
        have h1' : ¬ (65536 : Int) < (s.size : Int) := by omega
        go_enter Tryz.func4, Tryz.ntmps4
        go_wp2_with (go_at_call 11; refine HB.out.mono ?_; rintro e w' ⟨rfl, rfl⟩)
        go_ret
        exact ⟨rfl, rfl⟩

theorem hint_main (ac hc k : Int) (s : ByteArray) (w : World) (h3 : ac ≤ 65536) (h4 : hc ≤ 65536) (h : s.size ≤ 65536) :
    Calls Tryz.prog 4 #[.int .i64 ac, .int .i64 hc, .int .i64 k, .string s] w fun e w' => e = .returned (.bool true) ∧ Below w.heap.size w w' := by
  have HB := Lib.hid (bytes11_yes ac hc k s w (by omega))
  have h2 : ¬ (65536 : Int) < (s.size : Int) := by omega
  have HN := Lib.hid (fun W : World => createtable none ac hc W h3)
  have h3' : ¬ 65536 < ac := by omega
  have h4' : ¬ 65536 < hc := by omega
  clear h3 h4
  go_enter Tryz.func4, Tryz.ntmps4
  go_wp2_with (go_at_call 11; refine HB.out.mono ?_; rintro e w' ⟨rfl, rfl⟩)
  refine (HN.out w).mono ?_
  rintro e w1 ⟨rfl, hn1, hb1⟩
  go_wp2_with fail
  refine (HN.out w1).mono ?_
  rintro e w2 ⟨rfl, hn2, hb2⟩
  obtain ⟨av1, sv1, t1⟩ := hn1
  obtain ⟨av2, sv2, t2⟩ := hn2
  have hs1 := hb1.size
  have hs2 := hb2.size
  have T1 := (t1.shrink.keep (S := fun k => w1.heap.size ≤ k) ⟨hb2.os, hb2.tape, hb2.output, hb2.size, fun k hk _ => hb2.block k hk⟩ (fun b hb hg => by have : w1.heap.size ≤ b := hb; have := hg.2; omega)).mono (G' := fun k => (w.heap.size ≤ k ∧ k < w1.heap.size) ∨ w2.heap.size ≤ k) (fun k h => Or.inl h)
  have T2 := t2.shrink
  have HE1 := Lib.hid (fun W (hW : SameW w2 W) => empty_yes (w := W) (T1.tab.same hW) k s)
  have HE2 := Lib.hid (fun W (hW : SameW w2 W) => empty_yes (w := W) (T2.tab.same hW) k s)
  have HF := Lib.hid (fun W (hW : SameW w2 W) => fresh_yes (w := W) (T1.keep (hW.keeps (S := fun _ => False)) (fun _ e => e.elim)) (T2.keep (hW.keeps (S := fun _ => False)) (fun _ e => e.elim)) (fun k h1 h2 => by rcases h2 with h2 | h2 <;> omega) (fun k hk => Or.inr (by rw [hW.heap] at hk; exact hk)) s)
  have hb := Lib.hid (hb1.trans (hb2.mono hs1))
  have hss := Lib.hid (show w.heap.size ≤ w2.heap.size by omega)
  have hs1' := Lib.hid hs1
  clear t1 t2 T1 T2 hb1 hb2 hs1 hs2
  go_wp2_with (first
    | (go_at_call 9; refine (HE1.out _ (SameW.refl _)).mono ?_; rintro e w3 ⟨rfl, hw3⟩; clear HE1)
    | (go_at_call 9; refine (HE2.out _ hw3).mono ?_; rintro e w4 ⟨rfl, hw4⟩; clear HE2)
    | (go_at_call 10; refine (HF.out _ (hw3.trans hw4)).mono ?_; rintro e w5 ⟨rfl, hk5⟩))
  go_ret
  have hq := (hw3.trans hw4).keeps (S := fun k => (w.heap.size ≤ k ∧ k < w1.heap.size) ∨ w2.heap.size ≤ k)
  exact ⟨rfl, Keeps.below_of hb.out (hq.trans hk5 (fun _ _ h => h)) hss.out (fun n hn hg => by have := hss.out; rcases hg with h | h <;> omega)⟩

theorem hint_any (ac hc k : Int) (s : ByteArray) (w : World) (_ : s.size ≤ maxLen) :
    Calls Tryz.prog 4 #[.int .i64 ac, .int .i64 hc, .int .i64 k, .string s] w fun e w' => e = .returned (.bool true) ∧ Below w.heap.size w w' := by
  by_cases h : ac ≤ 65536 ∧ hc ≤ 65536 ∧ s.size ≤ 65536
  · exact hint_main ac hc k s w h.1 h.2.1 h.2.2
  · exact (hint_out ac hc k s w h).mono fun e w' ⟨he, hw⟩ => ⟨he, hw ▸ Below.refl _ _⟩
end Go.Proofs.YtbgolkdhcgjfkaaGreatDoor
