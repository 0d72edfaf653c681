/-
  The walk of FnNewTableIsEmptyAndFresh: for every argument the call returns true and turns nothing that was there.
-/
import Derived.Test.YtbgolkdhcgjfkaaGreatDoorFresh
namespace Go.Proofs.YtbgolkdhcgjfkaaGreatDoor
open Go.RowKit
set_option maxRecDepth 100000
set_option maxHeartbeats 400000


theorem bytes7_yes (k : Int) (s : ByteArray) (w : World) (h : s.size ≤ 1048576) :
    Calls Tryz.prog 7 #[.int .i64 k, .string s] w fun e w' => e = .returned (.bool true) ∧ w = w' := by
  have h2 : ¬ (1048576 : Int) < (s.size : Int) := by omega
  go_enter Tryz.func7, Tryz.ntmps7
  go_wp2
  go_ret
  exact ⟨rfl, rfl⟩

theorem bytes7_no (k : Int) (s : ByteArray) (w : World) (h : 1048576 < s.size) :
    Calls Tryz.prog 7 #[.int .i64 k, .string s] w fun e w' => e = .returned (.bool false) ∧ w = w' := by
  have h2 : (1048576 : Int) < (s.size : Int) := by omega
  go_enter Tryz.func7, Tryz.ntmps7
  go_wp2
  go_ret
  exact ⟨rfl, rfl⟩

/-- Two tables, one behind the other: their blocks apart. -/
theorem lone_out (k : Int) (s : ByteArray) (w : World) (h : ¬ (s.size ≤ 65536)) :
    Calls Tryz.prog 3 #[.int .i64 k, .string s] w fun e w' => e = .returned (.bool true) ∧ w = w' := by
  by_cases h0 : 1048576 < s.size
  · have HB := Lib.hid (bytes7_no k s w h0)
    clear h
    go_enter Tryz.func3, Tryz.ntmps3
    go_wp2_with (go_at_call 7; refine HB.out.mono ?_; rintro e w' ⟨rfl, rfl⟩)
    go_ret
    exact ⟨rfl, rfl⟩
  · have HB := Lib.hid (bytes7_yes k s w (by omega))
    by_cases h1 : 65536 < s.size
    · have h2 : (65536 : Int) < (s.size : Int) := by omega
      clear h h0
      go_enter Tryz.func3, Tryz.ntmps3
      go_wp2_with (go_at_call 7; refine HB.out.mono ?_; rintro e w' ⟨rfl, rfl⟩)
      go_ret
      exact ⟨rfl, rfl⟩
    · exact absurd (by omega) h

theorem lone_main (k : Int) (s : ByteArray) (w : World) (h : s.size ≤ 65536) :
    Calls Tryz.prog 3 #[.int .i64 k, .string s] w fun e w' => e = .returned (.bool true) ∧ Below w.heap.size w w' := by
  have HB := Lib.hid (bytes7_yes k s w (by omega))
  have h2 : ¬ (65536 : Int) < (s.size : Int) := by omega
  have HN := Lib.hid (fun W : World => newtable none W)
  go_enter Tryz.func3, Tryz.ntmps3
  go_wp2_with (go_at_call 7; refine HB.out.mono ?_; rintro e w' ⟨rfl, rfl⟩)
  refine (HN.out w).mono ?_
  rintro e w1 ⟨rfl, hn1, hb1⟩
  go_wp2_with fail
  refine (HN.out w1).mono ?_
  rintro e w2 ⟨rfl, hn2, hb2⟩
  obtain ⟨av1, sv1, t1⟩ := hn1
  obtain ⟨av2, sv2, t2⟩ := hn2
  have hs1 := hb1.size
  have hs2 := hb2.size
  have T1 := (t1.shrink.keep (S := fun k => w1.heap.size ≤ k) ⟨hb2.os, hb2.tape, hb2.output, hb2.size, fun k hk _ => hb2.block k hk⟩ (fun b hb hg => by have : w1.heap.size ≤ b := hb; have := hg.2; omega)).mono (G' := fun k => (w.heap.size ≤ k ∧ k < w1.heap.size) ∨ w2.heap.size ≤ k) (fun k h => Or.inl h)
  have T2 := t2.shrink
  have HE1 := Lib.hid (fun W (hW : SameW w2 W) => empty_yes (w := W) (T1.tab.same hW) k s)
  have HE2 := Lib.hid (fun W (hW : SameW w2 W) => empty_yes (w := W) (T2.tab.same hW) k s)
  have HF := Lib.hid (fun W (hW : SameW w2 W) => fresh_yes (w := W) (T1.keep (hW.keeps (S := fun _ => False)) (fun _ e => e.elim)) (T2.keep (hW.keeps (S := fun _ => False)) (fun _ e => e.elim)) (fun k h1 h2 => by rcases h2 with h2 | h2 <;> omega) (fun k hk => Or.inr (by rw [hW.heap] at hk; exact hk)) s)
  have hb := Lib.hid (hb1.trans (hb2.mono hs1))
  have hss := Lib.hid (show w.heap.size ≤ w2.heap.size by omega)
  have hs1' := Lib.hid hs1
  clear t1 t2 T1 T2 hb1 hb2 hs1 hs2
  go_wp2_with (first
    | (go_at_call 9; refine (HE1.out _ (SameW.refl _)).mono ?_; rintro e w3 ⟨rfl, hw3⟩; clear HE1)
    | (go_at_call 9; refine (HE2.out _ hw3).mono ?_; rintro e w4 ⟨rfl, hw4⟩; clear HE2)
    | (go_at_call 10; refine (HF.out _ (hw3.trans hw4)).mono ?_; rintro e w5 ⟨rfl, hk5⟩))
  go_ret
  have hq := (hw3.trans hw4).keeps (S := fun k => (w.heap.size ≤ k ∧ k < w1.heap.size) ∨ w2.heap.size ≤ k)
  exact ⟨rfl, Keeps.below_of hb.out (hq.trans hk5 (fun _ _ h => h)) hss.out (fun n hn hg => by have := hss.out; rcases hg with h | h <;> omega)⟩

theorem lone_any (k : Int) (s : ByteArray) (w : World) (_ : s.size ≤ maxLen) :
    Calls Tryz.prog 3 #[.int .i64 k, .string s] w fun e w' => e = .returned (.bool true) ∧ Below w.heap.size w w' := by
  by_cases h : s.size ≤ 65536
  · exact lone_main k s w h
  · exact (lone_out k s w h).mono fun e w' ⟨he, hw⟩ => ⟨he, hw ▸ Below.refl _ _⟩
end Go.Proofs.YtbgolkdhcgjfkaaGreatDoor
