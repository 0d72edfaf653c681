/-
  SetTop: three ways (up within the array, down, up with a new array): conditions: sizes up to 2^20, growth step up to 2^30.
-/
import Derived.Test.YtdnomaafjmfdkaaGreatDoorSlots
namespace Go.Proofs.YtdnomaafjmfdkaaGreatDoor
open Go.RowKit
set_option maxRecDepth 100000
set_option maxHeartbeats 400000

/-- The slots from a to k hold v. -/
def fillR (xs : List Value) (a k : Nat) (v : Value) : List Value := xs.take a ++ List.replicate (k - a) v ++ xs.drop k

theorem fillR_self (xs : List Value) (a : Nat) (v : Value) : fillR xs a a v = xs := by simp [fillR]

theorem length_fillR (xs : List Value) (a k : Nat) (v : Value) (h1 : a ≤ k) (h2 : k ≤ xs.length) : (fillR xs a k v).length = xs.length := by
  simp [fillR]; omega

theorem get_fillR (xs : List Value) (a k j : Nat) (v : Value) (h1 : a ≤ k) (h2 : k ≤ xs.length) : (fillR xs a k v)[j]? = if a ≤ j ∧ j < k then some v else xs[j]? := by
  unfold fillR
  rw [List.append_assoc]
  by_cases hja : j < a
  · rw [List.getElem?_append_left (by simp; omega), List.getElem?_take, if_pos hja, if_neg (by omega)]
  · by_cases hjk : j < k
    · rw [List.getElem?_append_right (by simp; omega), List.getElem?_append_left (by simp; omega), List.getElem?_replicate, if_pos (by simp; omega), if_pos ⟨by omega, hjk⟩]
    · rw [List.getElem?_append_right (by simp; omega), List.getElem?_append_right (by simp; omega), List.getElem?_drop, if_neg (by omega)]
      congr 1; simp; omega

theorem fillR_step (xs : List Value) (a k : Nat) (v : Value) (h1 : a ≤ k) (h2 : k < xs.length) : (fillR xs a k v).set k v = fillR xs a (k + 1) v := by
  apply List.ext_getElem?
  intro j
  rw [List.getElem?_set, get_fillR xs a k j v h1 (by omega), get_fillR xs a (k + 1) j v (by omega) (by omega), length_fillR xs a k v h1 (by omega)]
  by_cases hj : k = j
  · subst hj
    rw [if_pos rfl, if_pos h2, if_pos ⟨h1, by omega⟩]
  · rw [if_neg hj]
    by_cases hc : a ≤ j ∧ j < k
    · rw [if_pos hc, if_pos ⟨hc.1, by omega⟩]
    · rw [if_neg hc, if_neg (by omega)]

theorem settop_up (R A top t g m : Nat) (xs : List Value) (w : World) (hot : top ≤ t) (htl : t ≤ xs.length) (hx : xs.length ≤ 1048576) (h : Reg w R A xs top g m) :
    Calls Tryz.prog 30 #[.pointer (some ⟨R, 0, none⟩), .int .i64 t] w fun e w' => e = .returned (.tuple #[]) ∧ Reg w' R A (fillR xs top t LNIL) t g m ∧ Keeps (fun k => k = R ∨ k = A) w w' := by
  have f0 : w.cell? ⟨R, 0, none⟩ = some (.slice (some ⟨A, 0, none⟩) xs.length xs.length) := cell_of h.1
  have f1 : w.cell? ⟨R, 1, none⟩ = some (.int .i64 top) := cell_of h.1
  have z1 : w.frozen? ⟨R, 1, none⟩ = false := free_of h.1
  have h' := Lib.hid h
  clear h
  generalize hL : xs.length = len at *
  have hL' := Lib.hid hL
  have hd : decide (len < t) = false := by simp; omega
  clear hL
  go_enter Tryz.func30, Tryz.ntmps30
  go_wp2
  go_loopw [6] (fun i wr => ∃ k : Nat, top ≤ k ∧ k ≤ t ∧ i = .int .i64 k ∧ Hid (Reg wr R A (fillR xs top k LNIL) t g m ∧ Keeps (fun k => k = R ∨ k = A) w wr)) (fun i _ => t - (intOf i).toNat)
  case atStart => exact ⟨top, Nat.le_refl _, hot, rfl, by rw [fillR_self]; exact ⟨h'.out.top t, (Keeps.refl _ _).setCell (Or.inl rfl) _⟩⟩
  case round =>
    obtain ⟨k, hk1, hk2, rfl, hr⟩ := hrel
    have hlen := Lib.hid (length_fillR xs top k LNIL hk1 (by rw [hL'.out]; omega))
    have f0 : wr.cell? ⟨R, 0, none⟩ = some (.slice (some ⟨A, 0, none⟩) len len) := by rw [← hL'.out, ← hlen.out]; exact cell_of hr.out.1.1
    have f1 : wr.cell? ⟨R, 1, none⟩ = some (.int .i64 t) := cell_of hr.out.1.1
    by_cases hlt : k < t
    · obtain ⟨u, ca⟩ : ∃ u, wr.cell? ⟨A, k, none⟩ = some u := ⟨_, by rw [cell_of hr.out.1.2.1]; simp [hlen.out, hL'.out, show k < len by omega]; rfl⟩
      have za : wr.frozen? ⟨A, k, none⟩ = false := free_of hr.out.1.2.1
      go_wp2
      go_roundw
      case rel => exact ⟨k + 1, by omega, by omega, by go_num, by rw [← fillR_step xs top k LNIL hk1 (by rw [hL'.out]; omega)]; exact ⟨hr.out.1.slot k _ rfl, hr.out.2.setCell (Or.inr rfl) _⟩⟩
      case measure => simp [intOf]; omega
    · obtain rfl : k = t := by omega
      go_wp2
      go_end0
      exact ⟨rfl, hr.out⟩

theorem settop_down (R A t d g m : Nat) (xs : List Value) (w : World) (hd0 : 0 < d) (htl : t + d ≤ xs.length) (hx : xs.length ≤ 1048576) (h : Reg w R A xs (t + d) g m) :
    Calls Tryz.prog 30 #[.pointer (some ⟨R, 0, none⟩), .int .i64 t] w fun e w' => e = .returned (.tuple #[]) ∧ Reg w' R A (fillR xs t (t + d) .nilIface) t g m ∧ Keeps (fun k => k = R ∨ k = A) w w' := by
  have f0 : w.cell? ⟨R, 0, none⟩ = some (.slice (some ⟨A, 0, none⟩) xs.length xs.length) := cell_of h.1
  have f1 : w.cell? ⟨R, 1, none⟩ = some (.int .i64 ((t + d : Nat) : Int)) := cell_of h.1
  rw [show ((t + d : Nat) : Int) = (t : Int) + (d : Int) from by omega] at f1
  have z1 : w.frozen? ⟨R, 1, none⟩ = false := free_of h.1
  have h' := Lib.hid h
  clear h
  generalize hL : xs.length = len at *
  have hL' := Lib.hid hL
  have hd : decide (len < t) = false := by simp; omega
  clear hL
  go_enter Tryz.func30, Tryz.ntmps30
  go_wp2
  refine wp_loop_rounds 1 ?_
  rw [rounds_succ]
  go_wp2
  have b1 : (0 : Int) ≤ (t : Int) := by omega
  have b2 : (t : Int) ≤ (t : Int) + (d : Int) := by omega
  have b3 : (t : Int) + (d : Int) ≤ (len : Int) := by omega
  go_region
  all_goals go_wp2
  go_loopw [62] (fun i wr => ∃ k : Nat, k ≤ d ∧ i = .int .i64 k ∧ Hid (Reg wr R A (fillR xs t (t + k) .nilIface) t g m ∧ Keeps (fun k => k = R ∨ k = A) w wr)) (fun i _ => d - (intOf i).toNat)
  case atStart => exact ⟨0, Nat.zero_le _, rfl, by rw [Nat.add_zero, fillR_self]; exact ⟨(h'.out.top t).drew, ((Keeps.refl _ _).setCell (Or.inl rfl) _).drew⟩⟩
  case round =>
    obtain ⟨k, hk2, rfl, hr⟩ := hrel
    have hlen := Lib.hid (length_fillR xs t (t + k) .nilIface (by omega) (by rw [hL'.out]; omega))
    by_cases hlt : k < d
    · obtain ⟨u, ca⟩ : ∃ u, wr.cell? ⟨A, t + k, none⟩ = some u := ⟨_, by rw [cell_of hr.out.1.2.1]; simp [hlen.out, hL'.out, show t + k < len by omega]; rfl⟩
      have za : wr.frozen? ⟨A, t + k, none⟩ = false := free_of hr.out.1.2.1
      go_wp2
      go_roundw
      case rel => exact ⟨k + 1, by omega, by go_num, by rw [← Nat.add_assoc, ← fillR_step xs t (t + k) .nilIface (by omega) (by rw [hL'.out]; omega)]; exact ⟨hr.out.1.slot (t + k) _ rfl, hr.out.2.setCell (Or.inr rfl) _⟩⟩
      case measure => simp [intOf]; omega
    · obtain rfl : k = d := by omega
      go_wp2
      go_end0
      exact ⟨rfl, hr.out⟩

def Topped (R : Nat) (ys : List Value) (A top t g m : Nat) (w w' : World) : Prop :=
  ∃ A', Reg w' R A' (fillR ys top t LNIL) t g m ∧ Keeps (fun k => k = R ∨ k = A) w w' ∧ w.heap.size ≤ A'

theorem settop_grow (R A top t g m : Nat) (xs : List Value) (w : World) (ht : top ≤ xs.length) (htl : xs.length < t) (htm : t ≤ m) (hg : g ≤ 1073741824) (hm : m ≤ 1048576) (h : Reg w R A xs top g m) :
    Calls Tryz.prog 30 #[.pointer (some ⟨R, 0, none⟩), .int .i64 t] w fun e w' => e = .returned (.tuple #[]) ∧ Topped R (grow xs top (newSize t g m)) A top t g m w w' := by
  have hN := newSize_ge t g m htm
  have HC := resize_any R A top xs.length t g m xs w (by omega) rfl (by omega) hg hm htm (by omega) h.1 h.2.1 h.2.2.2
  have hF := fun w1 (hw : Forced R top (newSize t g m) xs w w1) => h.forced (by omega) (by omega) hw
  have hlen := length_grow xs top (newSize t g m) (by omega) (by omega)
  have f0 : w.cell? ⟨R, 0, none⟩ = some (.slice (some ⟨A, 0, none⟩) xs.length xs.length) := cell_of h.1
  have hlR := h.size.1
  generalize newSize t g m = N at *
  generalize hys : grow xs top N = ys at *
  generalize hL : xs.length = len at *
  have HC' := Lib.hid HC
  have HF := Lib.hid hF
  have HL := Lib.hid hlen
  have hd : decide (len < t) = true := by simp; omega
  have hot : top ≤ t := by omega
  clear HC hF hlen hys hL h
  go_enter Tryz.func30, Tryz.ntmps30
  go_wp2_with (go_at_call 31; refine HC'.out.mono ?_; rintro e w1 ⟨rfl, hw⟩; have hk := Lib.hid (HF.out w1 hw); have e0 : w1.cell? ⟨R, 0, none⟩ = some (.slice (some ⟨w.heap.size, 0, none⟩) N N) := (by rw [← HL.out]; exact cell_of hk.out.1.1); have e1 : w1.cell? ⟨R, 1, none⟩ = some (.int .i64 top) := cell_of hk.out.1.1; have y0 : w1.frozen? ⟨R, 1, none⟩ = false := free_of hk.out.1.1; have hw' := Lib.hid hw; clear hw)
  go_loopw [6] (fun i wr => ∃ k : Nat, top ≤ k ∧ k ≤ t ∧ i = .int .i64 k ∧ Hid (Reg wr R w.heap.size (fillR ys top k LNIL) t g m ∧ Keeps (fun k => k = R ∨ k = A) w wr)) (fun i _ => t - (intOf i).toNat)
  case atStart => exact ⟨top, Nat.le_refl _, hot, rfl, by rw [fillR_self]; exact ⟨hk.out.1.top t, hk.out.2.setCell (Or.inl rfl) _⟩⟩
  case round =>
    obtain ⟨k, hk1, hk2, rfl, hr⟩ := hrel
    have hlen := Lib.hid (length_fillR ys top k LNIL hk1 (by rw [HL.out]; omega))
    have f0 : wr.cell? ⟨R, 0, none⟩ = some (.slice (some ⟨w.heap.size, 0, none⟩) N N) := by rw [← HL.out, ← hlen.out]; exact cell_of hr.out.1.1
    have f1 : wr.cell? ⟨R, 1, none⟩ = some (.int .i64 t) := cell_of hr.out.1.1
    by_cases hlt : k < t
    · obtain ⟨u, ca⟩ : ∃ u, wr.cell? ⟨w.heap.size, k, none⟩ = some u := ⟨_, by rw [cell_of hr.out.1.2.1]; simp [hlen.out, HL.out, show k < N by omega]; rfl⟩
      have za : wr.frozen? ⟨w.heap.size, k, none⟩ = false := free_of hr.out.1.2.1
      have hkN : k < N := by omega
      go_wp2
      go_roundw
      case rel => exact ⟨k + 1, by omega, by omega, by go_num, by rw [← fillR_step ys top k LNIL hk1 (by rw [HL.out]; omega)]; exact ⟨hr.out.1.slot k _ rfl, hr.out.2.setCell_new (Nat.le_refl _) _⟩⟩
      case measure => simp [intOf]; omega
    · obtain rfl : k = t := by omega
      go_wp2
      go_end0
      exact ⟨rfl, _, hr.out.1, hr.out.2, Nat.le_refl _⟩
end Go.Proofs.YtdnomaafjmfdkaaGreatDoor
