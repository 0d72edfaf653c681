/-
  absentString: a string longer than every given one.
-/
import Derived.Test.YtbgolkdhcgjfkaaGreatDoorGuards
import Derived.Laws.BytesArg
namespace Go.Proofs.YtbgolkdhcgjfkaaGreatDoor
open Go.RowKit
set_option maxRecDepth 100000
set_option maxHeartbeats 400000

theorem Tryz.info5 : (Tryz.prog.info? 5).map (fun i => (i.zero, i.size, i.bytes)) = some (some (.int .u8 0), 1, 1) := by kernel_rfl

/-- The bytes behind k rounds of the fill. -/
def zrow (n k : Nat) : List Int := List.replicate k 122 ++ List.replicate (n - k) 0
theorem length_zrow (n k : Nat) (h : k ≤ n) : (zrow n k).length = n := by unfold zrow; simp; omega
theorem zrow_step (n k : Nat) (h : k < n) : (zrow n k).set k 122 = zrow n (k + 1) := by
  unfold zrow
  rw [List.set_append_right _ _ (by simp), show n - k = (n - (k + 1)) + 1 by omega, List.replicate_succ (n := n - (k + 1))]
  simp [List.replicate_succ']

theorem made_bytes (n : Nat) : (madeCells (Value.int .u8 0).cells n).toList = (zrow n 0).map (Value.int .u8) := by
  unfold madeCells zrow
  apply List.ext_getElem?
  intro i
  simp [Value.cells]
  by_cases h : i < n
  · simp [h, Nat.mod_one]
  · simp [h]

theorem hmk69 (n : Nat) (hn : n ≤ 1073741824) (W : World) : (Instr.makeSlice 69 (.int .i64 n) (.int .i64 n)).run Tryz.prog W =
    .ok (.slice (some ⟨W.heap.size, 0, none⟩) n n) (W.alloc (.cells ((zrow n 0).map (Value.int .u8)).toArray 5)) := by
  obtain ⟨i0, hi, hz0, hz1, hz2⟩ := info_parts Tryz.info5
  have h := run_make (P := Tryz.prog) W 69 5 i0 (.int .u8 0) Tryz.underlying69 hi hz0 .i64 .i64 (n : Int) (n : Int) (by omega) (by omega) (by rw [hz2]; omega) (by omega)
  rw [hz1, Nat.mul_one, ← made_bytes] at *
  simpa using h

theorem size_str (xs : List Int) : (strOfNums xs).size = xs.length := by
  unfold strOfNums
  simp [ByteArray.size]

theorem absent (L : List ByteArray) (v : Value) (w : World) (h : SRow w v L) (hL : L.length ≤ 4096) (hss : ∀ s ∈ L, s.size ≤ 1048576) :
    Calls Tryz.prog 32 #[v] w fun e w' => (∃ s : ByteArray, e = .returned (.string s) ∧ ∀ t ∈ L, t.size < s.size) ∧ Below w.heap.size w w' := by
  obtain ⟨ao, rfl, c⟩ := h
  have c' := Lib.hid c
  clear c
  go_enter Tryz.func32, Tryz.ntmps32
  go_wp2_with fail
  go_loop [3, 4] (fun m i => ∃ k t : Nat, k ≤ L.length ∧ t ≤ 1048576 ∧ i = .int .i64 k ∧ m = .int .i64 t ∧ Hid (∀ u ∈ L.take k, u.size ≤ t)) (fun _ i => L.length - (intOf i).toNat)
  case atStart => exact ⟨0, 0, Nat.zero_le _, by omega, rfl, rfl, Lib.hid (fun u hu => by simp at hu)⟩
  case round =>
    obtain ⟨k, t, hk, ht, rfl, rfl, hb⟩ := hrel
    by_cases hlt : k < L.length
    · obtain ⟨B, rfl, hB⟩ := c'.out (by omega)
      obtain ⟨s, hs⟩ : ∃ s, L[k]? = some s := ⟨_, List.getElem?_eq_getElem hlt⟩
      have cs : w.cell? ⟨B, k, none⟩ = some (.string s) := by rw [cell_of hB]; simp [hs]
      have hq := hss s (List.mem_of_getElem? hs)
      have hst : L.take (k + 1) = L.take k ++ [s] := by rw [List.take_add_one, hs]; rfl
      have hst' := Lib.hid hst
      clear hst hs
      by_cases hgt : (t : Int) < s.size
      · go_wp2_with fail
        go_round
        case rel => exact ⟨k + 1, s.size, by omega, by omega, by go_num, by go_num, Lib.hid (fun u hu => by
          rw [hst'.out] at hu
          rcases List.mem_append.1 hu with hu | hu
          · have := hb.out u hu; omega
          · simp at hu; subst hu; exact Nat.le_refl _)⟩
        case measure => simp [intOf]; omega
      · go_wp2_with fail
        go_round
        case rel => exact ⟨k + 1, t, by omega, by omega, by go_num, by go_num, Lib.hid (fun u hu => by
          rw [hst'.out] at hu
          rcases List.mem_append.1 hu with hu | hu
          · exact hb.out u hu
          · simp at hu; subst hu; omega)⟩
        case measure => simp [intOf]; omega
    · obtain rfl : k = L.length := by omega
      have hfin : Hid (∀ u ∈ L, u.size ≤ t) := Lib.hid (by have := hb.out; rwa [List.take_of_length_le (Nat.le_refl _)] at this)
      have hm : ∀ W : World, (Instr.makeSlice 69 (.int .i64 ((t : Int) + 1)) (.int .i64 ((t : Int) + 1))).run Tryz.prog W = .ok (.slice (some ⟨W.heap.size, 0, none⟩) (t + 1) (t + 1)) (W.alloc (.cells ((zrow (t + 1) 0).map (Value.int .u8)).toArray 5)) := fun W => by
        have := hmk69 (t + 1) (by omega) W
        simpa using this
      obtain ⟨M, hM⟩ : ∃ M, M = ((zrow (t + 1) 0).map (Value.int .u8)).toArray := ⟨_, rfl⟩
      rw [← hM] at hm
      have hM' := Lib.hid hM
      clear hb hM
      go_wp2_with fail
      go_loopw [6] (fun i wr => ∃ q : Nat, q ≤ t + 1 ∧ i = .int .i64 q ∧ Hid (wr.heap[w.heap.size]? = some (.cells ((zrow (t + 1) q).map (Value.int .u8)).toArray 5 (0, 0)) ∧ Below w.heap.size w wr)) (fun i _ => t + 1 - (intOf i).toNat)
      case atStart => exact ⟨0, Nat.zero_le _, rfl, by rw [← hM'.out]; exact Lib.hid ⟨heap_alloc_new w _, (Below.refl _ _).alloc (Nat.le_refl _) _⟩⟩
      case round =>
        obtain ⟨q, hq, rfl, hr⟩ := hrel
        by_cases hlt : q < t + 1
        · obtain ⟨u, cd⟩ : ∃ u, wr.cell? ⟨w.heap.size, q, none⟩ = some u := ⟨_, by rw [cell_of hr.out.1]; simp [length_zrow (t + 1) q hq, hlt]; rfl⟩
          have zd : wr.frozen? ⟨w.heap.size, q, none⟩ = false := free_of hr.out.1
          go_wp2_with fail
          go_roundw
          case rel => exact ⟨q + 1, by omega, by go_num, Lib.hid ⟨by rw [set_same _ hr.out.1, toArray_set, ← zrow_step (t + 1) q hlt, List.map_set], hr.out.2.setCell (Nat.le_refl _) _⟩⟩
          case measure => simp [intOf]; omega
        · obtain rfl : q = t + 1 := by omega
          have hcv := run_convert_bytes_arg (P := Tryz.prog) wr 69 5 Tryz.underlying69 Tryz.underlying5 w.heap.size 0 (t + 1) (t + 1) (zrow (t + 1) (t + 1)) (length_zrow _ _ (Nat.le_refl _)) (fun i hi => by rw [Nat.zero_add, cell_of hr.out.1]; simp [length_zrow (t + 1) (t + 1) (Nat.le_refl _), hi, List.getD]) 9 Tryz.underlying9
          have hsz := size_str (zrow (t + 1) (t + 1))
          rw [length_zrow _ _ (Nat.le_refl _)] at hsz
          generalize strOfNums (zrow (t + 1) (t + 1)) = s at *
          go_wp2_with fail
          go_ret
          exact ⟨⟨s, rfl, fun u hu => by have := hfin.out u hu; omega⟩, hr.out.2⟩
end Go.Proofs.YtbgolkdhcgjfkaaGreatDoor
