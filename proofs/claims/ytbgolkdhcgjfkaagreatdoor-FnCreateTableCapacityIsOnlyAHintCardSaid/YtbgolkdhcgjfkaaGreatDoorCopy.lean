/-
  cloneInt32 and cloneStrings: a slice copied into a new array, element by element (nil stays nil).
-/
import Derived.Test.YtbgolkdhcgjfkaaGreatDoorScript
namespace Go.Proofs.YtbgolkdhcgjfkaaGreatDoor
open Go.RowKit
set_option maxRecDepth 100000
set_option maxHeartbeats 400000

theorem Tryz.info21 : (Tryz.prog.info? 21).map (fun i => (i.zero, i.size, i.bytes)) = some (some (.int .i32 0), 1, 4) := by kernel_rfl

theorem madeInts (n : Nat) : (madeCells (Value.int .i32 0).cells n).toList = List.replicate n (.int .i32 0) := by
  unfold madeCells
  apply List.ext_getElem?
  intro i
  simp [Value.cells]
  by_cases h : i < n
  · simp [h, Nat.mod_one]
  · simp [h]

theorem hmk32 (n : Nat) (hn : n ≤ 1073741824) (W : World) : (Instr.makeSlice 30 (.int .i64 n) (.int .i64 n)).run Tryz.prog W =
    .ok (.slice (some ⟨W.heap.size, 0, none⟩) n n) (W.alloc (.cells (List.replicate n (Value.int .i32 0)).toArray 21)) := by
  obtain ⟨i0, hi, hz0, hz1, hz2⟩ := info_parts Tryz.info21
  have h := run_make (P := Tryz.prog) W 30 21 i0 (.int .i32 0) Tryz.underlying30 hi hz0 .i64 .i64 (n : Int) (n : Int) (by omega) (by omega) (by rw [hz2]; omega) (by omega)
  rw [hz1, Nat.mul_one, ← madeInts] at *
  simpa using h

def Copied (w w' : World) (v : Value) (zs : List Int) (len : Nat) : Prop :=
  ∃ ao, v = .slice ao len len ∧ (0 < len → ao = some ⟨w.heap.size, 0, none⟩ ∧ w'.heap[w.heap.size]? = some (.cells ((zs.take len).map (Value.int .i32)).toArray 21 (0, 0))) ∧ Below w.heap.size w w'

theorem copy_nil (w : World) (zs : List Int) : Calls Tryz.prog 16 #[.slice none 0 0] w fun e w' => ∃ v, e = .returned v ∧ Copied w w' v zs 0 := by
  have key : Calls Tryz.prog 16 #[.slice none 0 0] w fun e w' => e = .returned (.slice none 0 0) ∧ w = w' := by
    have h1 := fun (W : World) => Lib.run_eql_slice_nil (P := Tryz.prog) W 30 21 none 0 0 0 0 Tryz.underlying30
    go_enter Tryz.func16, Tryz.ntmps16
    go_wp2
    go_ret
    exact ⟨rfl, rfl⟩
  exact key.mono fun e w' ⟨he, hw⟩ => ⟨_, he, none, rfl, fun h => absurd h (by omega), hw ▸ Below.refl _ _⟩

/-- The row of the copy behind k rounds. -/
def rowAt (zs : List Int) (len k : Nat) : List Value := (zs.take k).map (Value.int .i32) ++ List.replicate (len - k) (.int .i32 0)

theorem length_rowAt (zs : List Int) (len k : Nat) (h1 : k ≤ len) (h2 : len ≤ zs.length) : (rowAt zs len k).length = len := by unfold rowAt; simp; omega

theorem rowAt_step (zs : List Int) (len k : Nat) (h1 : k < len) (h2 : len ≤ zs.length) : (rowAt zs len k).set k (.int .i32 (zs[k]?.getD 0)) = rowAt zs len (k + 1) := by
  unfold rowAt
  rw [List.set_append_right _ _ (by simp; omega)]
  rw [List.take_succ_eq_append_getElem (by omega), List.map_append, List.append_assoc]
  congr 1
  rw [show len - k = (len - (k + 1)) + 1 by omega, List.replicate_succ]
  have : k - (List.map (Value.int IntKind.i32) (List.take k zs)).length = 0 := by simp; omega
  rw [this]
  simp [show k < zs.length by omega]

theorem copy_some (b off len cap : Nat) (zs : List Int) (w : World) (hl : len ≤ zs.length) (h0 : 0 < len) (hlen : len ≤ 1073741824) (hb : b < w.heap.size)
    (hc : ∀ i, i < len → w.cell? ⟨b, off + i, none⟩ = some (.int .i32 (zs.getD i 0))) :
    Calls Tryz.prog 16 #[.slice (some ⟨b, off, none⟩) len cap] w fun e w' => e = .returned (.slice (some ⟨w.heap.size, 0, none⟩) len len) ∧ Hid (w'.heap[w.heap.size]? = some (.cells (rowAt zs len len).toArray 21 (0, 0)) ∧ Below w.heap.size w w') := by
  have h1 := fun (W : World) => Lib.run_eql_slice_nil (P := Tryz.prog) W 30 21 (some ⟨b, off, none⟩) len cap 0 0 Tryz.underlying30
  have hm := hmk32 len (by omega)
  have hz : rowAt zs len 0 = List.replicate len (Value.int .i32 0) := by simp [rowAt]
  rw [← hz] at hm
  obtain ⟨M, hM⟩ : ∃ M, M = (rowAt zs len 0).toArray := ⟨_, rfl⟩
  rw [← hM] at hm
  have hM' := Lib.hid hM
  have hc' := Lib.hid hc
  clear hM hc hz
  go_enter Tryz.func16, Tryz.ntmps16
  go_wp2
  go_loopw [4] (fun i wr => ∃ k : Nat, k ≤ len ∧ i = .int .i64 k ∧ Hid (wr.heap[w.heap.size]? = some (.cells (rowAt zs len k).toArray 21 (0, 0)) ∧ Below w.heap.size w wr)) (fun i _ => len - (intOf i).toNat)
  case atStart => exact ⟨0, Nat.zero_le _, rfl, by rw [← hM'.out]; exact ⟨heap_alloc_new w _, (Below.refl _ _).alloc (Nat.le_refl _) _⟩⟩
  case round =>
    obtain ⟨k, hk, rfl, hr⟩ := hrel
    have hlr := Lib.hid (length_rowAt zs len k hk hl)
    by_cases hlt : k < len
    · have cs : wr.cell? ⟨b, off + k, none⟩ = some (.int .i32 (zs.getD k 0)) := by rw [hr.out.2.cell (by exact hb)]; exact hc'.out k hlt
      obtain ⟨u, cd⟩ : ∃ u, wr.cell? ⟨w.heap.size, k, none⟩ = some u := ⟨_, by rw [cell_of hr.out.1]; simp [hlr.out, hlt]; rfl⟩
      have zd : wr.frozen? ⟨w.heap.size, k, none⟩ = false := free_of hr.out.1
      go_wp2
      go_roundw
      case rel => exact ⟨k + 1, by omega, by go_num, by rw [← rowAt_step zs len k hlt hl, ← toArray_set]; exact ⟨set_same _ hr.out.1, hr.out.2.setCell (Nat.le_refl _) _⟩⟩
      case measure => simp [intOf]; omega
    · obtain rfl : k = len := by omega
      go_wp2
      go_ret
      exact ⟨rfl, hr⟩

theorem rowAt_all (zs : List Int) (len : Nat) : rowAt zs len len = (zs.take len).map (Value.int .i32) := by simp [rowAt]

theorem copy_zero (x : Addr) (cap : Nat) (w : World) :
    Calls Tryz.prog 16 #[.slice (some x) 0 cap] w fun e w' => e = .returned (.slice (some ⟨w.heap.size, 0, none⟩) 0 0) ∧ Below w.heap.size w w' := by
  have h1 := fun (W : World) => Lib.run_eql_slice_nil (P := Tryz.prog) W 30 21 (some x) 0 cap 0 0 Tryz.underlying30
  have hm : ∀ W : World, (Instr.makeSlice 30 (.int .i64 0) (.int .i64 0)).run Tryz.prog W = .ok (.slice (some ⟨W.heap.size, 0, none⟩) 0 0) (W.alloc (.cells #[] 21)) := fun W => hmk32 0 (by omega) W
  go_enter Tryz.func16, Tryz.ntmps16
  go_wp2
  refine wp_loop_rounds 1 ?_
  rw [rounds_succ]
  go_wp2
  go_ret
  exact ⟨rfl, (Below.refl _ _).alloc (Nat.le_refl _) _⟩

/-- WHAT THE WALK IS TOLD OF A SLICE OF INTEGERS THAT CAME IN. -/
def IsRow (k : IntKind) (w : World) (a : Option Addr) (len cap : Nat) (zs : List Int) : Prop :=
  (a = none ∧ len = 0 ∧ cap = 0 ∧ zs = []) ∨
  ∃ x, a = some x ∧ len ≤ cap ∧ cap ≤ maxLen ∧ zs.length = cap ∧ (∀ i, i < zs.length → w.cell? (x.add i) = some (.int k (zs.getD i 0))) ∧ ∀ n ∈ zs, (Lit.int k n).wf = true

theorem IsRow.le {k : IntKind} {w : World} {a : Option Addr} {len cap : Nat} {zs : List Int} (h : IsRow k w a len cap zs) : len ≤ zs.length := by
  rcases h with ⟨rfl, rfl, rfl, rfl⟩ | ⟨x, rfl, hl, hm, hz, hcell, hwz⟩
  · simp
  · omega

theorem copy_any (a : Option Addr) (len cap : Nat) (zs : List Int) (w : World) (hlen : len ≤ 1073741824) (h : IsRow .i32 w a len cap zs) :
    Calls Tryz.prog 16 #[.slice a len cap] w fun e w' => ∃ v, e = .returned v ∧ Copied w w' v zs len := by
  rcases h with ⟨rfl, rfl, rfl, rfl⟩ | ⟨x, rfl, hl, hm, hz, hcell, hwz⟩
  · exact copy_nil w []
  · by_cases h0 : len = 0
    · subst h0
      exact (copy_zero x cap w).mono fun e w' ⟨he, hb⟩ => ⟨_, he, _, rfl, fun h => absurd h (by omega), hb⟩
    · obtain ⟨b, off, spot⟩ := x
      have hc := hcell 0 (by omega)
      have hspot : spot = none := by simpa [Addr.add] using World.cell?_spot hc
      subst hspot
      have hadd : ∀ i, (⟨b, off, none⟩ : Addr).add i = ⟨b, off + i, none⟩ := fun i => by unfold Addr.add; split <;> simp_all
      have hb : b < w.heap.size := by
        rw [hadd] at hc
        simp only [World.cell?] at hc
        cases hh : w.heap[b]? with
        | none => simp [hh] at hc
        | some o => exact lt_of hh
      refine (copy_some b off len cap zs w (by omega) (by omega) hlen hb (fun i hi => by rw [← hadd]; exact hcell i (by omega))).mono fun e w' ⟨he, hr⟩ => ⟨_, he, _, rfl, fun _ => ⟨rfl, ?_⟩, hr.out.2⟩
      have := hr.out.1
      rw [rowAt_all] at this
      exact this
theorem Tryz.info9 : (Tryz.prog.info? 9).map (fun i => (i.zero, i.size, i.bytes)) = some (some (.string ⟨#[]⟩), 1, 16) := by kernel_rfl

theorem madeIntsT (n : Nat) : (madeCells (Value.string ⟨#[]⟩).cells n).toList = List.replicate n (.string ⟨#[]⟩) := by
  unfold madeCells
  apply List.ext_getElem?
  intro i
  simp [Value.cells]
  by_cases h : i < n
  · simp [h, Nat.mod_one]
  · simp [h]

theorem hmk32T (n : Nat) (hn : n ≤ 1073741824) (W : World) : (Instr.makeSlice 31 (.int .i64 n) (.int .i64 n)).run Tryz.prog W =
    .ok (.slice (some ⟨W.heap.size, 0, none⟩) n n) (W.alloc (.cells (List.replicate n (Value.string ⟨#[]⟩)).toArray 9)) := by
  obtain ⟨i0, hi, hz0, hz1, hz2⟩ := info_parts Tryz.info9
  have h := run_make (P := Tryz.prog) W 31 9 i0 (.string ⟨#[]⟩) Tryz.underlying31 hi hz0 .i64 .i64 (n : Int) (n : Int) (by omega) (by omega) (by rw [hz2]; omega) (by omega)
  rw [hz1, Nat.mul_one, ← madeIntsT] at *
  simpa using h

def CopiedT (w w' : World) (v : Value) (zs : List ByteArray) (len : Nat) : Prop :=
  ∃ ao, v = .slice ao len len ∧ (0 < len → ao = some ⟨w.heap.size, 0, none⟩ ∧ w'.heap[w.heap.size]? = some (.cells ((zs.take len).map (Value.string)).toArray 9 (0, 0))) ∧ Below w.heap.size w w'

theorem copy_nilT (w : World) (zs : List ByteArray) : Calls Tryz.prog 17 #[.slice none 0 0] w fun e w' => ∃ v, e = .returned v ∧ CopiedT w w' v zs 0 := by
  have key : Calls Tryz.prog 17 #[.slice none 0 0] w fun e w' => e = .returned (.slice none 0 0) ∧ w = w' := by
    have h1 := fun (W : World) => Lib.run_eql_slice_nil (P := Tryz.prog) W 31 9 none 0 0 0 0 Tryz.underlying31
    go_enter Tryz.func17, Tryz.ntmps17
    go_wp2
    go_ret
    exact ⟨rfl, rfl⟩
  exact key.mono fun e w' ⟨he, hw⟩ => ⟨_, he, none, rfl, fun h => absurd h (by omega), hw ▸ Below.refl _ _⟩

/-- The row of the copy behind k rounds. -/
def rowAtT (zs : List ByteArray) (len k : Nat) : List Value := (zs.take k).map (Value.string) ++ List.replicate (len - k) (.string ⟨#[]⟩)

theorem length_rowAtT (zs : List ByteArray) (len k : Nat) (h1 : k ≤ len) (h2 : len ≤ zs.length) : (rowAtT zs len k).length = len := by unfold rowAtT; simp; omega

theorem rowAt_stepT (zs : List ByteArray) (len k : Nat) (h1 : k < len) (h2 : len ≤ zs.length) : (rowAtT zs len k).set k (.string (zs[k]?.getD ⟨#[]⟩)) = rowAtT zs len (k + 1) := by
  unfold rowAtT
  rw [List.set_append_right _ _ (by simp; omega)]
  rw [List.take_succ_eq_append_getElem (by omega), List.map_append, List.append_assoc]
  congr 1
  rw [show len - k = (len - (k + 1)) + 1 by omega, List.replicate_succ]
  have : k - (List.map (Value.string) (List.take k zs)).length = 0 := by simp; omega
  rw [this]
  simp [show k < zs.length by omega]

theorem copy_someT (b off len cap : Nat) (zs : List ByteArray) (w : World) (hl : len ≤ zs.length) (h0 : 0 < len) (hlen : len ≤ 1073741824) (hb : b < w.heap.size)
    (hc : ∀ i, i < len → w.cell? ⟨b, off + i, none⟩ = some (.string (zs.getD i ⟨#[]⟩))) :
    Calls Tryz.prog 17 #[.slice (some ⟨b, off, none⟩) len cap] w fun e w' => e = .returned (.slice (some ⟨w.heap.size, 0, none⟩) len len) ∧ Hid (w'.heap[w.heap.size]? = some (.cells (rowAtT zs len len).toArray 9 (0, 0)) ∧ Below w.heap.size w w') := by
  have h1 := fun (W : World) => Lib.run_eql_slice_nil (P := Tryz.prog) W 31 9 (some ⟨b, off, none⟩) len cap 0 0 Tryz.underlying31
  have hm := hmk32T len (by omega)
  have hz : rowAtT zs len 0 = List.replicate len (Value.string ⟨#[]⟩) := by simp [rowAtT]
  rw [← hz] at hm
  obtain ⟨M, hM⟩ : ∃ M, M = (rowAtT zs len 0).toArray := ⟨_, rfl⟩
  rw [← hM] at hm
  have hM' := Lib.hid hM
  have hc' := Lib.hid hc
  clear hM hc hz
  go_enter Tryz.func17, Tryz.ntmps17
  go_wp2
  go_loopw [4] (fun i wr => ∃ k : Nat, k ≤ len ∧ i = .int .i64 k ∧ Hid (wr.heap[w.heap.size]? = some (.cells (rowAtT zs len k).toArray 9 (0, 0)) ∧ Below w.heap.size w wr)) (fun i _ => len - (intOf i).toNat)
  case atStart => exact ⟨0, Nat.zero_le _, rfl, by rw [← hM'.out]; exact ⟨heap_alloc_new w _, (Below.refl _ _).alloc (Nat.le_refl _) _⟩⟩
  case round =>
    obtain ⟨k, hk, rfl, hr⟩ := hrel
    have hlr := Lib.hid (length_rowAtT zs len k hk hl)
    by_cases hlt : k < len
    · have cs : wr.cell? ⟨b, off + k, none⟩ = some (.string (zs.getD k ⟨#[]⟩)) := by rw [hr.out.2.cell (by exact hb)]; exact hc'.out k hlt
      obtain ⟨u, cd⟩ : ∃ u, wr.cell? ⟨w.heap.size, k, none⟩ = some u := ⟨_, by rw [cell_of hr.out.1]; simp [hlr.out, hlt]; rfl⟩
      have zd : wr.frozen? ⟨w.heap.size, k, none⟩ = false := free_of hr.out.1
      go_wp2
      go_roundw
      case rel => exact ⟨k + 1, by omega, by go_num, by rw [← rowAt_stepT zs len k hlt hl, ← toArray_set]; exact ⟨set_same _ hr.out.1, hr.out.2.setCell (Nat.le_refl _) _⟩⟩
      case measure => simp [intOf]; omega
    · obtain rfl : k = len := by omega
      go_wp2
      go_ret
      exact ⟨rfl, hr⟩

theorem rowAt_allT (zs : List ByteArray) (len : Nat) : rowAtT zs len len = (zs.take len).map (Value.string) := by simp [rowAtT]

theorem copy_zeroT (x : Addr) (cap : Nat) (w : World) :
    Calls Tryz.prog 17 #[.slice (some x) 0 cap] w fun e w' => e = .returned (.slice (some ⟨w.heap.size, 0, none⟩) 0 0) ∧ Below w.heap.size w w' := by
  have h1 := fun (W : World) => Lib.run_eql_slice_nil (P := Tryz.prog) W 31 9 (some x) 0 cap 0 0 Tryz.underlying31
  have hm : ∀ W : World, (Instr.makeSlice 31 (.int .i64 0) (.int .i64 0)).run Tryz.prog W = .ok (.slice (some ⟨W.heap.size, 0, none⟩) 0 0) (W.alloc (.cells #[] 9)) := fun W => hmk32T 0 (by omega) W
  go_enter Tryz.func17, Tryz.ntmps17
  go_wp2
  refine wp_loop_rounds 1 ?_
  rw [rounds_succ]
  go_wp2
  go_ret
  exact ⟨rfl, (Below.refl _ _).alloc (Nat.le_refl _) _⟩

/-- What the walk is told of a slice of strings that came in. -/
def IsTexts (w : World) (a : Option Addr) (len cap : Nat) (zs : List ByteArray) : Prop :=
  (a = none ∧ len = 0 ∧ cap = 0 ∧ zs = []) ∨
  ∃ x, a = some x ∧ len ≤ cap ∧ cap ≤ maxLen ∧ zs.length = cap ∧ (∀ i, i < zs.length → w.cell? (x.add i) = some (.string (zs.getD i ⟨#[]⟩))) ∧ ∀ s ∈ zs, s.size ≤ maxLen

theorem IsTexts.le {w : World} {a : Option Addr} {len cap : Nat} {zs : List ByteArray} (h : IsTexts w a len cap zs) : len ≤ zs.length := by
  rcases h with ⟨rfl, rfl, rfl, rfl⟩ | ⟨x, rfl, hl, hm, hz, hcell, hwz⟩
  · simp
  · omega

theorem copy_anyT (a : Option Addr) (len cap : Nat) (zs : List ByteArray) (w : World) (hlen : len ≤ 1073741824) (h : IsTexts w a len cap zs) :
    Calls Tryz.prog 17 #[.slice a len cap] w fun e w' => ∃ v, e = .returned v ∧ CopiedT w w' v zs len := by
  rcases h with ⟨rfl, rfl, rfl, rfl⟩ | ⟨x, rfl, hl, hm, hz, hcell, hwz⟩
  · exact copy_nilT w []
  · by_cases h0 : len = 0
    · subst h0
      exact (copy_zeroT x cap w).mono fun e w' ⟨he, hb⟩ => ⟨_, he, _, rfl, fun h => absurd h (by omega), hb⟩
    · obtain ⟨b, off, spot⟩ := x
      have hc := hcell 0 (by omega)
      have hspot : spot = none := by simpa [Addr.add] using World.cell?_spot hc
      subst hspot
      have hadd : ∀ i, (⟨b, off, none⟩ : Addr).add i = ⟨b, off + i, none⟩ := fun i => by unfold Addr.add; split <;> simp_all
      have hb : b < w.heap.size := by
        rw [hadd] at hc
        simp only [World.cell?] at hc
        cases hh : w.heap[b]? with
        | none => simp [hh] at hc
        | some o => exact lt_of hh
      refine (copy_someT b off len cap zs w (by omega) (by omega) hlen hb (fun i hi => by rw [← hadd]; exact hcell i (by omega))).mono fun e w' ⟨he, hr⟩ => ⟨_, he, _, rfl, fun _ => ⟨rfl, ?_⟩, hr.out.2⟩
      have := hr.out.1
      rw [rowAt_allT] at this
      exact this
end Go.Proofs.YtbgolkdhcgjfkaaGreatDoor
