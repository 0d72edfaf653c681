/-
  The registry in memory (Reg), and the contracts of forceResize, resize, Push: conditions: sizes up to 2^20, growth step up to 2^30.
-/
import Derived.Test.YtdnomaafjmfdkaaGreatDoorProg
import Derived.Test.YtdnomaafjmfdkaaGreatDoorBase
import Derived.WalkLawsBesides
import Derived.WalkSpells
import Derived.Deep.QuietTactic
import Derived.BigQuiet
import Derived.Laws.CopyOwn
import Derived.Lib.Hide
namespace Go.Proofs.YtdnomaafjmfdkaaGreatDoor
open Go.RowKit
set_option maxRecDepth 100000
set_option maxHeartbeats 400000

theorem Tryz.info58 : (Tryz.prog.info? 58).map (fun i => (i.zero, i.size, i.bytes)) = some (some .nilIface, 1, 16) := by kernel_rfl

theorem madeCells_toList (n : Nat) : (madeCells (Value.nilIface).cells n).toList = List.replicate n .nilIface := by
  unfold madeCells
  apply List.ext_getElem?
  intro i
  simp [Value.cells]
  by_cases h : i < n
  · simp [h, Nat.mod_one]
  · simp [h]

theorem hmk (n : Nat) (hn : n ≤ 1073741824) (W : World) : (Instr.makeSlice 47 (.int .i64 n) (.int .i64 n)).run Tryz.prog W =
    .ok (.slice (some ⟨W.heap.size, 0, none⟩) n n) (W.alloc (.cells (List.replicate n Value.nilIface).toArray 58)) := by
  obtain ⟨i0, hi, hz0, hz1, hz2⟩ := info_parts Tryz.info58
  have h := run_make (P := Tryz.prog) W 47 58 i0 .nilIface Tryz.underlying47 hi hz0 .i64 .i64 (n : Int) (n : Int) (by omega) (by omega) (by rw [hz2]; omega) (by omega)
  rw [hz1, Nat.mul_one, ← madeCells_toList] at *
  simpa using h


/-- What 'copy(newSlice, rg.array[:top])' lays in the new row. -/
def grow (xs : List Value) (top N : Nat) : List Value := xs.take top ++ List.replicate (N - top) .nilIface

theorem copy_run (A H top len N : Nat) (xs : List Value) (M : Array Value) (W : World) (hlt : top ≤ len) (hxs : xs.length = len) (hN : top ≤ N) (hM : M.toList = List.replicate N .nilIface)
    (hA : W.heap[A]? = some (.cells xs.toArray 58 (0, 0))) (hH : W.heap[H]? = some (.cells M 58 (0, 0))) (h1 : ∀ v ∈ xs, v.oneCell' = true) (ty : TypeId) :
    (Builtin.copy_ #[47, 47] ty #[.slice (some ⟨H, 0, none⟩) N N, .slice (some ⟨A, 0, none⟩) top len]).run Tryz.prog W = .ok (.int .i64 top) (W.setRow H (grow xs top N).toArray) := by
  have hs : (Tryz.prog.info? 58).map (·.size) = some 1 := by kernel_rfl
  have hl : (xs.take top).length = top := by simp; omega
  have h := run_copy_row (P := Tryz.prog) W 47 47 ty 58 H 0 N N ⟨A, 0, none⟩ top len M 58 (xs.take top) Tryz.underlying47 hs hH (by rw [hl]; exact (Nat.min_eq_left hN).symm)
    (fun j v hj => by
      have : (⟨A, 0, none⟩ : Addr).add j = ⟨A, j, none⟩ := by unfold Addr.add; split <;> simp_all
      rw [this, cell_of hA]
      rw [List.getElem?_take] at hj
      split at hj
      · simpa using hj
      · cases hj)
    (by rw [hl, ← Array.length_toList, hM]; simp; omega) (fun v hv => h1 v (List.mem_of_mem_take hv))
  rw [h, hl, hM]
  congr 2
  unfold grow
  simp


/-- The registry's own block. -/
abbrev regCells (A len : Nat) (top : Nat) (g m : Nat) : Array Value := #[.slice (some ⟨A, 0, none⟩) len len, .int .i64 top, .int .i64 g, .int .i64 m, .pointer none, .nilIface]

def Forced (R top N : Nat) (xs : List Value) (w w' : World) : Prop :=
  w' = (((w.alloc (.cells (List.replicate N Value.nilIface).toArray 58)).drew.setRow w.heap.size (grow xs top N).toArray).setCell ⟨R, 0, none⟩ (.slice (some ⟨w.heap.size, 0, none⟩) N N))

theorem force_any (R A top len N g m : Nat) (xs : List Value) (w : World) (hlt : top ≤ len) (hxs : xs.length = len) (hN : N ≤ 1073741824) (hNt : top ≤ N)
   (hR : w.heap[R]? = some (.cells (regCells A len top g m) 52 (0, 0))) (hA : w.heap[A]? = some (.cells xs.toArray 58 (0, 0))) (h1 : ∀ v ∈ xs, v.oneCell' = true) :
  Calls Tryz.prog 34 #[.pointer (some ⟨R, 0, none⟩), .int .i64 N] w fun e w' => e = .returned (.tuple #[]) ∧ Forced R top N xs w w' := by
  have hm := hmk N hN
  unfold Forced
  obtain ⟨M, hM⟩ : ∃ M, M = (List.replicate N Value.nilIface).toArray := ⟨_, rfl⟩
  rw [← hM] at hm ⊢
  have hMl : M.toList = List.replicate N Value.nilIface := by rw [hM]
  clear hM
  have hA1 := alloc_old (.cells M 58) hA
  have hR1 := alloc_old (.cells M 58) hR
  have hc1 := copy_run A w.heap.size top len N xs M (w.alloc (.cells M 58)) hlt hxs hNt hMl hA1 (heap_alloc_new w _) h1 3
  have hc2 := copy_run A w.heap.size top len N xs M (w.alloc (.cells M 58)).drew hlt hxs hNt hMl hA1 (heap_alloc_new w _) h1 3
  obtain ⟨ys, hys⟩ : ∃ ys, ys = (grow xs top N).toArray := ⟨_, rfl⟩
  rw [← hys] at hc1 hc2 ⊢
  have hR2 : ((w.alloc (.cells M 58)).drew.setRow w.heap.size ys).heap[R]? = some (.cells (regCells A len top g m) 52 (0, 0)) :=
    (setRow_other _ _ _ _ (by have := lt_of hR; omega)).trans hR1
  have f0 : w.cell? ⟨R, 0, none⟩ = some (.slice (some ⟨A, 0, none⟩) len len) := cell_of hR
  have f1 : w.cell? ⟨R, 1, none⟩ = some (.int .i64 top) := cell_of hR
  have e0 : ((w.alloc (.cells M 58)).drew.setRow w.heap.size ys).cell? ⟨R, 0, none⟩ = some (.slice (some ⟨A, 0, none⟩) len len) := cell_of hR2
  have z0 : ((w.alloc (.cells M 58)).drew.setRow w.heap.size ys).frozen? ⟨R, 0, none⟩ = false := free_of hR2
  have hlR : R < w.heap.size := lt_of hR
  clear hys hMl hA hA1 hxs h1 hR hR1 hR2
  go_enter Tryz.func34, Tryz.ntmps34
  go_wp2
  go_region
  all_goals go_wp2
  all_goals go_end0
  all_goals exact ⟨rfl, rfl⟩

/-- The size that 'resize' comes to. -/
def newSize (q g m : Nat) : Nat := if m < q + g then m else q + g

theorem resize_any (R A top len q g m : Nat) (xs : List Value) (w : World) (hlt : top ≤ len) (hxs : xs.length = len) (hq : q ≤ 1048576) (hg : g ≤ 1073741824) (hm : m ≤ 1048576) (hqm : q ≤ m) (hNt : top ≤ q)
   (hR : w.heap[R]? = some (.cells (regCells A len top g m) 52 (0, 0))) (hA : w.heap[A]? = some (.cells xs.toArray 58 (0, 0))) (h1 : ∀ v ∈ xs, v.oneCell' = true) :
  Calls Tryz.prog 31 #[.pointer (some ⟨R, 0, none⟩), .int .i64 q] w fun e w' => e = .returned (.tuple #[]) ∧ Forced R top (newSize q g m) xs w w' := by
  have f2 : w.cell? ⟨R, 2, none⟩ = some (.int .i64 g) := cell_of hR
  have f3 : w.cell? ⟨R, 3, none⟩ = some (.int .i64 m) := cell_of hR
  by_cases h : m < q + g
  · have hN : newSize q g m = m := if_pos h
    rw [hN]
    have HC := force_any R A top len m g m xs w hlt hxs (by omega) (by omega) hR hA h1
    have hc : (m : Int) < (q : Int) + (g : Int) := by omega
    have hc2 : ¬ (m : Int) < (q : Int) := by omega
    have HC' := Lib.hid HC
    clear HC hN hxs hR hA h1
    go_enter Tryz.func31, Tryz.ntmps31
    go_wp2_with (go_at_call 34; refine HC'.out.mono ?_; rintro e w' ⟨rfl, hw⟩)
    go_end0
    exact ⟨rfl, hw⟩
  · have hN : newSize q g m = q + g := if_neg h
    rw [hN]
    have HC := force_any R A top len (q + g) g m xs w hlt hxs (by omega) (by omega) hR hA h1
    have hc : ¬ (m : Int) < (q : Int) + (g : Int) := by omega
    have hc2 : ¬ (q : Int) + (g : Int) < (q : Int) := by omega
    rw [show (((q + g : Nat)) : Int) = (q : Int) + (g : Int) from by omega] at HC
    have HC' := Lib.hid HC
    clear HC hN hxs hR hA h1
    go_enter Tryz.func31, Tryz.ntmps31
    go_wp2_with (go_at_call 34; refine HC'.out.mono ?_; rintro e w' ⟨rfl, hw⟩)
    go_end0
    exact ⟨rfl, hw⟩

/-- What a registry in memory is: its own block, and the row of its slots. -/
def Reg (w : World) (R A : Nat) (xs : List Value) (top g m : Nat) : Prop :=
  w.heap[R]? = some (.cells (regCells A xs.length top g m) 52 (0, 0)) ∧ w.heap[A]? = some (.cells xs.toArray 58 (0, 0)) ∧ A ≠ R ∧ (∀ v ∈ xs, v.oneCell' = true)

theorem Reg.drew {w : World} {R A : Nat} {xs : List Value} {top g m : Nat} (h : Reg w R A xs top g m) : Reg w.drew R A xs top g m := h

theorem length_grow (xs : List Value) (top N : Nat) (h1 : top ≤ xs.length) (h2 : top ≤ N) : (grow xs top N).length = N := by
  unfold grow; simp; omega

theorem grow_one (xs : List Value) (top N : Nat) (h1 : ∀ v ∈ xs, v.oneCell' = true) : ∀ v ∈ grow xs top N, v.oneCell' = true := by
  intro v hv
  unfold grow at hv
  rcases List.mem_append.1 hv with h | h
  · exact h1 v (List.mem_of_mem_take h)
  · rw [(List.mem_replicate.1 h).2]; rfl

/-- Behind 'forceResize': the same registry over a new row. -/
theorem Reg.forced {w w' : World} {R A : Nat} {xs : List Value} {top g m N : Nat} (h : Reg w R A xs top g m) (ht : top ≤ xs.length) (hN : top ≤ N) (hw : Forced R top N xs w w') :
    Reg w' R w.heap.size (grow xs top N) top g m ∧ Keeps (fun k => k = R ∨ k = A) w w' := by
  obtain ⟨hR, hA, hne, h1⟩ := h
  unfold Forced at hw
  subst hw
  have hlR := lt_of hR
  have hl := length_grow xs top N ht hN
  refine ⟨⟨?_, ?_, by omega, grow_one xs top N h1⟩, ?_⟩
  · rw [hl]
    exact set_same _ ((setRow_other _ _ _ _ (by omega)).trans (alloc_old _ hR))
  · rw [set_other _ (by show w.heap.size ≠ R; omega)]
    exact row_same _ (heap_alloc_new w _)
  · exact ((((Keeps.refl _ _).alloc _).drew).setRow_new (Nat.le_refl _) _).setCell (Or.inl rfl) _

theorem Reg.size {w : World} {R A : Nat} {xs : List Value} {top g m : Nat} (h : Reg w R A xs top g m) : R < w.heap.size ∧ A < w.heap.size := ⟨lt_of h.1, lt_of h.2.1⟩

/-- A store into a slot. -/
theorem Reg.slot {w : World} {R A : Nat} {xs : List Value} {top g m : Nat} (h : Reg w R A xs top g m) (i : Nat) (v : Value) (hv : v.oneCell' = true) : Reg (w.setCell ⟨A, i, none⟩ v) R A (xs.set i v) top g m := by
  obtain ⟨hR, hA, hne, h1⟩ := h
  refine ⟨?_, ?_, hne, ?_⟩
  · rw [List.length_set, set_other _ (by show R ≠ A; omega)]; exact hR
  · rw [set_same _ hA, toArray_set]
  · intro u hu
    rcases List.mem_or_eq_of_mem_set hu with h | rfl
    · exact h1 u h
    · exact hv

/-- A store of the top. -/
theorem Reg.top {w : World} {R A : Nat} {xs : List Value} {top g m : Nat} (h : Reg w R A xs top g m) (t : Nat) : Reg (w.setCell ⟨R, 1, none⟩ (.int .i64 t)) R A xs t g m := by
  obtain ⟨hR, hA, hne, h1⟩ := h
  refine ⟨?_, ?_, hne, h1⟩
  · rw [set_same _ hR]; simp
  · rw [set_other _ (by show A ≠ R; omega)]; exact hA

def Pushed (R A : Nat) (xs : List Value) (top g m : Nat) (v : Value) (w w' : World) : Prop :=
  ∃ A', Reg w' R A' ((if top < xs.length then xs else grow xs top (newSize (top + 1) g m)).set top v) (top + 1) g m ∧ Keeps (fun k => k = R ∨ k = A) w w' ∧ (A' = A ∨ w.heap.size ≤ A')

theorem push_room (R A top g m : Nat) (xs : List Value) (v : Value) (w : World) (ht : top < xs.length) (hx : xs.length ≤ 1048576)
    (h : Reg w R A xs top g m) :
    Calls Tryz.prog 24 #[.pointer (some ⟨R, 0, none⟩), .iface 44 v] w fun e w' => e = .returned (.tuple #[]) ∧ w' = ((w.setCell ⟨A, top, none⟩ (.iface 44 v)).setCell ⟨R, 1, none⟩ (.int .i64 (top + 1))).drew := by
  obtain ⟨hR, hA, hne, h1⟩ := h
  have f0 : w.cell? ⟨R, 0, none⟩ = some (.slice (some ⟨A, 0, none⟩) xs.length xs.length) := cell_of hR
  have f1 : w.cell? ⟨R, 1, none⟩ = some (.int .i64 top) := cell_of hR
  have z0 : w.frozen? ⟨R, 1, none⟩ = false := free_of hR
  have za : w.frozen? ⟨A, top, none⟩ = false := free_of hA
  obtain ⟨u, ca⟩ : ∃ u, w.cell? ⟨A, top, none⟩ = some u := ⟨_, by rw [cell_of hA]; simp [ht]; rfl⟩
  generalize xs.length = len at *
  clear hR hA h1
  go_enter Tryz.func24, Tryz.ntmps24
  go_wp2
  go_region
  all_goals go_wp2
  all_goals go_end0
  all_goals exact ⟨rfl, rfl⟩

theorem newSize_ge (q g m : Nat) (h : q ≤ m) : q ≤ newSize q g m ∧ newSize q g m ≤ m := by unfold newSize; split <;> omega

theorem push_grow (R A top g m : Nat) (xs : List Value) (v : Value) (w : World) (ht : top = xs.length) (hg : g ≤ 1073741824) (hm : m ≤ 1048576) (htm : top + 1 ≤ m)
    (h : Reg w R A xs top g m) :
    Calls Tryz.prog 24 #[.pointer (some ⟨R, 0, none⟩), .iface 44 v] w fun e w' => e = .returned (.tuple #[]) ∧
      ∃ w1, Forced R top (newSize (top + 1) g m) xs w w1 ∧ w' = ((w1.setCell ⟨w.heap.size, top, none⟩ (.iface 44 v)).setCell ⟨R, 1, none⟩ (.int .i64 (top + 1))).drew := by
  have HC := resize_any R A top xs.length (top + 1) g m xs w (by omega) rfl (by omega) hg hm htm (by omega) h.1 h.2.1 h.2.2.2
  have hF := fun w1 (hw : Forced R top (newSize (top + 1) g m) xs w w1) => h.forced (by omega) (by have := newSize_ge (top + 1) g m htm; omega) hw
  have hN := newSize_ge (top + 1) g m htm
  have hlen := length_grow xs top (newSize (top + 1) g m) (by omega) (by omega)
  obtain ⟨hR, hA, hne, h1⟩ := h
  have f0 : w.cell? ⟨R, 0, none⟩ = some (.slice (some ⟨A, 0, none⟩) top top) := by rw [ht]; exact cell_of hR
  have f1 : w.cell? ⟨R, 1, none⟩ = some (.int .i64 top) := cell_of hR
  have hlR := lt_of hR
  generalize newSize (top + 1) g m = N at *
  generalize hys : grow xs top N = ys at *
  have HC' := Lib.hid HC
  have HF := Lib.hid hF
  have HL := Lib.hid hlen
  rw [show ((top + 1 : Nat) : Int) = (top : Int) + 1 from by omega] at HC'
  clear HC hF hlen hR hA h1 hys ht
  go_enter Tryz.func24, Tryz.ntmps24
  go_wp2_with (go_at_call 31; refine HC'.out.mono ?_; rintro e w1 ⟨rfl, hw⟩; obtain ⟨⟨gR, gA, gne, g1⟩, gk⟩ := HF.out w1 hw; have hw' := Lib.hid hw; clear hw; have e0 : w1.cell? ⟨R, 0, none⟩ = some (.slice (some ⟨w.heap.size, 0, none⟩) N N) := (by rw [← HL.out]; exact cell_of gR); have e1 : w1.cell? ⟨R, 1, none⟩ = some (.int .i64 top) := cell_of gR; have y0 : w1.frozen? ⟨R, 1, none⟩ = false := free_of gR; have ya : w1.frozen? ⟨w.heap.size, top, none⟩ = false := free_of gA; obtain ⟨u, ca⟩ : ∃ u, w1.cell? ⟨w.heap.size, top, none⟩ = some u := ⟨_, by rw [cell_of gA]; simp [HL.out, show top < N by omega]; rfl⟩; have hlt : top < N := (by omega); clear gR gA g1 gk)
  go_region
  all_goals go_wp2
  all_goals go_end0
  all_goals exact ⟨rfl, _, hw'.out, rfl⟩

theorem push_any (R A top g m : Nat) (xs : List Value) (v : Value) (w : World) (ht : top ≤ xs.length) (hx : xs.length ≤ 1048576) (hg : g ≤ 1073741824) (hm : m ≤ 1048576) (htm : top < xs.length ∨ top + 1 ≤ m)
    (h : Reg w R A xs top g m) (hv : (Value.iface 44 v).oneCell' = true) :
    Calls Tryz.prog 24 #[.pointer (some ⟨R, 0, none⟩), .iface 44 v] w fun e w' => e = .returned (.tuple #[]) ∧ Pushed R A xs top g m (.iface 44 v) w w' := by
  by_cases hlt : top < xs.length
  · refine (push_room R A top g m xs v w hlt hx h).mono ?_
    rintro e w' ⟨rfl, rfl⟩
    refine ⟨rfl, A, ?_, ?_, Or.inl rfl⟩
    · rw [if_pos hlt]
      exact ((h.slot top _ hv).top (top + 1)).drew
    · exact ((((Keeps.refl _ _).setCell (Or.inr rfl) _).setCell (Or.inl rfl) _).drew)
  · have htop : top = xs.length := by omega
    have hN := newSize_ge (top + 1) g m (by omega)
    refine (push_grow R A top g m xs v w htop hg hm (by omega) h).mono ?_
    rintro e w' ⟨rfl, w1, hw, rfl⟩
    obtain ⟨hr, hk⟩ := h.forced ht (by omega) hw
    refine ⟨rfl, w.heap.size, ?_, ?_, Or.inr (Nat.le_refl _)⟩
    · rw [if_neg hlt]
      exact ((hr.slot top _ hv).top (top + 1)).drew
    · exact (((hk.setCell_new (Nat.le_refl _) _).setCell (Or.inl rfl) _).drew)
end Go.Proofs.YtdnomaafjmfdkaaGreatDoor
