/-
  stringslite.Clone, strconv.syntaxError, strconv.rangeError, strconv.toError at these two errors: a pointer to a new block; nothing that was there is turned.
-/
import Derived.Test.YtjaibjdhfljmmaaDoorTrim
import Derived.Lib.Walk
import Derived.Lib.BufferWrite
import Derived.Lib.UnsafeStr
import Derived.Laws.MakeOwn
import Derived.Lib.AtoiErrMem
import Derived.Lib.IfaceEq
import Derived.Lib.IfaceNeq
import Derived.RegionTactic
import Derived.Deep.RegionWith
import Derived.BigCall
namespace Go.Proofs.YtjaibjdhfljmmaaDoor
open Go.RowKit
set_option maxRecDepth 100000
set_option maxHeartbeats 400000

theorem Tryd.info5 : (Tryd.prog.info? 5).map (fun i => (i.zero, i.size, i.bytes)) = some (some (.int .u8 0), 1, 1) := by kernel_rfl

theorem clone_any (s : ByteArray) (w : World) (hlim : s.size ≤ 281474976710656) :
    Calls Tryd.prog 41 #[.string s] w fun e w' => e = .returned (.string s) ∧ Below w.heap.size w w' := by
  by_cases h0 : s.size = 0
  · have hs : s = ⟨#[]⟩ := by
      apply ByteArray.ext
      exact Array.eq_empty_of_size_eq_zero h0
    subst hs
    go_enter Tryd.func41, Tryd.ntmps41
    go_wp2
    go_ret
    exact ⟨rfl, Below.refl _ _⟩
  · obtain ⟨i0, hi, hz0, hz1, hz2⟩ := info_parts Tryd.info5
    have hinfo : (Tryd.prog.info? 5).map (·.size) = some 1 := by rw [hi]; simp [hz1]
    have hco : Tryd.prog.cellsOf 5 = 1 := by simp [Program.cellsOf, hi, hz1]
    obtain ⟨M, hM⟩ : ∃ M, M = madeCells (Value.int .u8 0).cells (((s.size : Nat) : Int).toNat * i0.size) := ⟨_, rfl⟩
    have hMs : M.size = s.size := by rw [hM, size_madeCells, hz1]; simp
    have hmk : ∀ W : World, (Instr.makeSlice 41 (.int .i64 (s.size : Int)) (.int .i64 (s.size : Int))).run Tryd.prog W = .ok (.slice (some ⟨W.heap.size, 0, none⟩) s.size s.size) (W.alloc (.cells M 5)) := fun W => by
      have h := run_make (P := Tryd.prog) W 41 5 i0 (.int .u8 0) Tryd.underlying41 hi hz0 .i64 .i64 (s.size : Int) (s.size : Int) (by omega) (by omega) (by rw [hz2]; omega) (by omega)
      rw [← hM] at h
      simpa using h
    clear hM
    have hcp := Lib.run_copy_row_string (P := Tryd.prog) (w.alloc (.cells M 5)) 41 9 3 5 w.heap.size 0 s.size s.size s M 5 Tryd.underlying41 hinfo (heap_alloc_new w _) (Nat.le_refl _) (by omega)
    obtain ⟨Y, hY⟩ : ∃ Y, Y = (M.toList.take 0 ++ Lib.byteCells s.data.toList ++ M.toList.drop (0 + s.size)).toArray := ⟨_, rfl⟩
    rw [← hY] at hcp
    have hYl : Y.toList = Lib.byteCells s.data.toList := by
      rw [hY, List.toList_toArray, List.take_zero, List.nil_append, List.drop_of_length_le (by rw [Array.length_toList]; omega), List.append_nil]
    have hYs : Y.size = s.size := by rw [← Array.length_toList, hYl, Lib.byteCells_length, ← Lib.size_eq]
    have hgY : ((w.alloc (.cells M 5)).setRow w.heap.size Y).heap[w.heap.size]? = some (.cells Y 5 (0, 0)) := setRow_heap _ _ M _ 5 (0, 0) (heap_alloc_new w _)
    have hne : s.data.toList ≠ [] := fun e => h0 (by rw [Lib.size_eq, e]; rfl)
    have hUS := Lib.run_unsafeString_row (P := Tryd.prog) ((w.alloc (.cells M 5)).setRow w.heap.size Y) 89 3 9 5 Tryd.underlying89 hco w.heap.size Y.size (by unfold World.shape?; rw [hgY]) s.data.toList hne (by rw [← Lib.size_eq]; omega) (by rw [← Lib.size_eq]; omega)
      (fun j x hx => Lib.cells_of_row hgY Y.size j _ (by rw [List.take_of_length_le (by rw [Array.length_toList]; exact Nat.le_refl _), hYl]; simp [Lib.byteCells, hx]))
    rw [← Lib.size_eq] at hUS
    clear hY
    go_enter Tryd.func41, Tryd.ntmps41
    go_wp2
    go_ret
    have hb1 : Below w.heap.size w (w.alloc (.cells M 5)) := (Below.refl _ w).alloc (Nat.le_refl _) _
    have hb2 : Below w.heap.size (w.alloc (.cells M 5)) ((w.alloc (.cells M 5)).setRow w.heap.size Y) := ⟨rfl, rfl, rfl, by simp, fun k hk => setRow_other _ _ _ _ (by omega)⟩
    exact ⟨rfl, Lib.below_freeze (hb1.trans hb2) (p := ⟨w.heap.size, 0, none⟩) (Nat.le_refl _) _⟩

/-- The two sentinels hold an error each. -/
def Errs (w : World) : Prop := (∃ t p, w.cell? ⟨1, 0, none⟩ = some (.iface t p)) ∧ ∃ t p, w.cell? ⟨2, 0, none⟩ = some (.iface t p)

theorem Errs.below {w w' : World} (h : Errs w) (hb : Below w.heap.size w w') : Errs w' := by
  obtain ⟨⟨t, p, h1⟩, t', p', h2⟩ := h
  exact ⟨⟨t, p, (hb.cell (p := ⟨1, 0, none⟩) (Lib.lt_of_cell h1)).trans h1⟩, t', p', (hb.cell (p := ⟨2, 0, none⟩) (Lib.lt_of_cell h2)).trans h2⟩

theorem syntax_error (fn s : ByteArray) (w : World) (hlim : s.size ≤ 281474976710656) (hv : Errs w) :
    Calls Tryd.prog 34 #[.string fn, .string s] w fun e w' => (∃ N, e = .returned (.pointer (some ⟨N, 0, none⟩))) ∧ Below w.heap.size w w' := by
  obtain ⟨⟨te, pe, hv⟩, _⟩ := hv
  have hG : 1 < w.heap.size := Lib.lt_of_cell hv
  have hvd : w.drew.cell? ⟨1, 0, none⟩ = some _ := hv
  go_enter Tryd.func34, Tryd.ntmps34
  go_wp2
  go_region_with (
      go_at_call 41
      refine (clone_any s _ hlim).mono ?_
      rintro e w2 ⟨rfl, hbel⟩
      have hv2 : w2.cell? ⟨1, 0, none⟩ = some _ := (hbel.cell (show (⟨1, 0, none⟩ : Addr).block < w.drew.heap.size from hG)).trans hvd)
  all_goals (
    go_wp2
    go_ret
    have hs2 : w.heap.size ≤ w2.heap.size := hbel.size
    exact ⟨⟨_, rfl⟩, ((Below.drew (Below.refl _ w)).trans hbel).alloc hs2 _⟩)

theorem range_error (fn s : ByteArray) (w : World) (hlim : s.size ≤ 281474976710656) (hv : Errs w) :
    Calls Tryd.prog 35 #[.string fn, .string s] w fun e w' => (∃ N, e = .returned (.pointer (some ⟨N, 0, none⟩))) ∧ Below w.heap.size w w' := by
  obtain ⟨_, te, pe, hv⟩ := hv
  have hG : 2 < w.heap.size := Lib.lt_of_cell hv
  have hvd : w.drew.cell? ⟨2, 0, none⟩ = some _ := hv
  go_enter Tryd.func35, Tryd.ntmps35
  go_wp2
  go_region_with (
      go_at_call 41
      refine (clone_any s _ hlim).mono ?_
      rintro e w2 ⟨rfl, hbel⟩
      have hv2 : w2.cell? ⟨2, 0, none⟩ = some _ := (hbel.cell (show (⟨2, 0, none⟩ : Addr).block < w.drew.heap.size from hG)).trans hvd)
  all_goals (
    go_wp2
    go_ret
    have hs2 : w.heap.size ≤ w2.heap.size := hbel.size
    exact ⟨⟨_, rfl⟩, ((Below.drew (Below.refl _ w)).trans hbel).alloc hs2 _⟩)

/-- toError at ErrSyntax (2) or ErrRange (1): an error that is not nil. -/
theorem to_error (fn s : ByteArray) (b c k : Int) (w : World) (hk : k = 1 ∨ k = 2) (hlim : s.size ≤ 281474976710656) (hv : Errs w) :
    Calls Tryd.prog 29 #[.string fn, .string s, .int .i64 b, .int .i64 c, .iface 70 (.int .i64 k)] w fun e w' => (∃ N, e = .returned (.iface 74 (.pointer (some ⟨N, 0, none⟩)))) ∧ Below w.heap.size w w' := by
  have HS := Lib.hid (syntax_error fn s w hlim hv)
  have HR := Lib.hid (range_error fn s w hlim hv)
  clear hv
  have e22 : ∀ W, (binOp .eql 37 (.iface 70 (.int .i64 2)) (.iface 70 (.int .i64 2))).run Tryd.prog W = .ok (.bool true) W := fun W => by kernel_rfl
  have e12 : ∀ W, (binOp .eql 37 (.iface 70 (.int .i64 1)) (.iface 70 (.int .i64 2))).run Tryd.prog W = .ok (.bool false) W := fun W => by kernel_rfl
  have e11 : ∀ W, (binOp .eql 37 (.iface 70 (.int .i64 1)) (.iface 70 (.int .i64 1))).run Tryd.prog W = .ok (.bool true) W := fun W => by kernel_rfl
  rcases hk with rfl | rfl
  · clear e22 HS
    go_enter Tryd.func29, Tryd.ntmps29
    go_wp2_with (go_at_call 35; refine HR.out.mono ?_; rintro e w' ⟨⟨N, rfl⟩, hb⟩; have hb' := Lib.hid hb; clear hb)
    go_ret
    exact ⟨⟨N, rfl⟩, hb'.out⟩
  · clear e12 e11 HR
    go_enter Tryd.func29, Tryd.ntmps29
    go_wp2_with (go_at_call 34; refine HS.out.mono ?_; rintro e w' ⟨⟨N, rfl⟩, hb⟩; have hb' := Lib.hid hb; clear hb)
    go_ret
    exact ⟨⟨N, rfl⟩, hb'.out⟩
end Go.Proofs.YtjaibjdhfljmmaaDoor
