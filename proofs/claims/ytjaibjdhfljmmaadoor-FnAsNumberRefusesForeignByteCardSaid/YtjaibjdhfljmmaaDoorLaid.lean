/-
  A world in which the thirteen listed variables hold what their initialisers lay (for the rows' witness), and that they read so there.
-/
import Derived.Test.YtjaibjdhfljmmaaDoorRows
import Derived.Lib.LaidIn
namespace Go.Proofs.YtjaibjdhfljmmaaDoor
open Go

def datumCells : DataW Unit → List Value
  | .lit (.int k n) => [.int k n]
  | .lit (.float k b) => [.float k b]
  | .lit (.bool b) => [.bool b]
  | .lit (.string l) => [.string ⟨l.toArray⟩]
  | _ => []
def aggCells : DataW Unit → Array Value
  | .agg xs => (xs.flatMap datumCells).toArray
  | d => (datumCells d).toArray
def sliceCells : DataW Unit → Array Value
  | .slice xs _ => (xs.flatMap datumCells).toArray
  | _ => #[]
def sliceCells2 : DataW Unit → Array Value
  | .slice xs _ => (xs.flatMap fun x => (aggCells x).toList).toArray
  | _ => #[]
def aggCells2 : DataW Unit → Array Value
  | .agg xs => (xs.flatMap fun x => (aggCells x).toList).toArray
  | _ => #[]
def sliceLen : DataW Unit → Nat
  | .slice xs _ => xs.length
  | _ => 0
def sentinelText : DataW Unit → Value
  | .iface _ (.ptr (.agg [.lit (.string l)])) => .string ⟨l.toArray⟩
  | _ => .nilIface

theorem own : ownKnob Tryd.prog.godebug = none := by kernel_rfl
theorem laidOut : laidOutB Tryd.prog = true := by kernel_rfl

/-- The settled world with six blocks more (three slices' rows, the two errors' structs, the cheats' row), the variables holding what their initialisers lay. -/
noncomputable def laidWorld (os : Os) : World :=
  let N := (World.settled Tryd.prog os).heap.size
  let w0 := World.holding Tryd.prog os ⟨#[
    .cells (sliceCells Rows.laid_internal_strconv_powtab) 3, .cells (sliceCells Rows.laid_internal_strconv_float64pow10) 23, .cells (sliceCells Rows.laid_internal_strconv_float32pow10) 85,
    .cells #[sentinelText Rows.laid_strconv_ErrRange] 92, .cells #[sentinelText Rows.laid_strconv_ErrSyntax] 92, .cells (sliceCells2 Rows.laid_internal_strconv_leftcheats) 154], #[], []⟩
  let put (h : Array Obj) (g : Nat) (cs : Array Value) : Array Obj := h.modify g fun
    | .cells _ t frozen => .cells cs t frozen
    | o => o
  let h0 := put (put w0.heap 1 #[.iface 90 (.pointer (some ⟨N + 4, 0, none⟩))]) 2 #[.iface 90 (.pointer (some ⟨N + 3, 0, none⟩))]
  let h1 := put (put (put h0 3 (aggCells Rows.laid_internal_strconv_float32info)) 5 (aggCells Rows.laid_internal_strconv_float64info)) 4 (aggCells Rows.laid_internal_strconv_optimize)
  let h2 := put (put (put h1 12 (aggCells Rows.laid_math_bits_deBruijn32tab)) 13 (aggCells Rows.laid_math_bits_deBruijn64tab)) 10 (aggCells Rows.laid_internal_strconv_uint64pow10)
  let h3 := put h2 7 #[.slice (some ⟨N, 0, none⟩) (sliceLen Rows.laid_internal_strconv_powtab) (sliceLen Rows.laid_internal_strconv_powtab)]
  let h4 := put h3 8 #[.slice (some ⟨N + 1, 0, none⟩) (sliceLen Rows.laid_internal_strconv_float64pow10) (sliceLen Rows.laid_internal_strconv_float64pow10)]
  let h5 := put h4 6 #[.slice (some ⟨N + 2, 0, none⟩) (sliceLen Rows.laid_internal_strconv_float32pow10) (sliceLen Rows.laid_internal_strconv_float32pow10)]
  let h6 := put h5 11 #[.slice (some ⟨N + 5, 0, none⟩) (sliceLen Rows.laid_internal_strconv_leftcheats) (sliceLen Rows.laid_internal_strconv_leftcheats)]
  { w0 with heap := put h6 9 (aggCells2 Rows.laid_internal_strconv_pow10Tab) }

noncomputable abbrev N0 : Nat := (World.settled Tryd.prog default).heap.size

def laid11 : List (String × DataW Unit) := [("math/bits.deBruijn32tab", Rows.laid_math_bits_deBruijn32tab), ("math/bits.deBruijn64tab", Rows.laid_math_bits_deBruijn64tab), ("internal/strconv.float32info", Rows.laid_internal_strconv_float32info), ("internal/strconv.float64info", Rows.laid_internal_strconv_float64info), ("internal/strconv.optimize", Rows.laid_internal_strconv_optimize), ("internal/strconv.powtab", Rows.laid_internal_strconv_powtab), ("internal/strconv.float64pow10", Rows.laid_internal_strconv_float64pow10), ("internal/strconv.float32pow10", Rows.laid_internal_strconv_float32pow10), ("internal/strconv.uint64pow10", Rows.laid_internal_strconv_uint64pow10), ("strconv.ErrRange", Rows.laid_strconv_ErrRange), ("strconv.ErrSyntax", Rows.laid_strconv_ErrSyntax)]

theorem piece0 (os : Os) (args : Array Value) : LaidIn Tryd.prog ((laidWorld os).forCall (fun _ _ => 0) ⟨#[], args, []⟩).memory laid11 [1, 2, 3, 4, 5, 6, 7, 8, 10, 12, 13, N0, N0 + 1, N0 + 2, N0 + 3, N0 + 4] :=
  LaidIn.of_run [1, 2, 3, 4, 5, 6, 7, 8, 10, 12, 13, N0, N0 + 1, N0 + 2, N0 + 3, N0 + 4] 8 (by kernel_rfl) (by kernel_rfl) (by kernel_rfl) (by kernel_rfl)
theorem piece1 (os : Os) (args : Array Value) : LaidIn Tryd.prog ((laidWorld os).forCall (fun _ _ => 0) ⟨#[], args, []⟩).memory [("internal/strconv.leftcheats", Rows.laid_internal_strconv_leftcheats)] [11, N0 + 5] :=
  LaidIn.of_run [11, N0 + 5] 8 (by kernel_rfl) (by kernel_rfl) (by kernel_rfl) (by kernel_rfl)

/-! ### The great table of pairs -/
def pairCells (rows : List (Nat × Nat)) : List Value := rows.flatMap fun x => [.int .u64 x.1, .int .u64 x.2]
def pairData (rows : List (Nat × Nat)) : List (DataW Unit) := rows.map fun x => .agg [.lit (.int .u64 x.1), .lit (.int .u64 x.2)]

theorem pairCells_eq : aggCells2 Rows.laid_internal_strconv_pow10Tab = (pairCells Pinned.pow10Rows).toArray := by
  unfold Rows.laid_internal_strconv_pow10Tab Pinned.pow10Tab aggCells2 pairCells
  simp only [List.flatMap_map]
  rfl

theorem length_pairCells : ∀ rows : List (Nat × Nat), (pairCells rows).length = 2 * rows.length
  | [] => rfl
  | x :: r => by
    have := length_pairCells r
    unfold pairCells at this ⊢
    rw [List.flatMap_cons, List.length_append, this]
    simp; omega

theorem drop_pairCells : ∀ (rows : List (Nat × Nat)) (i : Nat) (x : Nat × Nat), rows[i]? = some x → ((pairCells rows).drop (i * 2)).take 2 = [.int .u64 x.1, .int .u64 x.2]
  | [], i, x, h => by simp at h
  | y :: r, 0, x, h => by
    simp at h; subst h
    unfold pairCells; simp
  | y :: r, i + 1, x, h => by
    have := drop_pairCells r i x (by simpa using h)
    unfold pairCells at this ⊢
    rw [List.flatMap_cons, show (i + 1) * 2 = 2 + i * 2 by omega, ← List.drop_drop]
    simpa using this

theorem mapM_range {α β : Type} (f : Nat → Option β) (g : α → β) : ∀ (l : List α) (k : Nat), (∀ (i : Nat) (x : α), l[i]? = some x → f (k + i) = some (g x)) → (List.range' k l.length).mapM f = some (l.map g)
  | [], k, _ => rfl
  | x :: r, k, h => by
    have h0 := h 0 x rfl
    rw [Nat.add_zero] at h0
    have ih := mapM_range f g r (k + 1) (fun i y hy => by rw [show k + 1 + i = k + (i + 1) by omega]; exact h (i + 1) y (by simpa using hy))
    rw [List.length_cons, List.range'_succ, List.mapM_cons, h0, ih]
    rfl

theorem read_pairs {enc : TypeId × Value → Unit} {w : World} {sp : Nat → Bool} (rows : List (Nat × Nat)) (hw : ∀ x ∈ rows, (Lit.int .u64 x.1).wf = true ∧ (Lit.int .u64 x.2).wf = true) (hn : rows.length = 696) :
    DataW.trod enc Tryd.prog w 0 sp false 3 144 (pairCells rows) = some (.agg (pairData rows), []) := by
  have hu := Tryd.underlying144
  have hs := Tryd.underlying143
  have h64 : Tryd.prog.underlying 29 = some (.int .u64) := by kernel_rfl
  have c1 : Tryd.prog.cellsOf 144 = 1392 := by kernel_rfl
  have c2 : Tryd.prog.cellsOf 143 = 2 := by kernel_rfl
  have c3 : Tryd.prog.cellsOf 29 = 1 := by kernel_rfl
  have hone : ∀ x ∈ rows, DataW.trod enc Tryd.prog w 0 sp false 2 143 [.int .u64 x.1, .int .u64 x.2] = some (.agg [.lit (.int .u64 x.1), .lit (.int .u64 x.2)], []) := by
    intro x hx
    have := hw x hx
    simp [DataW.trod, hs, c2, c3, h64, this.1, this.2]
  have hm := mapM_range (fun i => DataW.trod enc Tryd.prog w 0 sp false 2 143 (((pairCells rows).drop (i * 2)).take 2)) (fun x : Nat × Nat => ((.agg [.lit (.int .u64 x.1), .lit (.int .u64 x.2)] : DataW Unit), ([] : List MemPlace))) rows 0
    (fun i x hx => by rw [Nat.zero_add, drop_pairCells rows i x hx]; exact hone x (List.mem_of_getElem? hx))
  rw [hn, ← List.range_eq_range'] at hm
  unfold DataW.trod
  rw [hu]
  simp only [c1, c2, length_pairCells, hn]
  rw [if_pos (by decide), hm]
  simp [pairData]

theorem wf_rows : (Pinned.pow10Rows.all fun x => (Lit.int .u64 x.1).wf && (Lit.int .u64 x.2).wf) = true := by kernel_rfl
theorem len_rows : Pinned.pow10Rows.length = 696 := by kernel_rfl
theorem wf_row (x : Nat × Nat) (hx : x ∈ Pinned.pow10Rows) : (Lit.int .u64 x.1).wf = true ∧ (Lit.int .u64 x.2).wf = true := by
  have := List.all_eq_true.1 wf_rows x hx
  simpa using this

theorem cells_ints (rows : List (Nat × Nat)) : ∀ v ∈ pairCells rows, ∃ x ∈ rows, v = .int .u64 x.1 ∨ v = .int .u64 x.2 := by
  intro v hv
  unfold pairCells at hv
  obtain ⟨x, hx, hv⟩ := List.mem_flatMap.1 hv
  simp at hv
  exact ⟨x, hx, hv⟩

theorem no_iface {w : World} {rows : List (Nat × Nat)} {g off : Nat} {t u : TypeId} {v : Value} (hb : w.heap[g]? = some (.cells (pairCells rows).toArray t (0, 0))) (hc : w.cell? ⟨g, off, none⟩ = some (.iface u v)) : False := by
  simp only [World.cell?, hb] at hc
  have hc' : (pairCells rows).toArray[off]? = some (.iface u v) := hc
  rw [List.getElem?_toArray] at hc'
  obtain ⟨x, hx, h | h⟩ := cells_ints _ _ (List.mem_of_getElem? hc') <;> cases h

theorem prop_of_false {p : Prop} (h : False) : p := h.elim

set_option maxRecDepth 100000 in
theorem rowsFit_of {P : Program} {W : World} {g : Nat} {c : Array Value} {t : TypeId} (hb : W.heap[g]? = some (.cells c t (0, 0))) (n : Nat) (hno : ∀ off u v, W.cell? ⟨g, off, none⟩ = some (.iface u v) → False) : RowsFit P W (MemPlace.row ⟨g, 0, none⟩ n) := by
  intro b off hp
  obtain ⟨i, _, e⟩ := MemPlace.mem_row.1 hp
  simp only [MemPlace.cell.injEq] at e
  obtain ⟨rfl, rfl⟩ := e
  exact ⟨⟨_, _, hb⟩, fun u v hc => prop_of_false (hno _ u v hc)⟩

theorem piece2_any {W : World} {t : TypeId} (rows : List (Nat × Nat)) (hw : ∀ x ∈ rows, (Lit.int .u64 x.1).wf = true ∧ (Lit.int .u64 x.2).wf = true) (hn : rows.length = 696) (hb : W.heap[9]? = some (.cells (pairCells rows).toArray t (0, 0))) : LaidIn Tryd.prog W [("internal/strconv.pow10Tab", .agg (pairData rows))] [9] := by
  have hg : Tryd.prog.globalNamed "internal/strconv.pow10Tab" = some 9 := by kernel_rfl
  refine LaidIn.one (g := 9) (t := 144) (cs := (pairCells rows).toArray) (fuel := 3) (p := []) [9] hg (by kernel_rfl) ?_ ?_ ?_ ?_ ?_
  · unfold World.var?
    rw [hg]
    simp only [Option.bind_some]
    rw [hb]
  · exact read_pairs rows hw hn
  · rw [List.append_nil]; exact rowP_nodup _ _
  · rw [List.append_nil]
    exact rowsFit_of hb _ (fun off u v hc => no_iface (w := W) (rows := rows) (g := 9) (off := off) (t := t) (u := u) (v := v) hb hc)
  · rw [List.append_nil]
    intro x hx
    obtain ⟨i, _, rfl⟩ := MemPlace.mem_row.1 hx
    simp [MemPlace.block]

theorem table_here (os : Os) (args : Array Value) : ((laidWorld os).forCall (fun _ _ => 0) ⟨#[], args, []⟩).heap[9]? = some (.cells (pairCells Pinned.pow10Rows).toArray 144 (0, 0)) := by
  rw [← pairCells_eq]; kernel_rfl
theorem table_here' (os : Os) (args : Array Value) : ((laidWorld os).forCall (fun _ _ => 0) ⟨#[], args, []⟩).memory.heap[9]? = some (.cells (pairCells Pinned.pow10Rows).toArray 144 (0, 0)) := by
  rw [← pairCells_eq]; kernel_rfl

theorem piece2 (os : Os) (args : Array Value) : LaidIn Tryd.prog ((laidWorld os).forCall (fun _ _ => 0) ⟨#[], args, []⟩).memory [("internal/strconv.pow10Tab", Rows.laid_internal_strconv_pow10Tab)] [9] :=
  piece2_any Pinned.pow10Rows wf_row len_rows (table_here' os args)
/-- The pieces joined: the thirteen variables in the rows' order. -/
theorem laid_met (os : Os) (args : Array Value) : laidMet Tryd.prog ((laid11 ++ [("internal/strconv.leftcheats", Rows.laid_internal_strconv_leftcheats)]) ++ [("internal/strconv.pow10Tab", Rows.laid_internal_strconv_pow10Tab)]) ((laidWorld os).forCall (fun _ _ => 0) ⟨#[], args, []⟩).memory :=
  (((piece0 os args).append (piece1 os args) (by kernel_rfl)).append (piece2 os args) (by kernel_rfl)).met

/-- The body of 'variablesRefB' at one variable. -/
noncomputable def varOkOf (w : World) (z : Option (Array Value × TypeId)) (o : Option Obj) : Bool :=
  match z with
  | none => true
  | some (zero, t) =>
    match o with
    | some (.cells cs t' frozen) => decide (t' = t) && decide (frozen = (0, 0)) && cs.size == zero.size && (!Tryd.prog.buildable t || Row.okRefB Tryd.prog w t cs)
    | _ => false
noncomputable def varOk (w : World) (g : Nat) : Bool := varOkOf w ((((begin Tryd.prog (fun _ _ => 0) default).world).heap[g]?).bind Obj.row?) (w.heap[g]?)

theorem ok_pairs {w : World} (rows : List (Nat × Nat)) (hw : ∀ x ∈ rows, (Lit.int .u64 x.1).wf = true ∧ (Lit.int .u64 x.2).wf = true) (hn : rows.length = 696) : Row.okRefB Tryd.prog w 144 (pairCells rows).toArray = true := by
  have ht : Tryd.prog.cellTypes Tryd.prog.depth 144 = some (List.replicate 1392 29) := by kernel_rfl
  have h64 : Tryd.prog.underlying 29 = some (.int .u64) := by kernel_rfl
  unfold Row.okRefB
  rw [ht]
  have hl := length_pairCells rows
  simp only [List.length_replicate, List.size_toArray, hl, hn, Bool.and_eq_true, beq_iff_eq, List.all_eq_true, List.mem_range]
  refine ⟨by decide, fun i hi => ?_⟩
  have hi' : i < (pairCells rows).length := by omega
  obtain ⟨v, hv⟩ : ∃ v, (pairCells rows)[i]? = some v := ⟨_, List.getElem?_eq_getElem hi'⟩
  have e1 : (pairCells rows).toArray[i]? = some v := by simpa using hv
  have e2 : (List.replicate 1392 29)[i % 1392]? = some 29 := by rw [List.getElem?_replicate, if_pos (Nat.mod_lt _ (by decide))]
  rw [e1, e2]
  simp only
  obtain ⟨x, hx, rfl | rfl⟩ := cells_ints rows v (List.mem_of_getElem? hv)
  · have := (hw x hx).1
    simp only [Lit.wf, Bool.and_eq_true, decide_eq_true_eq] at this
    simp [Cell.okRefB, Cell.okB, h64, this]
  · have := (hw x hx).2
    simp only [Lit.wf, Bool.and_eq_true, decide_eq_true_eq] at this
    simp [Cell.okRefB, Cell.okB, h64, this]

theorem table_zero : ((((begin Tryd.prog (fun _ _ => 0) default).world).heap[9]?).bind Obj.row?).map (fun x => (x.1.size, x.2)) = some (1392, 144) := by kernel_rfl

theorem varOkOf_table (w : World) (z : Option (Array Value × TypeId)) (hz : z.map (fun x => (x.1.size, x.2)) = some (1392, 144)) : varOkOf w z (some (.cells (pairCells Pinned.pow10Rows).toArray 144 (0, 0))) = true := by
  obtain ⟨⟨zs, t⟩, rfl, h⟩ := Option.map_eq_some_iff.1 hz
  simp only [Prod.mk.injEq] at h
  obtain ⟨h1, rfl⟩ := h
  have hok := ok_pairs (w := w) Pinned.pow10Rows wf_row len_rows
  have hl := length_pairCells Pinned.pow10Rows
  rw [len_rows] at hl
  generalize pairCells Pinned.pow10Rows = cs at *
  simp [varOkOf, hok, h1, hl]

theorem varOk_any (w : World) (h : w.heap[9]? = some (.cells (pairCells Pinned.pow10Rows).toArray 144 (0, 0))) : varOk w 9 = true := by
  unfold varOk
  rw [h]
  exact varOkOf_table w _ table_zero

theorem var_table (os : Os) (args : Array Value) : varOk ((laidWorld os).forCall (fun _ _ => 0) ⟨#[], args, []⟩) 9 = true := varOk_any _ (table_here os args)

theorem refB_of {W : World} {n : Nat} (hsz : Tryd.prog.globals.size = n) (h : (List.range n).all (varOk W) = true) : W.variablesRefB Tryd.prog = true := by
  unfold World.variablesRefB
  rw [hsz]
  exact h

set_option maxRecDepth 100000 in
theorem vars_ref (os : Os) (args : Array Value) : ((laidWorld os).forCall (fun _ _ => 0) ⟨#[], args, []⟩).variablesRefB Tryd.prog = true := by
  have hsz : Tryd.prog.globals.size = 14 := by kernel_rfl
  refine refB_of hsz ?_
  have h0 : varOk ((laidWorld os).forCall (fun _ _ => 0) ⟨#[], args, []⟩) 0 = true := by kernel_rfl
  have h1 : varOk ((laidWorld os).forCall (fun _ _ => 0) ⟨#[], args, []⟩) 1 = true := by kernel_rfl
  have h2 : varOk ((laidWorld os).forCall (fun _ _ => 0) ⟨#[], args, []⟩) 2 = true := by kernel_rfl
  have h3 : varOk ((laidWorld os).forCall (fun _ _ => 0) ⟨#[], args, []⟩) 3 = true := by kernel_rfl
  have h4 : varOk ((laidWorld os).forCall (fun _ _ => 0) ⟨#[], args, []⟩) 4 = true := by kernel_rfl
  have h5 : varOk ((laidWorld os).forCall (fun _ _ => 0) ⟨#[], args, []⟩) 5 = true := by kernel_rfl
  have h6 : varOk ((laidWorld os).forCall (fun _ _ => 0) ⟨#[], args, []⟩) 6 = true := by kernel_rfl
  have h7 : varOk ((laidWorld os).forCall (fun _ _ => 0) ⟨#[], args, []⟩) 7 = true := by kernel_rfl
  have h8 : varOk ((laidWorld os).forCall (fun _ _ => 0) ⟨#[], args, []⟩) 8 = true := by kernel_rfl
  have h10 : varOk ((laidWorld os).forCall (fun _ _ => 0) ⟨#[], args, []⟩) 10 = true := by kernel_rfl
  have h11 : varOk ((laidWorld os).forCall (fun _ _ => 0) ⟨#[], args, []⟩) 11 = true := by kernel_rfl
  have h12 : varOk ((laidWorld os).forCall (fun _ _ => 0) ⟨#[], args, []⟩) 12 = true := by kernel_rfl
  have h13 : varOk ((laidWorld os).forCall (fun _ _ => 0) ⟨#[], args, []⟩) 13 = true := by kernel_rfl
  have h9 := var_table os args
  simp [List.range_succ, h0, h1, h2, h3, h4, h5, h6, h7, h8, h9, h10, h11, h12, h13]

theorem rest_ref (os : Os) (args : Array Value) : (((laidWorld os).forCall (fun _ _ => 0) ⟨#[], args, []⟩).heap.toList.drop Tryd.prog.globals.size).take ((begin Tryd.prog (fun _ _ => 0) default).world.heap.size - Tryd.prog.globals.size) =
      (begin Tryd.prog (fun _ _ => 0) default).world.heap.toList.drop Tryd.prog.globals.size := by kernel_rfl
end Go.Proofs.YtjaibjdhfljmmaaDoor
