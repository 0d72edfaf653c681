/-
  Plain lemmas on worlds for the table's contracts: what a store, a new block, a draw and a row write leave of the blocks; 'Keeps S': only blocks in S (and new ones) may differ.
-/
import Derived.WalkKit
namespace Go.Proofs.YtbgolkdhcgjfkaaGreatDoor
open Go.RowKit

/-- Of the blocks that were there only those in S may differ. -/
structure Keeps (S : Nat → Prop) (w w' : World) : Prop where
  os : w'.os = w.os
  tape : w'.tape = w.tape
  output : w'.output = w.output
  size : w.heap.size ≤ w'.heap.size
  block : ∀ k, k < w.heap.size → ¬ S k → w'.heap[k]? = w.heap[k]?

theorem Keeps.refl (S : Nat → Prop) (w : World) : Keeps S w w := ⟨rfl, rfl, rfl, Nat.le_refl _, fun _ _ _ => rfl⟩

theorem Keeps.trans {S T : Nat → Prop} {a b c : World} (h : Keeps S a b) (k : Keeps T b c) (hT : ∀ n, n < a.heap.size → T n → S n) : Keeps S a c :=
  ⟨k.os.trans h.os, k.tape.trans h.tape, k.output.trans h.output, Nat.le_trans h.size k.size,
    fun n hn hs => (k.block n (Nat.lt_of_lt_of_le hn h.size) (fun ht => hs (hT n hn ht))).trans (h.block n hn hs)⟩

theorem Keeps.mono {S T : Nat → Prop} {w w' : World} (h : Keeps S w w') (hT : ∀ n, S n → T n) : Keeps T w w' :=
  ⟨h.os, h.tape, h.output, h.size, fun n hn hs => h.block n hn (fun t => hs (hT n t))⟩

theorem Keeps.setCell {S : Nat → Prop} {a w : World} (h : Keeps S a w) {p : Addr} (hp : S p.block) (u : Value) : Keeps S a (w.setCell p u) :=
  h.trans (T := S) ⟨rfl, rfl, rfl, by simp [World.setCell], fun k _ hk => Below.heap_setCell _ _ _ _ (fun e => hk (e ▸ hp))⟩ (fun _ _ t => t)

theorem Keeps.setCell_new {S : Nat → Prop} {a w : World} (h : Keeps S a w) {p : Addr} (hp : a.heap.size ≤ p.block) (u : Value) : Keeps S a (w.setCell p u) :=
  ⟨h.os, h.tape, h.output, by have := h.size; simpa [World.setCell] using this, fun k hk hs => (Below.heap_setCell _ _ _ _ (by omega)).trans (h.block k hk hs)⟩

theorem Keeps.alloc {S : Nat → Prop} {a w : World} (h : Keeps S a w) (o : Obj) : Keeps S a (w.alloc o) :=
  ⟨h.os, h.tape, h.output, by have := h.size; simp; omega, fun k hk hs => (Below.heap_alloc _ _ _ (by have := h.size; omega)).trans (h.block k hk hs)⟩

theorem Keeps.drew {S : Nat → Prop} {a w : World} (h : Keeps S a w) : Keeps S a w.drew := ⟨h.os, h.tape, h.output, h.size, h.block⟩

theorem Keeps.setRow_new {S : Nat → Prop} {a w : World} (h : Keeps S a w) {g : Nat} (hg : a.heap.size ≤ g) (cs : Array Value) : Keeps S a (w.setRow g cs) :=
  ⟨h.os, h.tape, h.output, by have := h.size; simpa [World.setRow] using this, fun k hk hs => (setRow_other w g k cs (by omega)).trans (h.block k hk hs)⟩

theorem Keeps.setRow {S : Nat → Prop} {a w : World} (h : Keeps S a w) {g : Nat} (hg : S g) (cs : Array Value) : Keeps S a (w.setRow g cs) :=
  h.trans (T := S) ⟨rfl, rfl, rfl, by simp [World.setRow], fun k _ hk => setRow_other w g k cs (fun e => hk (e ▸ hg))⟩ (fun _ _ t => t)

theorem Keeps.below {S : Nat → Prop} {w w' : World} (h : Keeps S w w') (hS : ∀ n, n < w.heap.size → ¬ S n) : Below w.heap.size w w' :=
  ⟨h.os, h.tape, h.output, h.size, fun k hk => h.block k hk (hS k hk)⟩

theorem Keeps.of_below {S : Nat → Prop} {w w' : World} (h : Below w.heap.size w w') : Keeps S w w' :=
  ⟨h.os, h.tape, h.output, h.size, fun k hk _ => h.block k hk⟩

/-- A later 'Below' out of a 'Keeps' whose blocks are all from B on. -/
theorem Keeps.below_of {S : Nat → Prop} {B : Nat} {a w w' : World} (hb : Below B a w) (h : Keeps S w w') (hB : B ≤ w.heap.size) (hS : ∀ n, n < B → ¬ S n) : Below B a w' :=
  hb.trans ⟨h.os, h.tape, h.output, h.size, fun k hk => h.block k (by omega) (hS k hk)⟩

theorem cell_of {w : World} {b o : Nat} {c : Array Value} {t : TypeId} {f : Nat × Nat} (h : w.heap[b]? = some (.cells c t f)) : w.cell? ⟨b, o, none⟩ = c[o]? := by
  simp [World.cell?, h]

theorem free_of {w : World} {b o : Nat} {c : Array Value} {t : TypeId} (h : w.heap[b]? = some (.cells c t (0, 0))) : w.frozen? ⟨b, o, none⟩ = false := by
  simp [World.frozen?, h]

theorem lt_of {w : World} {b : Nat} {o : Obj} (h : w.heap[b]? = some o) : b < w.heap.size := (Array.getElem?_eq_some_iff.1 h).1

theorem set_same {w : World} {b o : Nat} {c : Array Value} {t : TypeId} {f : Nat × Nat} (v : Value) (h : w.heap[b]? = some (.cells c t f)) :
    (w.setCell ⟨b, o, none⟩ v).heap[b]? = some (.cells (c.setIfInBounds o v) t f) := by
  simp [World.setCell, Array.getElem?_modify, h]

theorem set_other {w : World} {b : Nat} {p : Addr} (v : Value) (h : b ≠ p.block) : (w.setCell p v).heap[b]? = w.heap[b]? := Below.heap_setCell w p v b h

theorem alloc_old {w : World} {b : Nat} {x : Obj} (o : Obj) (h : w.heap[b]? = some x) : (w.alloc o).heap[b]? = some x := by
  rw [Below.heap_alloc _ _ _ (lt_of h)]; exact h

theorem row_same {w : World} {b : Nat} {c : Array Value} {t : TypeId} {f : Nat × Nat} (cs : Array Value) (h : w.heap[b]? = some (.cells c t f)) :
    (w.setRow b cs).heap[b]? = some (.cells cs t f) := setRow_heap _ _ c _ t f h

theorem toArray_set (xs : List Value) (i : Nat) (v : Value) : xs.toArray.setIfInBounds i v = (xs.set i v).toArray := by simp

end Go.Proofs.YtbgolkdhcgjfkaaGreatDoor
