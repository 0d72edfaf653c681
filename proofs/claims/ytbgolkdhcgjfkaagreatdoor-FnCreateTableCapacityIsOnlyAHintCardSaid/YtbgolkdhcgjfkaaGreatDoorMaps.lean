/-
  Go's maps in the model as functions: a look-up, a store, at maps keyed by strings and at maps keyed by Lua values (strings and whole numbers).
-/
import Derived.Test.YtbgolkdhcgjfkaaGreatDoorProg
import Derived.Test.YtbgolkdhcgjfkaaGreatDoorBase
import Derived.Test.YtbgolkdhcgjfkaaGreatDoorFloat
import Derived.WalkLawsBesides
import Derived.WalkSpells
import Derived.Deep.QuietTactic
import Derived.BigQuiet
import Derived.Laws.CopyOwn
import Derived.Lib.Hide
import Derived.KernelRfl
import Derived.WalkSmall
import Derived.Maps.OwnOps
import Derived.Maps.OwnRows
import Derived.Deep.AppendLies
import Derived.Laws.OwnMore
import Derived.MapKept
namespace Go.Proofs.YtbgolkdhcgjfkaaGreatDoor
open Go.RowKit
set_option maxRecDepth 100000
set_option maxHeartbeats 400000

abbrev LNIL : Value := .iface 60 (.int .u8 0)
abbrev NUM (b : Nat) : Value := .iface 55 (.float .f64 b)
abbrev STR (s : ByteArray) : Value := .iface 65 (.string s)

theorem eq_str (a b : ByteArray) (w : World) : (Op.equal 43 (STR a) (STR b)).run Tryz.prog w = .ok (a == b) w := by kernel_rfl
theorem eq_num (a b : Nat) (w : World) : (Op.equal 43 (NUM a) (NUM b)).run Tryz.prog w = .ok (Op.floatEq .f64 a b) w := by kernel_rfl
theorem eq_sn (a : ByteArray) (b : Nat) (w : World) : (Op.equal 43 (STR a) (NUM b)).run Tryz.prog w = .ok false w := by kernel_rfl
theorem eq_ns (a : ByteArray) (b : Nat) (w : World) : (Op.equal 43 (NUM b) (STR a)).run Tryz.prog w = .ok false w := by kernel_rfl
theorem check_s (e : Bool) (a : ByteArray) (w : World) : (Instr.checkKey e 10000 9 (.string a)).run Tryz.prog w = .ok () w := by kernel_rfl
theorem check_str (e : Bool) (a : ByteArray) (w : World) : (Instr.checkKey e 10000 43 (STR a)).run Tryz.prog w = .ok () w := by kernel_rfl
theorem check_num (e : Bool) (a : Nat) (w : World) : (Instr.checkKey e 10000 43 (NUM a)).run Tryz.prog w = .ok () w := by kernel_rfl
theorem beq_dec (a b : ByteArray) : (a == b) = decide (a = b) := by
  cases a with
  | mk x =>
    cases b with
    | mk y =>
      show (x == y) = _
      by_cases h : x = y
      · subst h; simp
      · simp [h]
theorem beq_self (a : ByteArray) : (a == a) = true := by rw [beq_dec]; simp
theorem bits_s (a : ByteArray) : Instr.sameBits 10000 (.string a) (.string a) = true := by simp [Instr.sameBits, beq_self]
theorem bits_str (a : ByteArray) : Instr.sameBits 10000 (STR a) (STR a) = true := by simp [Instr.sameBits, beq_self]
theorem bits_num (a : Nat) : Instr.sameBits 10000 (NUM a) (NUM a) = true := by simp [Instr.sameBits]
theorem zero43 (w : World) : (zeroValue 43).run Tryz.prog w = .ok .nilIface w := by kernel_rfl
theorem zero3 (w : World) : (zeroValue 3).run Tryz.prog w = .ok (.int .i64 0) w := by kernel_rfl

open Classical in
/-- The first entry whose key is k. -/
noncomputable def seek (k : Value) : List MapEntry → Nat → Option (Nat × Value)
  | [], _ => none
  | e :: es, i => if e.key = k then some (i, e.val) else seek k es (i + 1)

/-- The keys of a map of strings; the keys of a table's hash: strings, and whole numbers. -/
def KeyS (v : Value) : Prop := ∃ s, v = .string s
def KeyI (v : Value) : Prop := (∃ s, v = STR s) ∨ ∃ z : Int, -9007199254740992 ≤ z ∧ z ≤ 9007199254740992 ∧ v = NUM (floatOfInt .f64 z)

open Classical in
theorem KeyI.eq {k x : Value} (hk : KeyI k) (hx : KeyI x) (w : World) : (Op.equal 43 k x).run Tryz.prog w = .ok (decide (x = k)) w := by
  rcases hk with ⟨s, rfl⟩ | ⟨z, h1, h2, rfl⟩ <;> rcases hx with ⟨t, rfl⟩ | ⟨y, h3, h4, rfl⟩
  · rw [eq_str, beq_dec]
    congr 1
    by_cases h : s = t
    · subst h; simp
    · simp [h]; exact fun e => h e.symm
  · rw [eq_sn]; simp
  · rw [eq_ns]; simp
  · rw [eq_num]
    congr 1
    unfold Op.floatEq
    rw [FPlain.order_ofInt z y h1 h2 h3 h4]
    by_cases h : z = y
    · subst h
      simp
    · have hne : floatOfInt .f64 y ≠ floatOfInt .f64 z := by
        intro e
        have h5 := FPlain.order_ofInt z y h1 h2 h3 h4
        rw [e, FPlain.ofInt_self] at h5
        have h6 : compare z y = .eq := (Option.some.inj h5).symm
        exact h (Int.compare_eq_eq.1 h6)
      have hc : compare z y ≠ .eq := fun e => h (Int.compare_eq_eq.1 e)
      simp [hne, hc]

theorem find_asking (k : Value) (hk : KeyI k) (w : World) : ∀ (es : List MapEntry) (i : Nat), (∀ e ∈ es, KeyI e.key) → (Instr.findAsking 43 k es i).run Tryz.prog w = .ok (seek k es i) w
  | [], i, _ => rfl
  | e :: es, i, h => by
    have h1 := KeyI.eq hk (h e (by simp)) w
    have h2 := find_asking k hk w es (i + 1) (fun x hx => h x (by simp [hx]))
    unfold Instr.findAsking seek
    simp only [Sem.run_bind, h1, Result.andThen_ok]
    by_cases hd : e.key = k
    · simp [hd, Sem.run_pure]
    · simp [hd, h2]

theorem find_i (k : Value) (hk : KeyI k) (w : World) (es : List MapEntry) (h : ∀ e ∈ es, KeyI e.key) : (Instr.findKey 43 k es).run Tryz.prog w = .ok (seek k es 0) w := by
  unfold Instr.findKey
  simp only [Sem.run_bind, run_underlying Tryz.underlying43, Result.andThen_ok]
  cases es with
  | nil => simp [Instr.findNow, seek, Sem.run_pure]
  | cons e es =>
    have hn : ∀ m, Instr.findNow (.interface m) k (e :: es) 0 = none := fun m => by
      unfold Instr.findNow Instr.sameNow
      rfl
    rw [hn]
    exact find_asking k hk w (e :: es) 0 h

theorem find_now (s : ByteArray) : ∀ (es : List MapEntry) (i : Nat), (∀ e ∈ es, KeyS e.key) → Instr.findNow .string (.string s) es i = some (seek (.string s) es i)
  | [], i, _ => rfl
  | e :: es, i, h => by
    obtain ⟨t, ht⟩ := h e (by simp)
    have h2 := find_now s es (i + 1) (fun x hx => h x (by simp [hx]))
    unfold Instr.findNow seek
    rw [ht]
    unfold Instr.sameNow
    simp only [beq_dec]
    by_cases hd : s = t
    · subst hd; simp
    · have hd' : t ≠ s := fun e => hd e.symm
      simp [hd, hd', h2]

theorem find_s (s : ByteArray) (w : World) (es : List MapEntry) (h : ∀ e ∈ es, KeyS e.key) : (Instr.findKey 9 (.string s) es).run Tryz.prog w = .ok (seek (.string s) es 0) w := by
  unfold Instr.findKey
  simp only [Sem.run_bind, run_underlying Tryz.underlying9, Result.andThen_ok, find_now s es 0 h]
  rfl

/-- What a key reads in a list of entries. -/
noncomputable def reads (es : List MapEntry) (k : Value) : Option Value := (seek k es 0).map (·.2)

theorem seek_shift (k : Value) : ∀ (es : List MapEntry) (i : Nat), seek k es i = (seek k es 0).map fun p => (p.1 + i, p.2)
  | [], i => rfl
  | e :: es, i => by
    unfold seek
    by_cases hd : e.key = k
    · simp [hd]
    · simp only [hd, if_false]
      rw [seek_shift k es (i + 1), seek_shift k es (0 + 1)]
      cases seek k es 0 with
      | none => rfl
      | some p => simp; omega

theorem reads_cons (e : MapEntry) (es : List MapEntry) (k : Value) [Decidable (e.key = k)] : reads (e :: es) k = if e.key = k then some e.val else reads es k := by
  unfold reads
  conv => lhs; unfold seek
  by_cases hd : e.key = k
  · simp [hd]
  · simp only [hd, if_false]
    rw [seek_shift]
    cases seek k es 0 <;> rfl

theorem seek_none {k : Value} : ∀ {es : List MapEntry} {i : Nat}, seek k es i = none → ∀ e ∈ es, e.key ≠ k
  | [], _, _ => fun e he => by cases he
  | e :: es, i, h => by
    unfold seek at h
    by_cases hd : e.key = k
    · simp [hd] at h
    · simp only [hd, if_false] at h
      intro x hx
      rcases List.mem_cons.1 hx with rfl | hx
      · exact hd
      · exact seek_none h x hx

theorem seek_some {k : Value} : ∀ {es : List MapEntry} {i j : Nat} {v : Value}, seek k es i = some (j, v) → ∃ q e, j = i + q ∧ es[q]? = some e ∧ e.key = k ∧ e.val = v
  | [], _, _, _, h => by cases h
  | e :: es, i, j, v, h => by
    unfold seek at h
    by_cases hd : e.key = k
    · simp only [hd, if_true, Option.some.injEq, Prod.mk.injEq] at h
      exact ⟨0, e, by omega, rfl, hd, h.2⟩
    · simp only [hd, if_false] at h
      obtain ⟨q, e', h1, h2, h3, h4⟩ := seek_some h
      exact ⟨q + 1, e', by omega, by simpa using h2, h3, h4⟩

open Classical in
/-- A new entry at the end. -/
theorem reads_push (es : List MapEntry) (k v : Value) (c : Nat) (h : seek k es 0 = none) (x : Value) : reads (es ++ [{ key := k, val := v, born := c }]) x = if x = k then some v else reads es x := by
  induction es with
  | nil =>
    rw [List.nil_append, reads_cons]
    by_cases hd : k = x
    · subst hd; simp
    · have hd' : x ≠ k := fun e => hd e.symm
      simp [hd, hd']
  | cons e es ih =>
    have hk : e.key ≠ k := seek_none h e (by simp)
    have hn : seek k es 0 = none := by
      unfold seek at h
      simp only [hk, if_false] at h
      rw [seek_shift] at h
      simpa using h
    rw [List.cons_append, reads_cons, reads_cons, ih hn]
    by_cases hd : e.key = x
    · subst hd; simp [hk]
    · simp [hd]

open Classical in
/-- The value of the entry of k replaced. -/
theorem reads_modify (k v : Value) (x : Value) : ∀ (es : List MapEntry) (i j : Nat) (u : Value) (q : Nat), seek k es i = some (j, u) → j = i + q → reads (es.modify q fun e => { e with key := k, val := v }) x = if x = k then some v else reads es x
  | [], _, _, _, _, h, _ => by cases h
  | e :: es, i, j, u, q, h, hj => by
    unfold seek at h
    by_cases hd : e.key = k
    · simp only [hd, if_true, Option.some.injEq, Prod.mk.injEq] at h
      obtain rfl : q = 0 := by omega
      simp only [List.modify_zero_cons]
      rw [reads_cons, reads_cons]
      by_cases hx : k = x
      · subst hx; simp
      · have hx' : x ≠ k := fun e => hx e.symm
        simp [hx, hx', hd]
    · simp only [hd, if_false] at h
      obtain ⟨q', e', h1, h2, h3, h4⟩ := seek_some h
      obtain rfl : q = q' + 1 := by omega
      simp only [List.modify_succ_cons]
      rw [reads_cons, reads_cons, reads_modify k v x es (i + 1) j u q' h (by omega)]
      by_cases hx : e.key = x
      · subst hx; simp [hd]
      · simp [hx]

/-- A map's block, its keys all of kp, what it reads: c. -/
def MapC (w : World) (b : Nat) (kp : Value → Prop) (c : Value → Option Value) : Prop :=
  ∃ es clock, w.heap[b]? = some (.map es clock) ∧ (∀ e ∈ es.toList, kp e.key) ∧ reads es.toList = c

open Classical in
noncomputable def put (c : Value → Option Value) (k v : Value) : Value → Option Value := fun x => if x = k then some v else c x

theorem MapC.keep {S : Nat → Prop} {w w' : World} {b : Nat} {kp : Value → Prop} {c : Value → Option Value} (h : MapC w b kp c) (hk : Keeps S w w') (hS : ¬ S b) : MapC w' b kp c := by
  obtain ⟨es, clock, h1, h2⟩ := h
  exact ⟨es, clock, (hk.block b (lt_of h1) hS).trans h1, h2⟩

theorem MapC.lt {w : World} {b : Nat} {kp : Value → Prop} {c : Value → Option Value} (h : MapC w b kp c) : b < w.heap.size := by
  obtain ⟨es, clock, h1, h2⟩ := h
  exact lt_of h1

theorem MapC.made (w : World) (kp : Value → Prop) : MapC (w.alloc (.map #[] 0)) w.heap.size kp (fun _ => none) :=
  ⟨#[], 0, heap_alloc_new w _, fun e he => by simp at he, by funext k; rfl⟩

theorem keeps_set {w : World} {b : Nat} (o : Obj) : Keeps (fun k => k = b) w { w with heap := w.heap.setIfInBounds b o } :=
  ⟨rfl, rfl, rfl, by simp, fun k hk hs => by
    have : b ≠ k := fun e => hs e.symm
    simp [this]⟩

/-- The law of a look-up. -/
theorem look_any {w : World} {b : Nat} {kp : Value → Prop} {c : Value → Option Value} (t kt et : TypeId) (z : Value) (h : MapC w b kp c) (k : Value)
    (ht : Tryz.prog.underlying t = some (.map kt et)) (hz : (zeroValue et).run Tryz.prog w = .ok z w) (hc : ∀ e, (Instr.checkKey e 10000 kt k).run Tryz.prog w = .ok () w)
    (hf : ∀ es : List MapEntry, (∀ e ∈ es, kp e.key) → (Instr.findKey kt k es).run Tryz.prog w = .ok (seek k es 0) w) :
    (Instr.lookup t (.map (some b)) k true).run Tryz.prog w = .ok (.tuple #[(c k).getD z, .bool (c k).isSome]) w := by
  obtain ⟨es, clock, h1, h2, rfl⟩ := h
  have hf' := hf es.toList h2
  unfold reads
  cases hs : seek k es.toList 0 with
  | none => simp [Instr.lookup, run_underlying ht, MapKept.run_getObj_map h1, hc, hf', hs, hz, Result.andThen]
  | some p => simp [Instr.lookup, run_underlying ht, MapKept.run_getObj_map h1, hc, hf', hs, Result.andThen]

/-- The law of a store. -/
theorem upd_any {w : World} {b : Nat} {kp : Value → Prop} {c : Value → Option Value} (t kt et : TypeId) (h : MapC w b kp c) (k v : Value) (hk : kp k)
    (ht : Tryz.prog.underlying t = some (.map kt et)) (hc : ∀ e, (Instr.checkKey e 10000 kt k).run Tryz.prog w = .ok () w)
    (hf : ∀ es : List MapEntry, (∀ e ∈ es, kp e.key) → (Instr.findKey kt k es).run Tryz.prog w = .ok (seek k es 0) w) (hb : Instr.sameBits 10000 k k = true) :
    ∃ w', (Instr.mapUpdate t (.map (some b)) k v).run Tryz.prog w = .ok () w' ∧ MapC w' b kp (put c k v) ∧ Keeps (fun j => j = b) w w' ∧ w'.heap.size = w.heap.size := by
  obtain ⟨es, clock, h1, h2, rfl⟩ := h
  have hf' := hf es.toList h2
  cases hs : seek k es.toList 0 with
  | none =>
    refine ⟨{ w with heap := w.heap.setIfInBounds b (.map (es.push { key := k, val := v, born := clock }) (clock + 1)) }, ?_, ⟨es.push { key := k, val := v, born := clock }, clock + 1, by simp [lt_of h1], ?_, ?_⟩, keeps_set _, by simp⟩
    · simp [Instr.mapUpdate, run_underlying ht, MapKept.run_getObj_map h1, hc, hf', hs, MapKept.run_setObj_map _ h1, Result.andThen]
    · intro e he
      rw [Array.toList_push] at he
      rcases List.mem_append.1 he with he | he
      · exact h2 e he
      · simp at he; subst he; exact hk
    · funext x
      rw [Array.toList_push, reads_push es.toList k v clock hs x]
      rfl
  | some p =>
    obtain ⟨q, e, hq, he, hek, hev⟩ := seek_some hs
    have hqq : es[q]? = some e := by rw [← Array.getElem?_toList]; exact he
    have hp1 : p.1 = q := by omega
    refine ⟨{ w with heap := w.heap.setIfInBounds b (.map (es.modify q fun e => { e with key := k, val := v }) clock) }, ?_, ⟨es.modify q fun e => { e with key := k, val := v }, clock, by simp [lt_of h1], ?_, ?_⟩, keeps_set _, by simp⟩
    · have hq0 : q < es.size := (Array.getElem?_eq_some_iff.1 hqq).1
      simp [Instr.mapUpdate, run_underlying ht, MapKept.run_getObj_map h1, hc, hf', hs, MapKept.run_setObj_map _ h1, Result.andThen, hp1, hqq, hek, Instr.keyThatStays, hb]
    · intro x hx
      rw [Array.toList_modify] at hx
      obtain ⟨j, hj, rfl⟩ := List.mem_iff_getElem.1 hx
      rw [List.getElem_modify]
      split
      · exact hk
      · exact h2 _ (List.getElem_mem _)
    · funext x
      rw [Array.toList_modify, reads_modify k v x es.toList 0 p.1 p.2 q hs (by omega)]
      rfl

theorem KeyI.check {k : Value} (hk : KeyI k) (w : World) (e : Bool) : (Instr.checkKey e 10000 43 k).run Tryz.prog w = .ok () w := by
  rcases hk with ⟨s, rfl⟩ | ⟨z, _, _, rfl⟩
  · exact check_str e s w
  · exact check_num e _ w
theorem KeyI.bits {k : Value} (hk : KeyI k) : Instr.sameBits 10000 k k = true := by
  rcases hk with ⟨s, rfl⟩ | ⟨z, _, _, rfl⟩
  · exact bits_str s
  · exact bits_num _

theorem look46 {w : World} {b : Nat} {c : Value → Option Value} (h : MapC w b KeyS c) (s : ByteArray) :
    (Instr.lookup 46 (.map (some b)) (.string s) true).run Tryz.prog w = .ok (.tuple #[(c (.string s)).getD .nilIface, .bool (c (.string s)).isSome]) w :=
  look_any 46 9 43 .nilIface h _ Tryz.underlying46 (zero43 w) (fun e => check_s e s w) (fun es he => find_s s w es he)
theorem look45 {w : World} {b : Nat} {c : Value → Option Value} (h : MapC w b KeyI c) (k : Value) (hk : KeyI k) :
    (Instr.lookup 45 (.map (some b)) k true).run Tryz.prog w = .ok (.tuple #[(c k).getD .nilIface, .bool (c k).isSome]) w :=
  look_any 45 43 43 .nilIface h _ Tryz.underlying45 (zero43 w) (fun e => hk.check w e) (fun es he => find_i k hk w es he)
theorem look47 {w : World} {b : Nat} {c : Value → Option Value} (h : MapC w b KeyI c) (k : Value) (hk : KeyI k) :
    (Instr.lookup 47 (.map (some b)) k true).run Tryz.prog w = .ok (.tuple #[(c k).getD (.int .i64 0), .bool (c k).isSome]) w :=
  look_any 47 43 3 (.int .i64 0) h _ Tryz.underlying47 (zero3 w) (fun e => hk.check w e) (fun es he => find_i k hk w es he)
theorem upd46 {w : World} {b : Nat} {c : Value → Option Value} (h : MapC w b KeyS c) (s : ByteArray) (v : Value) :
    ∃ w', (Instr.mapUpdate 46 (.map (some b)) (.string s) v).run Tryz.prog w = .ok () w' ∧ MapC w' b KeyS (put c (.string s) v) ∧ Keeps (fun j => j = b) w w' ∧ w'.heap.size = w.heap.size :=
  upd_any 46 9 43 h _ v ⟨s, rfl⟩ Tryz.underlying46 (fun e => check_s e s w) (fun es he => find_s s w es he) (bits_s s)
theorem upd45 {w : World} {b : Nat} {c : Value → Option Value} (h : MapC w b KeyI c) (k : Value) (hk : KeyI k) (v : Value) :
    ∃ w', (Instr.mapUpdate 45 (.map (some b)) k v).run Tryz.prog w = .ok () w' ∧ MapC w' b KeyI (put c k v) ∧ Keeps (fun j => j = b) w w' ∧ w'.heap.size = w.heap.size :=
  upd_any 45 43 43 h _ v hk Tryz.underlying45 (fun e => hk.check w e) (fun es he => find_i k hk w es he) hk.bits
theorem upd47 {w : World} {b : Nat} {c : Value → Option Value} (h : MapC w b KeyI c) (k : Value) (hk : KeyI k) (v : Value) :
    ∃ w', (Instr.mapUpdate 47 (.map (some b)) k v).run Tryz.prog w = .ok () w' ∧ MapC w' b KeyI (put c k v) ∧ Keeps (fun j => j = b) w w' ∧ w'.heap.size = w.heap.size :=
  upd_any 47 43 3 h _ v hk Tryz.underlying47 (fun e => hk.check w e) (fun es he => find_i k hk w es he) hk.bits

section
variable {P : Program} {w : World} {ops : Array Oper} {rest : List Oper} {o : Oper} {a : Act} {Q : Exit → Act → World → Prop}
/-- A look-up at the operation. -/
theorem wpList_look (hg : o.guard = none) (m x : Operand) (t : TypeId) (ok : Bool) (hop : o.op = Op.lookup t m x ok) (mv kv v : Value) (hm : a.eval m = mv) (hx : a.eval x = kv)
    (hrun : (Instr.lookup t mv kv ok).run P w = .ok v w) (hK : wpList P ops Q rest (a.put o.dst v) w) : wpList P ops Q (o :: rest) a w := by
  refine wpList_plain hg fun K' hK' => ?_
  unfold Oper.wp
  simp [execOp, hop, hm, hx, hrun, Result.andThen]
  exact hK' _ _ hK
/-- A store at the operation. -/
theorem wpList_upd (hg : o.guard = none) (m x v : Operand) (t : TypeId) (hop : o.op = Op.mapUpdate t m x v) (mv kv vv : Value) (hm : a.eval m = mv) (hx : a.eval x = kv) (hv : a.eval v = vv)
    (R : World → Prop) (hrun : ∃ w', (Instr.mapUpdate t mv kv vv).run P w = .ok () w' ∧ R w') (hK : ∀ w', R w' → wpList P ops Q rest (a.put o.dst undef) w') : wpList P ops Q (o :: rest) a w := by
  refine wpList_plain hg fun K' hK' => ?_
  obtain ⟨w', hr, hR⟩ := hrun
  unfold Oper.wp
  simp [execOp, hop, hm, hx, hv, hr, Result.andThen]
  exact hK' _ _ (hK w' hR)
end
end Go.Proofs.YtbgolkdhcgjfkaaGreatDoor
