/-
  zzInSet, zzTrimLeft, zzTrimRight, zzTrim at the set of blanks: what they return, for every string.
-/
import Derived.Test.YtjaibjdhfljmmaaDoorProg
import Derived.WalkKit
import Derived.WalkLawsBesides
import Derived.WalkSpells
import Derived.Deep.QuietTactic
import Derived.BigQuiet
import Derived.Lib.Hide
import Derived.Lib.Strings
import Derived.KernelRfl
import Derived.WalkSmall
import Derived.Laws.RangeString
import Derived.Laws.RangeAny
namespace Go.Proofs.YtjaibjdhfljmmaaDoor
open Go.RowKit
set_option maxRecDepth 100000
set_option maxHeartbeats 400000

abbrev WS : ByteArray := ⟨#[32, 9, 10]⟩

def ws (c : UInt8) : Bool := c == 32 || c == 9 || c == 10

/-- One step of a range over a string, in whatever world holds the iterator. -/
theorem next_at {P : Program} (W : World) (b : Nat) (s : ByteArray) (pos : Nat) (ty : TypeId) (hW : W.heap[b]? = some (.stringIter s pos)) (h : pos < s.size) :
    (Instr.next (.pointer (some ⟨b, 0, none⟩)) true ty).run P W =
      .ok (.tuple #[.bool true, .int .i64 pos, .int .i32 (Utf8.decode s pos).1]) { W with heap := W.heap.setIfInBounds b (.stringIter s (pos + (Utf8.decode s pos).2)) } := by
  have hd := decode_le s pos
  simp only [Instr.next, getObj, setObj, Sem.run_bind, Sem.run, hW, Result.andThen, h, if_true]
  simp [goInt]

theorem next_end {P : Program} (W : World) (b : Nat) (s : ByteArray) (pos : Nat) (ty : TypeId) (hW : W.heap[b]? = some (.stringIter s pos)) (h : ¬ pos < s.size) :
    (Instr.next (.pointer (some ⟨b, 0, none⟩)) true ty).run P W = .ok (.tuple #[.bool false]) W := by
  simp [Instr.next, getObj, Sem.run, hW, h]

theorem below_iter {B : Nat} {a W : World} (h : Below B a W) (b : Nat) (hb : B ≤ b) (o : Obj) : Below B a { W with heap := W.heap.setIfInBounds b o } :=
  ⟨h.os, h.tape, h.output, by simpa using h.size, fun k hk => by
    show (W.heap.setIfInBounds b o)[k]? = _
    rw [Array.getElem?_setIfInBounds_ne (by omega)]
    exact h.block k hk⟩

theorem iter_at (W : World) (b : Nat) (o : Obj) (x : Obj) (hW : W.heap[b]? = some x) : ({ W with heap := W.heap.setIfInBounds b o } : World).heap[b]? = some o := by
  have := (Array.getElem?_eq_some_iff.1 hW).1
  simp [this]

/-- zzInSet at the blanks. -/
theorem inset (c : Int) (r : Bool) (hr : r = decide (c = 32 ∨ c = 9 ∨ c = 10)) (w : World) :
    Calls Tryd.prog 32 #[.int .i32 c, .string WS] w fun e w' => e = .returned (.bool r) ∧ Below w.heap.size w w' := by
  have hr' := Lib.hid hr
  clear hr
  go_enter Tryd.func32, Tryd.ntmps32
  go_wp2
  go_loopw [6] (fun _ wr => ∃ pos : Nat, pos ≤ 3 ∧ Hid (wr = w.iter WS pos) ∧ Hid ((0 < pos → c ≠ 32) ∧ (1 < pos → c ≠ 9) ∧ (2 < pos → c ≠ 10))) (fun _ wr => 3 - wr.iterPos w.heap.size)
  case atStart => exact ⟨0, by omega, Lib.hid rfl, Lib.hid ⟨fun h => by omega, fun h => by omega, fun h => by omega⟩⟩
  case round =>
    obtain ⟨pos, hp, hw, hno⟩ := hrel
    have hw' := hw.out
    subst hw'
    have hb : ∀ q, Hid (Below w.heap.size w (w.iter WS q)) := fun q => Lib.hid ((Below.refl _ w).alloc (Nat.le_refl _) _)
    clear hw
    rcases (by omega : pos = 0 ∨ pos = 1 ∨ pos = 2 ∨ pos = 3) with rfl | rfl | rfl | rfl
    · have hnx : ∀ ty, (Instr.next (.pointer (some ⟨w.heap.size, 0, none⟩)) true ty).run Tryd.prog (w.iter WS 0) = .ok (.tuple #[.bool true, .int .i64 0, .int .i32 32]) (w.iter WS 1) := fun ty => run_next_ascii w WS 0 ty (by decide) (by decide)
      by_cases hc : c = 32
      · go_wp2
        go_ret
        exact ⟨by rw [hr'.out]; simp [hc], (hb 1).out⟩
      · go_wp2
        go_roundw
        case rel => exact ⟨1, by omega, Lib.hid rfl, Lib.hid ⟨fun _ => hc, fun h => by omega, fun h => by omega⟩⟩
        case measure => simp
    · have hnx : ∀ ty, (Instr.next (.pointer (some ⟨w.heap.size, 0, none⟩)) true ty).run Tryd.prog (w.iter WS 1) = .ok (.tuple #[.bool true, .int .i64 1, .int .i32 9]) (w.iter WS 2) := fun ty => run_next_ascii w WS 1 ty (by decide) (by decide)
      by_cases hc : c = 9
      · go_wp2
        go_ret
        exact ⟨by rw [hr'.out]; simp [hc], (hb 2).out⟩
      · go_wp2
        go_roundw
        case rel => exact ⟨2, by omega, Lib.hid rfl, Lib.hid ⟨fun _ => hno.out.1 (by omega), fun _ => hc, fun h => by omega⟩⟩
        case measure => simp
    · have hnx : ∀ ty, (Instr.next (.pointer (some ⟨w.heap.size, 0, none⟩)) true ty).run Tryd.prog (w.iter WS 2) = .ok (.tuple #[.bool true, .int .i64 2, .int .i32 10]) (w.iter WS 3) := fun ty => run_next_ascii w WS 2 ty (by decide) (by decide)
      by_cases hc : c = 10
      · go_wp2
        go_ret
        exact ⟨by rw [hr'.out]; simp [hc], (hb 3).out⟩
      · go_wp2
        go_roundw
        case rel => exact ⟨3, by omega, Lib.hid rfl, Lib.hid ⟨fun _ => hno.out.1 (by omega), fun _ => hno.out.2.1 (by omega), fun _ => hc⟩⟩
        case measure => simp
    · have hnx : ∀ ty, (Instr.next (.pointer (some ⟨w.heap.size, 0, none⟩)) true ty).run Tryd.prog (w.iter WS 3) = .ok (.tuple #[.bool false]) (w.iter WS 3) := fun ty => run_next_end w WS 3 ty (by decide)
      go_wp2
      go_ret
      have h := hno.out
      exact ⟨by rw [hr'.out]; simp [h.1 (by omega), h.2.1 (by omega), h.2.2 (by omega)], (hb 3).out⟩

/-- zzTrimLeft: the blanks at the head taken off. -/
def CutL (l t : List UInt8) : Prop := ∃ a, l = a ++ t ∧ (∀ x ∈ a, ws x = true) ∧ ∀ x, t.head? = some x → ws x = false

theorem ws_nat (c : UInt8) : ws c = decide (((c.toNat : Int) = 32) ∨ ((c.toNat : Int) = 9) ∨ ((c.toNat : Int) = 10)) := by
  unfold ws
  rw [Bool.eq_iff_iff]
  simp [← UInt8.toNat_inj]
  omega

theorem trim_left (s : ByteArray) (w : World) (hs : s.size ≤ 1073741824) :
    Calls Tryd.prog 27 #[.string s, .string WS] w fun e w' => (∃ t : ByteArray, e = .returned (.string t) ∧ CutL s.data.toList t.data.toList) ∧ Below w.heap.size w w' := by
  go_enter Tryd.func27, Tryd.ntmps27
  go_wp2
  go_loopw [5, 6] (fun _ _ wr => ∃ pos : Nat, pos ≤ s.size ∧ Hid (wr.heap[w.heap.size]? = some (.stringIter s pos) ∧ Below w.heap.size w wr) ∧ Hid (∀ x ∈ s.data.toList.take pos, ws x = true)) (fun _ _ wr => s.size - wr.iterPos w.heap.size)
  case atStart => exact ⟨0, by omega, Lib.hid ⟨World.iter_heap _ _ _, (Below.refl _ w).alloc (Nat.le_refl _) _⟩, Lib.hid (by simp)⟩
  case round =>
    obtain ⟨pos, hp, hw, hall⟩ := hrel
    by_cases hlt : pos < s.size
    · have hd := next_at (P := Tryd.prog) wr w.heap.size s pos
      have hsl : ∀ W, (Instr.slice 9 (.string s) (some (.int .i64 pos)) none none).run Tryd.prog W = .ok (.string (s.extract pos s.size)) W := fun W => by
        rw [run_slice_string_from_if W 9 s .i64 _ Tryd.underlying9, if_pos ⟨by omega, by omega⟩]
        rfl
      have hex : Hid ((s.extract pos s.size).data.toList = s.data.toList.drop pos) := Lib.hid (by
        rw [Lib.extract_data, List.take_of_length_le (by simp)])
      have hsp : Hid (s.data.toList = s.data.toList.take pos ++ s.data.toList.drop pos) := Lib.hid (List.take_append_drop _ _).symm
      have hdr : s.data.toList.drop pos = s[pos] :: s.data.toList.drop (pos + 1) := by
        rw [List.drop_eq_getElem_cons (by simpa using hlt)]; rfl
      have hiw := iterPos_of hw.out.1
      by_cases ha : (s[pos]).toNat < 128
      · rw [decode_ascii s pos hlt ha] at hd
        obtain ⟨W1, hW1⟩ : ∃ W1, W1 = ({ wr with heap := wr.heap.setIfInBounds w.heap.size (.stringIter s (pos + 1)) } : World) := ⟨_, rfl⟩
        have h1 : W1.heap[w.heap.size]? = some (.stringIter s (pos + 1)) := by rw [hW1]; exact iter_at _ _ _ _ hw.out.1
        have h2 : Below w.heap.size w W1 := by rw [hW1]; exact below_iter hw.out.2 _ (Nat.le_refl _) _
        have hnx : ∀ ty, (Instr.next (.pointer (some ⟨w.heap.size, 0, none⟩)) true ty).run Tryd.prog wr = .ok (.tuple #[.bool true, .int .i64 pos, .int .i32 (s[pos]).toNat]) W1 := fun ty => by rw [hW1]; exact hd ty hw.out.1 hlt
        have h3 := (Array.getElem?_eq_some_iff.1 h1).1
        have hk := Lib.hid (fun (W2 : World) (hb : Below W1.heap.size W1 W2) => (⟨(hb.block _ h3).trans h1, h2.trans (hb.mono (by omega))⟩ : W2.heap[w.heap.size]? = some (.stringIter s (pos + 1)) ∧ Below w.heap.size w W2))
        have hwn := ws_nat s[pos]
        have hdr' := Lib.hid hdr
        have hiw' := Lib.hid hiw
        clear hd hW1 h1 h2 h3 hdr hiw
        generalize s[pos] = c at *
        by_cases hc : ws c = true
        · have HI := Lib.hid (inset c.toNat true (by rw [← hwn, hc]) W1)
          have hts : Hid (∀ x ∈ s.data.toList.take (pos + 1), ws x = true) := Lib.hid (by
            intro x hx
            rw [List.take_add_one, List.mem_append] at hx
            rcases hx with hx | hx
            · exact hall.out x hx
            · have hg : s.data.toList[pos]? = some c := by
                have := congrArg (fun l => l[0]?) hdr'.out
                simpa using this
              rw [hg] at hx
              simp at hx
              rw [hx]; exact hc)
          clear hwn hc
          go_wp2_with fail
          refine HI.out.mono ?_
          rintro e w2 ⟨rfl, hb2⟩
          have hk2 := Lib.hid (hk.out w2 hb2)
          have hi2 := Lib.hid (iterPos_of hk2.out.1)
          clear hb2
          go_wp2_with fail
          go_roundw
          case rel => exact ⟨pos + 1, by omega, hk2, hts⟩
          case measure => rw [hi2.out, hiw'.out]; omega
        · have hcf : ws c = false := by simpa using hc
          have HI := Lib.hid (inset c.toNat false (by rw [← hwn, hcf]) W1)
          have hcut : Hid (CutL s.data.toList (s.extract pos s.size).data.toList) := Lib.hid ⟨_, by rw [hex.out]; exact hsp.out, hall.out, fun x hx => by
            rw [hex.out, hdr'.out] at hx
            cases hx
            exact hcf⟩
          clear hwn hc hcf
          go_wp2_with fail
          refine HI.out.mono ?_
          rintro e w2 ⟨rfl, hb2⟩
          have hk2 := Lib.hid (hk.out w2 hb2)
          clear hb2
          go_wp2_with fail
          go_ret
          exact ⟨⟨_, rfl, hcut.out⟩, hk2.out.2⟩
      · obtain ⟨hh1, hh2⟩ := decode_high s pos hlt (by omega)
        obtain ⟨W1, hW1⟩ : ∃ W1, W1 = ({ wr with heap := wr.heap.setIfInBounds w.heap.size (.stringIter s (pos + (Utf8.decode s pos).2)) } : World) := ⟨_, rfl⟩
        have h2 : Below w.heap.size w W1 := by rw [hW1]; exact below_iter hw.out.2 _ (Nat.le_refl _) _
        generalize (Utf8.decode s pos).1 = c at *
        have hnx : ∀ ty, (Instr.next (.pointer (some ⟨w.heap.size, 0, none⟩)) true ty).run Tryd.prog wr = .ok (.tuple #[.bool true, .int .i64 pos, .int .i32 c]) W1 := fun ty => by rw [hW1]; exact hd ty hw.out.1 hlt
        have hws : Hid (ws s[pos] = false) := Lib.hid (by rw [ws_nat]; simp; omega)
        have HI := Lib.hid (inset c false (by simp; omega) W1)
        have hcut : Hid (CutL s.data.toList (s.extract pos s.size).data.toList) := Lib.hid ⟨_, by rw [hex.out]; exact hsp.out, hall.out, fun x hx => by
          rw [hex.out, hdr] at hx
          cases hx
          exact hws.out⟩
        have h2' := Lib.hid (fun (W2 : World) (hb : Below W1.heap.size W1 W2) => h2.trans (hb.mono h2.size))
        clear hd hW1 h2 hdr hiw ha hh1 hh2
        go_wp2_with fail
        refine HI.out.mono ?_
        rintro e w2 ⟨rfl, hb2⟩
        have hk2 := Lib.hid (h2'.out w2 hb2)
        clear hb2
        go_wp2_with fail
        go_ret
        exact ⟨⟨_, rfl, hcut.out⟩, hk2.out⟩
    · have hnx : ∀ ty, (Instr.next (.pointer (some ⟨w.heap.size, 0, none⟩)) true ty).run Tryd.prog wr = .ok (.tuple #[.bool false]) wr := fun ty => next_end wr _ s pos ty hw.out.1 hlt
      go_wp2_with fail
      go_ret
      exact ⟨⟨⟨#[]⟩, rfl, s.data.toList, by simp, fun x hx => hall.out x (by rw [List.take_of_length_le (by simp; omega)]; exact hx), fun x hx => by cases hx⟩, hw.out.2⟩

/-- zzTrimRight: the blanks at the end taken off. -/
def CutR (l t : List UInt8) : Prop := ∃ b, l = t ++ b ∧ (∀ x ∈ b, ws x = true) ∧ ∀ x, t.getLast? = some x → ws x = false

def seen (c : UInt8) : Nat → Bool
  | 0 => false
  | 1 => c == 32
  | 2 => c == 32 || c == 9
  | _ => ws c

theorem below_drewN {B : Nat} {a w : World} (h : Below B a w) (n : Nat) : Below B a (w.drewN n) := ⟨h.os, h.tape, h.output, h.size, h.block⟩

theorem last_take {α : Type} (l : List α) (k : Nat) (h : k < l.length) : (l.take (k + 1)).getLast? = some l[k] := by
  rw [List.getLast?_eq_getElem?, List.length_take, show min (k + 1) l.length - 1 = k by omega, List.getElem?_take, if_pos (by omega), List.getElem?_eq_getElem h]

theorem seen_no0 (c : UInt8) (h : ¬ c = 32) : seen c 0 = seen c 1 := by simp [seen, h]
theorem seen_no1 (c : UInt8) (h : ¬ c = 9) : seen c 1 = seen c 2 := by simp [seen, h]
theorem seen_no2 (c : UInt8) (h : ¬ c = 10) : seen c 2 = seen c 3 := by simp [seen, ws, h]

theorem trim_right (s : ByteArray) (w : World) (hs : s.size ≤ 1073741824) :
    Calls Tryd.prog 26 #[.string s, .string WS] w fun e w' => (∃ t : ByteArray, e = .returned (.string t) ∧ CutR s.data.toList t.data.toList) ∧ Below w.heap.size w w' := by
  go_enter Tryd.func26, Tryd.ntmps26
  go_wp2
  go_loopw [5, 6, 7] (fun n _ _ wr => ∃ m : Nat, m ≤ s.size ∧ n = .int .i64 m ∧ Hid (Below w.heap.size w wr) ∧ Hid (∀ x ∈ s.data.toList.drop m, ws x = true)) (fun n _ _ _ => (intOf n).toNat)
  case atStart => exact ⟨s.size, by omega, rfl, Lib.hid (Below.refl _ _), Lib.hid (by rw [List.drop_eq_nil_of_le (by rw [Lib.size_eq]; exact Nat.le_refl _)]; simp)⟩
  case round =>
    obtain ⟨m, hm, rfl, hb, hall⟩ := hrel
    by_cases h0 : 0 < m
    · obtain ⟨k, rfl⟩ : ∃ k, m = k + 1 := ⟨m - 1, by omega⟩
      have hlt : k < s.size := by omega
      go_wp2_with fail
      go_loopw [6, 7] (fun b i wr => ∃ j : Nat, j ≤ 3 ∧ i = .int .i64 j ∧ b = .bool (seen s[k] j) ∧ Hid (Below w.heap.size w wr)) (fun _ i _ => 3 - (intOf i).toNat)
      case atStart => exact ⟨0, by omega, rfl, rfl, hb⟩
      case round =>
        obtain ⟨j, hj, rfl, rfl, hb2⟩ := hrel
        obtain ⟨c, hc⟩ : ∃ c, s[k] = c := ⟨_, rfl⟩
        rcases (by omega : j = 0 ∨ j = 1 ∨ j = 2 ∨ j = 3) with rfl | rfl | rfl | rfl
        · by_cases hq : c = 32
          · have hn : (((WS[0]'(by decide)).toNat : Int) == (c.toNat : Int)) = true := by rw [hq]; rfl
            have hq' := Lib.hid hq
            clear hq
            go_wp2_with fail
            go_quiet (fail)
            go_wp2_with fail
            go_roundw
            case rel => exact ⟨1, by omega, rfl, by rw [hc, hq'.out]; rfl, Lib.hid (below_drewN hb2.out _)⟩
            case measure => simp [intOf]
          · have hn : (((WS[0]'(by decide)).toNat : Int) == (c.toNat : Int)) = false := by
              rw [beq_eq_false_iff_ne]
              intro e
              have e : (32 : Int) = (c.toNat : Int) := e
              exact hq (by rw [← UInt8.toNat_inj]; exact (by omega : c.toNat = 32))
            go_wp2_with fail
            go_quiet (fail)
            go_wp2_with fail
            go_roundw
            case rel => exact ⟨1, by omega, rfl, by rw [hc, seen_no0 c hq], Lib.hid (below_drewN hb2.out _)⟩
            case measure => simp [intOf]
        · by_cases hq : c = 9
          · have hn : (((WS[1]'(by decide)).toNat : Int) == (c.toNat : Int)) = true := by rw [hq]; rfl
            have hq' := Lib.hid hq
            clear hq
            go_wp2_with fail
            go_quiet (fail)
            go_wp2_with fail
            go_roundw
            case rel => exact ⟨2, by omega, rfl, by rw [hc, hq'.out]; rfl, Lib.hid (below_drewN hb2.out _)⟩
            case measure => simp [intOf]
          · have hn : (((WS[1]'(by decide)).toNat : Int) == (c.toNat : Int)) = false := by
              rw [beq_eq_false_iff_ne]
              intro e
              have e : (9 : Int) = (c.toNat : Int) := e
              exact hq (by rw [← UInt8.toNat_inj]; exact (by omega : c.toNat = 9))
            go_wp2_with fail
            go_quiet (fail)
            go_wp2_with fail
            go_roundw
            case rel => exact ⟨2, by omega, rfl, by rw [hc, seen_no1 c hq], Lib.hid (below_drewN hb2.out _)⟩
            case measure => simp [intOf]
        · by_cases hq : c = 10
          · have hn : (((WS[2]'(by decide)).toNat : Int) == (c.toNat : Int)) = true := by rw [hq]; rfl
            have hq' := Lib.hid hq
            clear hq
            go_wp2_with fail
            go_quiet (fail)
            go_wp2_with fail
            go_roundw
            case rel => exact ⟨3, by omega, rfl, by rw [hc, hq'.out]; rfl, Lib.hid (below_drewN hb2.out _)⟩
            case measure => simp [intOf]
          · have hn : (((WS[2]'(by decide)).toNat : Int) == (c.toNat : Int)) = false := by
              rw [beq_eq_false_iff_ne]
              intro e
              have e : (10 : Int) = (c.toNat : Int) := e
              exact hq (by rw [← UInt8.toNat_inj]; exact (by omega : c.toNat = 10))
            go_wp2_with fail
            go_quiet (fail)
            go_wp2_with fail
            go_roundw
            case rel => exact ⟨3, by omega, rfl, by rw [hc, seen_no2 c hq], Lib.hid (below_drewN hb2.out _)⟩
            case measure => simp [intOf]
        · by_cases hq : ws c = true
          · have hs3 : seen s[k] 3 = true := by rw [hc]; exact hq
            have hall' : Hid (∀ x ∈ s.data.toList.drop k, ws x = true) := Lib.hid (by
              intro x hx
              rw [List.drop_eq_getElem_cons (by rw [Lib.size_eq] at hlt; exact hlt)] at hx
              rcases List.mem_cons.1 hx with rfl | hx
              · have : s.data.toList[k] = c := hc
                rw [this]; exact hq
              · exact hall.out x hx)
            clear hq hc
            go_wp2_with fail
            go_roundw
            case rel => exact ⟨k, by omega, by go_num, hb2, hall'⟩
            case measure => simp [intOf]
          · have hq' : ws c = false := by simpa using hq
            have hs3 : seen s[k] 3 = false := by rw [hc]; exact hq'
            have hcut : Hid (CutR s.data.toList (s.extract 0 (k + 1)).data.toList) := Lib.hid ⟨s.data.toList.drop (k + 1), by rw [Lib.extract_data]; simp, hall.out, fun x hx => by
              rw [Lib.extract_data, List.drop_zero, Nat.sub_zero, last_take _ _ (by rw [Lib.size_eq] at hlt; exact hlt)] at hx
              cases hx
              have : s.data.toList[k] = c := hc
              rw [this]; exact hq'⟩
            clear hq hq' hc
            go_wp2_with fail
            go_ret
            exact ⟨⟨_, rfl, hcut.out⟩, hb2.out⟩
    · obtain rfl : m = 0 := by omega
      go_wp2_with fail
      go_ret
      exact ⟨⟨_, rfl, s.data.toList, by simp, by simpa using hall.out, fun x hx => by simp at hx⟩, hb.out⟩

def Trimmed (l t : List UInt8) : Prop := ∃ m, CutL l m ∧ CutR m t

theorem CutL.length {l t : List UInt8} (h : CutL l t) : t.length ≤ l.length := by obtain ⟨a, rfl, _⟩ := h; simp
theorem CutR.length {l t : List UInt8} (h : CutR l t) : t.length ≤ l.length := by obtain ⟨a, rfl, _⟩ := h; simp
theorem Trimmed.length {l t : List UInt8} (h : Trimmed l t) : t.length ≤ l.length := by obtain ⟨m, h1, h2⟩ := h; exact Nat.le_trans h2.length h1.length
theorem Trimmed.mem {l t : List UInt8} (h : Trimmed l t) {x : UInt8} (hx : x ∈ t) : x ∈ l := by
  obtain ⟨m, ⟨a, rfl, _⟩, ⟨b, rfl, _⟩⟩ := h
  simp [hx]
theorem Trimmed.stays {l t : List UInt8} (h : Trimmed l t) {x : UInt8} (hx : x ∈ l) (hn : ws x = false) : x ∈ t := by
  obtain ⟨m, ⟨a, rfl, ha, _⟩, ⟨b, rfl, hb, _⟩⟩ := h
  rcases List.mem_append.1 hx with hx | hx
  · exact absurd (ha x hx) (by simp [hn])
  · rcases List.mem_append.1 hx with hx | hx
    · exact hx
    · exact absurd (hb x hx) (by simp [hn])

/-- Two ways to take a run of blanks off the head are one. -/
theorem head_same {a a' t t' : List UInt8} (h : a ++ t = a' ++ t') (ha : ∀ x ∈ a, ws x = true) (ha' : ∀ x ∈ a', ws x = true) (ht : ∀ x, t.head? = some x → ws x = false) (ht' : ∀ x, t'.head? = some x → ws x = false) : t = t' := by
  induction a generalizing a' with
  | nil =>
    cases a' with
    | nil => simpa using h
    | cons y a' =>
      simp at h
      have := ht y (by rw [h]; rfl)
      rw [ha' y (by simp)] at this
      cases this
  | cons y a ih =>
    cases a' with
    | nil =>
      simp at h
      have := ht' y (by rw [← h]; rfl)
      rw [ha y (by simp)] at this
      cases this
    | cons z a' =>
      simp at h
      exact ih h.2 (fun x hx => ha x (by simp [hx])) (fun x hx => ha' x (by simp [hx]))

theorem Trimmed.exact {l t a b body : List UInt8} (h : Trimmed l t) (hl : l = a ++ (body ++ b)) (ha : ∀ x ∈ a, ws x = true) (hb : ∀ x ∈ b, ws x = true) (h0 : body ≠ []) (h1 : ∀ x, body.head? = some x → ws x = false) (h2 : ∀ x, body.getLast? = some x → ws x = false) : t = body := by
  obtain ⟨m, ⟨a', hm, ha', hm'⟩, ⟨b', rfl, hb', ht⟩⟩ := h
  have e1 : t ++ b' = body ++ b := head_same (hm.symm.trans hl) ha' ha hm' (fun x hx => h1 x (by
    cases body with
    | nil => exact absurd rfl h0
    | cons y body => exact hx))
  have e2 : b'.reverse ++ t.reverse = b.reverse ++ body.reverse := by rw [← List.reverse_append, ← List.reverse_append, e1]
  have e3 := head_same e2 (fun x hx => hb' x (by simpa using hx)) (fun x hx => hb x (by simpa using hx)) (fun x hx => ht x (by rwa [List.head?_reverse] at hx)) (fun x hx => h2 x (by rwa [List.head?_reverse] at hx))
  simpa using congrArg List.reverse e3

theorem trim_any (s : ByteArray) (w : World) (hs : s.size ≤ 1073741824) :
    Calls Tryd.prog 22 #[.string s, .string WS] w fun e w' => (∃ t : ByteArray, e = .returned (.string t) ∧ Trimmed s.data.toList t.data.toList) ∧ Below w.heap.size w w' := by
  have HL := Lib.hid (trim_left s w hs)
  have hs' := Lib.hid hs
  clear hs
  go_enter Tryd.func22, Tryd.ntmps22
  go_wp2_with fail
  refine HL.out.mono ?_
  rintro e w1 ⟨⟨m, rfl, hm⟩, hb⟩
  have HR := Lib.hid (trim_right m w1 (by have := hm.length; have := hs'.out; rw [Lib.size_eq] at *; omega))
  have hm' := Lib.hid hm
  have hb' := Lib.hid hb
  clear hm hb
  go_wp2_with fail
  refine HR.out.mono ?_
  rintro e w2 ⟨⟨t, rfl, ht⟩, hb2⟩
  have ht' := Lib.hid ht
  have hb2' := Lib.hid (hb'.out.trans (hb2.mono hb'.out.size))
  clear ht hb2
  go_wp2_with fail
  go_ret
  exact ⟨⟨t, rfl, _, hm'.out, ht'.out⟩, hb2'.out⟩
end Go.Proofs.YtjaibjdhfljmmaaDoor
