/-
  What prefixIsLessThan's answer says of the numbers; the cheat table's entries; how many digits leftShift adds.
-/
import Derived.Test.YtjaibjdhfljmmaaDoorDm
import Derived.Test.YtjaibjdhfljmmaaDoorDmLeft
namespace Go.Proofs.YtjaibjdhfljmmaaDoor
open Go.RowKit
set_option maxRecDepth 100000

/-- A text's bytes as digits. -/
def cdig (s : ByteArray) (j : Nat) : Int := if h : j < s.size then s[j].toNat else 48

theorem Agree.dnum {d : Nat → Int} {s : ByteArray} {i : Nat} (h : Agree d s i) (hi : i ≤ s.size) : dnum d i = dnum (cdig s) i :=
  dnum_congr (fun j hj => by rw [h j (by omega) hj]; simp [cdig, show j < s.size by omega])

theorem LessAt.law {nd : Nat} {d : Nat → Int} {s : ByteArray} {b : Bool} (h : LessAt nd d s b) (hd : Dig d nd) (hc : Dig (cdig s) s.size) (he : dnum (cdig s) s.size % 10 ≠ 0) :
    (b = true → dnum d nd * 10 ^ s.size < dnum (cdig s) s.size * 10 ^ nd) ∧ (b = false → dnum (cdig s) s.size * 10 ^ nd ≤ dnum d nd * 10 ^ s.size) := by
  obtain ⟨i, hi, hin, ha, h⟩ := h
  have hE := ha.dnum hi
  rcases h with ⟨rfl, hlt, h⟩ | ⟨rfl, h⟩
  · refine ⟨fun _ => ?_, fun h => by cases h⟩
    rcases h with rfl | ⟨hn, hl⟩
    · exact part_short _ _ hlt hc hE he
    · exact part_lt i _ _ hn hlt hd hc hE (by simpa [cdig, hlt] using hl)
  · refine ⟨fun h => (by cases h), fun _ => ?_⟩
    rcases h with rfl | ⟨hlt, hn, hl⟩
    · exact part_long _ _ hin hd hE
    · exact Nat.le_of_lt (part_lt i _ _ hlt hn hc hd hE.symm (by simpa [cdig, hlt] using hl))

/-- An entry of the cheat table: 5^k in its digits, and how many a shift by k adds at most. -/
structure Cheat (k e : Nat) (s : ByteArray) : Prop where
  pos : 0 < e
  size : e + s.size = k + 1
  val : dnum (cdig s) s.size = 5 ^ k
  lead : 10 ^ s.size ≤ 5 ^ k * 10
  dig : Dig (cdig s) s.size
  small : s.size ≤ 800

theorem five_mod (k : Nat) : 5 ^ k % 10 ≠ 0 := by
  have : 5 ^ k % 2 = 1 := by
    induction k with
    | zero => rfl
    | succ k ih => rw [Nat.pow_succ]; omega
  omega

/-- The shift by k adds e digits, or one less. -/
theorem Cheat.adds {k e : Nat} {s : ByteArray} (h : Cheat k e s) {nd : Nat} {d : Nat → Int} {b : Bool} (hb : LessAt nd d s b) (hd : Dig d nd) (hn : 0 < nd) (h0 : 49 ≤ d 0) :
    ∃ f : Nat, ((f : Int) = (e : Int) - (if b then 1 else 0)) ∧ dnum d nd * 2 ^ k < 10 ^ (nd + f) ∧ 10 ^ (nd + f) ≤ dnum d nd * 2 ^ k * 10 := by
  have hl := hb.law hd h.dig (by rw [h.val]; exact five_mod k)
  have hN1 : 10 ^ nd ≤ dnum d nd * 10 := by
    obtain ⟨m, rfl⟩ : ∃ m, nd = m + 1 := ⟨nd - 1, by omega⟩
    have := dnum_ge h0 (n := m)
    rw [Nat.pow_succ]
    omega
  have hs := shift_adds (N := dnum d nd) (nd := nd) h.val (by rw [h.val]; exact h.lead) (dnum_lt h.dig) h.size hN1 (dnum_lt hd)
  have hp := h.pos
  cases b with
  | true =>
    refine ⟨e - 1, by simp; omega, hs.1 (hl.1 rfl) hp⟩
  | false =>
    refine ⟨e, by simp, hs.2 (hl.2 rfl)⟩

/-- The same by the numbers. -/
theorem Cheat.adds' {k e : Nat} {s : ByteArray} (h : Cheat k e s) {nd : Nat} {d : Nat → Int} {b : Bool} (hb : b = decide (dnum d nd * 10 ^ s.size < dnum (cdig s) s.size * 10 ^ nd)) (hd : Dig d nd) (hn : 0 < nd) (h0 : 49 ≤ d 0) :
    ∃ f : Nat, ((f : Int) = (e : Int) - (if b then 1 else 0)) ∧ dnum d nd * 2 ^ k < 10 ^ (nd + f) ∧ 10 ^ (nd + f) ≤ dnum d nd * 2 ^ k * 10 := by
  have hN1 : 10 ^ nd ≤ dnum d nd * 10 := by
    obtain ⟨m, rfl⟩ : ∃ m, nd = m + 1 := ⟨nd - 1, by omega⟩
    have := dnum_ge h0 (n := m)
    rw [Nat.pow_succ]
    omega
  have hs := shift_adds (N := dnum d nd) (nd := nd) h.val (by rw [h.val]; exact h.lead) (dnum_lt h.dig) h.size hN1 (dnum_lt hd)
  have hp := h.pos
  by_cases hc : dnum d nd * 10 ^ s.size < dnum (cdig s) s.size * 10 ^ nd
  · rw [decide_eq_true hc] at hb
    subst hb
    exact ⟨e - 1, by simp; omega, hs.1 hc hp⟩
  · rw [decide_eq_false hc] at hb
    subst hb
    exact ⟨e, by simp, hs.2 (Nat.not_lt.1 hc)⟩

/-- prefixIsLessThan, by the numbers. -/
theorem less_val (B nd c : Nat) (dp : Int) (d : Nat → Int) (s : ByteArray) (w : World) (hs : s.size ≤ 800) (hD : Dm w B nd dp d) (hd : Dig d nd) (hc : Dig (cdig s) s.size) (he : dnum (cdig s) s.size % 10 ≠ 0) :
    Calls Tryd.prog 86 #[.slice (some ⟨B, 0, none⟩) nd c, .string s] w fun e w' => e = .returned (.bool (decide (dnum d nd * 10 ^ s.size < dnum (cdig s) s.size * 10 ^ nd))) ∧ ∃ m, w' = w.drewN m := by
  refine (less_any B nd c dp d s w hs hD).mono ?_
  rintro e w' ⟨⟨b, rfl, hb⟩, hw⟩
  refine ⟨?_, hw⟩
  have hl := hb.law hd hc he
  cases b with
  | true => rw [decide_eq_true (hl.1 rfl)]
  | false => rw [decide_eq_false (Nat.not_lt.2 (hl.2 rfl))]

end Go.Proofs.YtjaibjdhfljmmaaDoor
