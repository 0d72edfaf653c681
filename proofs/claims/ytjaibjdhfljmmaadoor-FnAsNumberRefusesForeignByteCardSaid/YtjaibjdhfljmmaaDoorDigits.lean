/-
  zzMagnitude, zzDigits: the digits of a uint64 in base 10 or 16, as bytes whose value is that number.
-/
import Derived.Test.YtjaibjdhfljmmaaDoorNumeral
import Derived.Laws.BytesArg
import Derived.Laws.BitsAllLaws
namespace Go.Proofs.YtjaibjdhfljmmaaDoor
open Go.RowKit
set_option maxRecDepth 100000
set_option maxHeartbeats 1000000

theorem i64_not_neg (m : Int) (h1 : 0 < m) (h2 : m ≤ 9223372036854775808) : bits .xor .i64 (-1) (-m) = m - 1 := by
  show IntKind.i64.wrap ((BitVec.ofInt 64 (-1) ^^^ BitVec.ofInt 64 (-m)).toNat : Int) = _
  have e1 : BitVec.ofInt 64 (-1) = BitVec.allOnes 64 := by decide
  rw [e1, BitVec.allOnes_xor, BitVec.toNat_not, BitVec.toNat_ofInt]
  simp [IntKind.wrap, IntKind.bits, IntKind.signed]
  omega

theorem magnitude (n : Int) (h1 : -9223372036854775808 ≤ n) (h2 : n ≤ 9223372036854775807) (w : World) :
    Calls Tryd.prog 13 #[.int .i64 n] w fun e w' => e = .returned (.int .u64 n.natAbs) ∧ w = w' := by
  by_cases h : n < 0
  · obtain ⟨m, hm⟩ : ∃ m : Int, n = -m := ⟨-n, by omega⟩
    subst hm
    have hn : ((-m).natAbs : Int) = m := by omega
    rw [hn]
    clear hn
    have m0 : 0 < m := by omega
    have m1 : m ≤ 9223372036854775808 := by omega
    have hx := i64_not_neg m m0 m1
    have hw : IntKind.u64.wrap (IntKind.u64.wrap (m - 1) + 1) = m := by rw [IntKind.wrap_u64, IntKind.wrap_u64]; omega
    have hw2 := Lib.hid hw
    clear hw
    go_enter Tryd.func13, Tryd.ntmps13
    go_wp2
    go_ret
    exact ⟨by first | rfl | (simp only [hw2.out]; rfl), rfl⟩
  · have hn : (n.natAbs : Int) = n := by omega
    rw [hn]
    clear hn
    have h0 : 0 ≤ n := by omega
    go_enter Tryd.func13, Tryd.ntmps13
    go_wp2
    go_ret
    exact ⟨rfl, rfl⟩

theorem cell_of {w : World} {b o : Nat} {c : Array Value} {t : TypeId} {f : Nat × Nat} (h : w.heap[b]? = some (.cells c t f)) : w.cell? ⟨b, o, none⟩ = c[o]? := by
  simp [World.cell?, h]

theorem free_of {w : World} {b o : Nat} {c : Array Value} {t : TypeId} (h : w.heap[b]? = some (.cells c t (0, 0))) : w.frozen? ⟨b, o, none⟩ = false := by
  simp [World.frozen?, h]

theorem set_same {w : World} {b o : Nat} {c : Array Value} {t : TypeId} {f : Nat × Nat} (v : Value) (h : w.heap[b]? = some (.cells c t f)) :
    (w.setCell ⟨b, o, none⟩ v).heap[b]? = some (.cells (c.setIfInBounds o v) t f) := by
  simp [World.setCell, Array.getElem?_modify, h]

theorem toArray_set (xs : List Value) (i : Nat) (v : Value) : xs.toArray.setIfInBounds i v = (xs.set i v).toArray := by simp

/-- The cells of the buffer: L at the end. -/
def brow (i : Nat) (L : List UInt8) : List Value := List.replicate i (Value.int .u8 0) ++ L.map (fun c => Value.int .u8 c.toNat)

theorem brow_set (i : Nat) (c : UInt8) (L : List UInt8) : (brow (i + 1) L).set i (.int .u8 c.toNat) = brow i (c :: L) := by
  unfold brow
  rw [List.replicate_succ', List.append_assoc, List.set_append_right _ _ (by simp)]
  simp

def Good (b : Nat) (c : UInt8) : Prop := (48 ≤ c.toNat ∧ c.toNat ≤ 57) ∨ (b = 16 ∧ 97 ≤ c.toNat ∧ c.toNat ≤ 102)

theorem val_cons (b : Nat) (c : UInt8) (L : List UInt8) : val b (c :: L) = dv c * b ^ L.length + val b L := by
  have key : ∀ (r : List UInt8) (x : Nat), r.foldl (fun a c => a * b + dv c) x = x * b ^ r.length + r.foldl (fun a c => a * b + dv c) 0 := by
    intro r
    induction r with
    | nil => intro x; simp
    | cons y r ih =>
      intro x
      rw [List.foldl_cons, List.foldl_cons, ih, ih (0 * b + dv y), List.length_cons, Nat.pow_succ, Nat.zero_mul, Nat.zero_add, Nat.add_mul, Nat.mul_assoc, Nat.mul_comm b]
      omega
  show (c :: L).foldl (fun a c => a * b + dv c) 0 = _
  rw [List.foldl_cons, key L]
  simp [val]

/-- What zzDigits hands back. -/
def Digits (b u : Nat) (t : List UInt8) : Prop := val b t = u ∧ (∀ x ∈ t, Good b x) ∧ 1 ≤ t.length ∧ t.length ≤ 64 ∧ (t = [48] ∨ ¬ t.head? = some 48)

theorem digit_good (b d : Nat) (hb : b = 10 ∨ b = 16) (hd : d < b) : ∃ c : UInt8, c.toNat = (if d < 10 then 48 + d else 87 + d) ∧ Good b c ∧ dv c = d ∧ (d ≠ 0 → ¬ c = 48) := by
  refine ⟨UInt8.ofNat (if d < 10 then 48 + d else 87 + d), ?_, ?_, ?_, ?_⟩
  all_goals
    have h : (UInt8.ofNat (if d < 10 then 48 + d else 87 + d)).toNat = (if d < 10 then 48 + d else 87 + d) := by
      rw [UInt8.toNat_ofNat']
      split <;> omega
  · exact h
  · unfold Good
    rw [h]
    split <;> omega
  · unfold dv
    rw [h]
    split <;> split <;> omega
  · intro h0 e
    rw [e] at h
    have h : 48 = (if d < 10 then 48 + d else 87 + d) := h
    split at h <;> omega

theorem Tryd.arr40 : Tryd.prog.arrayLen 40 = 64 := by kernel_rfl
theorem Tryd.elem40 : Tryd.prog.elem 40 = 5 := by kernel_rfl
theorem Tryd.und40 : Tryd.prog.underlying 40 = some (.array (Tryd.prog.arrayLen 40) (Tryd.prog.elem 40)) := by kernel_rfl
theorem Tryd.size5 (W : World) : (sizeOf 5).run Tryd.prog W = .ok 1 W := by kernel_rfl

/-- buf[j:] of an array of 64 bytes. -/
theorem slice_buf (B j : Nat) (hj : j < 64) (W : World) : (Instr.sliceAt 40 (.pointer (some ⟨B, 0, none⟩)) (some (.int .i64 j)) none none).run Tryd.prog W = .ok (.slice (some ⟨B, j, none⟩) (64 - j) (64 - j)) W := by
  rw [run_sliceAt_array_l W 40 ⟨B, 0, none⟩ Tryd.und40 .i64 (j : Int) (by omega) (by rw [Tryd.arr40]; omega), Tryd.elem40, Tryd.size5, Tryd.arr40]
  have h : ¬ 64 = j := by omega
  simp [slicedAt, Result.andThen, Addr.add, h]
  omega

theorem str_of_bytes (L : List UInt8) : (strOfNums (L.map fun c => (c.toNat : Int))).data.toList = L := by
  rw [strOfNums_data, List.map_map]
  conv => rhs; rw [← List.map_id L]
  congr 1
  funext c
  simp

theorem digits_10 (u : Nat) (hu : u < 18446744073709551616) (w : World) :
    Calls Tryd.prog 12 #[.int .u64 u, .int .u64 10] w fun e w' => (∃ t : ByteArray, e = .returned (.string t) ∧ Digits 10 u t.data.toList) ∧ Below w.heap.size w w' := by
  rcases Nat.eq_zero_or_pos u with h0 | h0
  · subst h0
    go_enter Tryd.func12, Tryd.ntmps12
    go_wp2_with fail
    go_ret
    exact ⟨⟨⟨#[48]⟩, rfl, by decide, fun x hx => by simp at hx; subst hx; exact Or.inl (by decide), by decide, by decide, Or.inl rfl⟩, Below.refl _ _⟩
  · have hu' := Lib.hid hu
    have hpos := Lib.hid h0
    obtain ⟨U, hU⟩ : ∃ U : Int, (u : Int) = U := ⟨_, rfl⟩
    have hU' := Lib.hid hU
    rw [hU]
    have U0 : 0 < U := by omega
    have U1 : U < 18446744073709551616 := by omega
    clear hU h0 hu
    go_enter Tryd.func12, Tryd.ntmps12
    go_wp2_with fail
    go_loopw [0, 6] (fun x i wr => ∃ (z : Int) (v j : Nat) (L : List UInt8), x = .int .u64 z ∧ i = .int .i64 j ∧ L.length + j = 64 ∧ Hid (z = (v : Int)) ∧ Hid (wr.heap[w.heap.size]? = some (.cells (brow j L).toArray 40 (0, 0)) ∧ Below w.heap.size w wr) ∧ Hid (v * 10 ^ L.length + val 10 L = u ∧ (∀ x ∈ L, Good 10 x) ∧ (v = 0 → L ≠ [] ∧ ¬ L.head? = some 48))) (fun x _ _ => (intOf x).toNat)
    case atStart => exact ⟨U, u, 64, [], rfl, rfl, rfl, Lib.hid hU'.out.symm, Lib.hid ⟨heap_alloc_new w _, (Below.refl _ _).alloc (Nat.le_refl _) _⟩, Lib.hid ⟨by simp [val], by simp, fun h => by have := hpos.out; omega⟩⟩
    case round =>
      obtain ⟨z, v, j, L, rfl, rfl, hj, hzv, hr, hh⟩ := hrel
      obtain ⟨hv, hg, hz⟩ := hh.out
      have hu := hu'.out
      rcases Nat.eq_zero_or_pos v with v0 | v0
      · have z0 : z = 0 := by have := hzv.out; omega
        subst z0
        obtain ⟨hL0, hL1⟩ := hz v0
        have hLl : 1 ≤ L.length := by
          cases L with
          | nil => exact absurd rfl hL0
          | cons c L => simp
        have hj64 : j < 64 := by omega
        have hsl := fun W => slice_buf w.heap.size j hj64 W
        have hcv := run_convert_bytes_arg (P := Tryd.prog) wr 41 5 Tryd.underlying41 Tryd.underlying5 w.heap.size j (64 - j) (64 - j) (L.map fun c => (c.toNat : Int)) (by rw [List.length_map]; omega) (fun i hi => by
          rw [cell_of hr.out.1]
          have hil : i < L.length := by omega
          simp [brow, List.getElem?_append_right, List.getElem?_eq_getElem hil, List.getD]) 9 Tryd.underlying9
        have hsb := str_of_bytes L
        generalize strOfNums (L.map fun c => (c.toNat : Int)) = t at hcv hsb
        have hfin : Hid (Digits 10 u t.data.toList ∧ Below w.heap.size w wr) := Lib.hid ⟨by rw [hsb]; exact ⟨by rw [v0] at hv; simpa using hv, hg, hLl, by omega, Or.inr hL1⟩, hr.out.2⟩
        clear hsb hv hg hz hL0 hL1 hLl hu
        go_wp2_with fail
        go_ret
        exact ⟨⟨t, rfl, hfin.out.1⟩, hfin.out.2⟩
      · have hlen : L.length < 64 := by
          have h2 : 2 ^ L.length ≤ 10 ^ L.length := Nat.pow_le_pow_left (by omega) _
          have h3 : 10 ^ L.length ≤ v * 10 ^ L.length := Nat.le_mul_of_pos_left _ v0
          have h4 : 2 ^ L.length < 2 ^ 64 := by
            have : (2 : Nat) ^ 64 = 18446744073709551616 := by decide
            omega
          exact (Nat.pow_lt_pow_iff_right (by decide)).1 h4
        obtain ⟨i, rfl⟩ : ∃ i, j = i + 1 := ⟨j - 1, by omega⟩
        have hvu : v ≤ u := by
          have := Nat.pow_pos (n := L.length) (show 0 < 10 by decide)
          have := Nat.le_mul_of_pos_right v this
          omega
        obtain ⟨c, hc1, hc2, hc3, hc4⟩ := digit_good 10 (v % 10) (by decide) (Nat.mod_lt _ (by decide))
        have hnext : Hid (v / 10 * 10 ^ (c :: L).length + val 10 (c :: L) = u ∧ (∀ x ∈ c :: L, Good 10 x) ∧ (v / 10 = 0 → c :: L ≠ [] ∧ ¬ (c :: L).head? = some 48)) := Lib.hid (by
          refine ⟨?_, fun x hx => ?_, fun h => ⟨by simp, ?_⟩⟩
          · rw [val_cons, hc3, List.length_cons, Nat.pow_succ, Nat.mul_comm (10 ^ L.length) 10, ← Nat.mul_assoc]
            have hdm := Nat.div_add_mod v 10
            rw [Nat.mul_comm] at hdm
            rw [← Nat.add_assoc, ← Nat.add_mul, hdm]
            exact hv
          · rcases List.mem_cons.1 hx with rfl | hx
            · exact hc2
            · exact hg x hx
          · intro e
            simp at e
            exact hc4 (by omega) e)
        have hlr : (brow (i + 1) L).length = 64 := by unfold brow; simp; omega
        obtain ⟨x0, cd⟩ : ∃ x0, wr.cell? ⟨w.heap.size, i, none⟩ = some x0 := ⟨_, by rw [cell_of hr.out.1]; simp [hlr, show i < 64 by omega]; rfl⟩
        have zd : wr.frozen? ⟨w.heap.size, i, none⟩ = false := free_of hr.out.1
        have hset := Lib.hid (brow_set i c L)
        obtain ⟨d, hd⟩ : ∃ d, v % 10 = d := ⟨_, rfl⟩
        rw [hd] at hc1
        have hlt : v / 10 < v := Nat.div_lt_self v0 (by decide)
        obtain ⟨D, hD⟩ : ∃ D : Int, z % 10 = D := ⟨_, rfl⟩
        obtain ⟨V, hV⟩ : ∃ V : Int, z / 10 = V := ⟨_, rfl⟩
        have hDd : D = (d : Int) := by have := hzv.out; omega
        have hVv := Lib.hid (show V = ((v / 10 : Nat) : Int) by have := hzv.out; omega)
        have hz0 : 0 < z := by have := hzv.out; omega
        have hz64 : z < 18446744073709551616 := by have := hzv.out; omega
        have hD0 : 0 ≤ D := by omega
        have hD16 : D < 10 := by omega
        have hV0 : 0 ≤ V := by omega
        have hVz := Lib.hid (show V < z by have := hzv.out; have := hVv.out; omega)
        have hcv := Lib.hid hc1
        have hDd' := Lib.hid hDd
        have hV' := Lib.hid hV
        have hst : Hid (Value.int .u8 (if d < 10 then 48 + D else 87 + D) = Value.int .u8 c.toNat) := Lib.hid (by
          rw [hc1]
          split
          · congr 1; omega
          · congr 1; omega)
        clear hv hg hz hc2 hc3 hc4 hc1 hlr hlt hvu hu
        by_cases hd10 : d < 10
        · have g1 : D < 10 := by have := hDd'.out; omega
          rw [if_pos hd10] at hst
          clear hd10 hDd hd
          go_wp2_with fail
          go_roundw
          case rel => exact ⟨V, v / 10, i, c :: L, by first | rfl | rw [hV'.out], by go_num, by rw [List.length_cons]; omega, hVv, Lib.hid ⟨by rw [hst.out, set_same _ hr.out.1, toArray_set, hset.out], hr.out.2.setCell (Nat.le_refl _) _⟩, hnext⟩
          case measure => have := hVz.out; simp [intOf]; omega
        · omega

theorem digits_16 (u : Nat) (hu : u < 18446744073709551616) (w : World) :
    Calls Tryd.prog 12 #[.int .u64 u, .int .u64 16] w fun e w' => (∃ t : ByteArray, e = .returned (.string t) ∧ Digits 16 u t.data.toList) ∧ Below w.heap.size w w' := by
  rcases Nat.eq_zero_or_pos u with h0 | h0
  · subst h0
    go_enter Tryd.func12, Tryd.ntmps12
    go_wp2_with fail
    go_ret
    exact ⟨⟨⟨#[48]⟩, rfl, by decide, fun x hx => by simp at hx; subst hx; exact Or.inl (by decide), by decide, by decide, Or.inl rfl⟩, Below.refl _ _⟩
  · have hu' := Lib.hid hu
    have hpos := Lib.hid h0
    obtain ⟨U, hU⟩ : ∃ U : Int, (u : Int) = U := ⟨_, rfl⟩
    have hU' := Lib.hid hU
    rw [hU]
    have U0 : 0 < U := by omega
    have U1 : U < 18446744073709551616 := by omega
    clear hU h0 hu
    go_enter Tryd.func12, Tryd.ntmps12
    go_wp2_with fail
    go_loopw [0, 6] (fun x i wr => ∃ (z : Int) (v j : Nat) (L : List UInt8), x = .int .u64 z ∧ i = .int .i64 j ∧ L.length + j = 64 ∧ Hid (z = (v : Int)) ∧ Hid (wr.heap[w.heap.size]? = some (.cells (brow j L).toArray 40 (0, 0)) ∧ Below w.heap.size w wr) ∧ Hid (v * 16 ^ L.length + val 16 L = u ∧ (∀ x ∈ L, Good 16 x) ∧ (v = 0 → L ≠ [] ∧ ¬ L.head? = some 48))) (fun x _ _ => (intOf x).toNat)
    case atStart => exact ⟨U, u, 64, [], rfl, rfl, rfl, Lib.hid hU'.out.symm, Lib.hid ⟨heap_alloc_new w _, (Below.refl _ _).alloc (Nat.le_refl _) _⟩, Lib.hid ⟨by simp [val], by simp, fun h => by have := hpos.out; omega⟩⟩
    case round =>
      obtain ⟨z, v, j, L, rfl, rfl, hj, hzv, hr, hh⟩ := hrel
      obtain ⟨hv, hg, hz⟩ := hh.out
      have hu := hu'.out
      rcases Nat.eq_zero_or_pos v with v0 | v0
      · have z0 : z = 0 := by have := hzv.out; omega
        subst z0
        obtain ⟨hL0, hL1⟩ := hz v0
        have hLl : 1 ≤ L.length := by
          cases L with
          | nil => exact absurd rfl hL0
          | cons c L => simp
        have hj64 : j < 64 := by omega
        have hsl := fun W => slice_buf w.heap.size j hj64 W
        have hcv := run_convert_bytes_arg (P := Tryd.prog) wr 41 5 Tryd.underlying41 Tryd.underlying5 w.heap.size j (64 - j) (64 - j) (L.map fun c => (c.toNat : Int)) (by rw [List.length_map]; omega) (fun i hi => by
          rw [cell_of hr.out.1]
          have hil : i < L.length := by omega
          simp [brow, List.getElem?_append_right, List.getElem?_eq_getElem hil, List.getD]) 9 Tryd.underlying9
        have hsb := str_of_bytes L
        generalize strOfNums (L.map fun c => (c.toNat : Int)) = t at hcv hsb
        have hfin : Hid (Digits 16 u t.data.toList ∧ Below w.heap.size w wr) := Lib.hid ⟨by rw [hsb]; exact ⟨by rw [v0] at hv; simpa using hv, hg, hLl, by omega, Or.inr hL1⟩, hr.out.2⟩
        clear hsb hv hg hz hL0 hL1 hLl hu
        go_wp2_with fail
        go_ret
        exact ⟨⟨t, rfl, hfin.out.1⟩, hfin.out.2⟩
      · have hlen : L.length < 64 := by
          have h2 : 2 ^ L.length ≤ 16 ^ L.length := Nat.pow_le_pow_left (by omega) _
          have h3 : 16 ^ L.length ≤ v * 16 ^ L.length := Nat.le_mul_of_pos_left _ v0
          have h4 : 2 ^ L.length < 2 ^ 64 := by
            have : (2 : Nat) ^ 64 = 18446744073709551616 := by decide
            omega
          exact (Nat.pow_lt_pow_iff_right (by decide)).1 h4
        obtain ⟨i, rfl⟩ : ∃ i, j = i + 1 := ⟨j - 1, by omega⟩
        have hvu : v ≤ u := by
          have := Nat.pow_pos (n := L.length) (show 0 < 16 by decide)
          have := Nat.le_mul_of_pos_right v this
          omega
        obtain ⟨c, hc1, hc2, hc3, hc4⟩ := digit_good 16 (v % 16) (by decide) (Nat.mod_lt _ (by decide))
        have hnext : Hid (v / 16 * 16 ^ (c :: L).length + val 16 (c :: L) = u ∧ (∀ x ∈ c :: L, Good 16 x) ∧ (v / 16 = 0 → c :: L ≠ [] ∧ ¬ (c :: L).head? = some 48)) := Lib.hid (by
          refine ⟨?_, fun x hx => ?_, fun h => ⟨by simp, ?_⟩⟩
          · rw [val_cons, hc3, List.length_cons, Nat.pow_succ, Nat.mul_comm (16 ^ L.length) 16, ← Nat.mul_assoc]
            have hdm := Nat.div_add_mod v 16
            rw [Nat.mul_comm] at hdm
            rw [← Nat.add_assoc, ← Nat.add_mul, hdm]
            exact hv
          · rcases List.mem_cons.1 hx with rfl | hx
            · exact hc2
            · exact hg x hx
          · intro e
            simp at e
            exact hc4 (by omega) e)
        have hlr : (brow (i + 1) L).length = 64 := by unfold brow; simp; omega
        obtain ⟨x0, cd⟩ : ∃ x0, wr.cell? ⟨w.heap.size, i, none⟩ = some x0 := ⟨_, by rw [cell_of hr.out.1]; simp [hlr, show i < 64 by omega]; rfl⟩
        have zd : wr.frozen? ⟨w.heap.size, i, none⟩ = false := free_of hr.out.1
        have hset := Lib.hid (brow_set i c L)
        obtain ⟨d, hd⟩ : ∃ d, v % 16 = d := ⟨_, rfl⟩
        rw [hd] at hc1
        have hlt : v / 16 < v := Nat.div_lt_self v0 (by decide)
        obtain ⟨D, hD⟩ : ∃ D : Int, z % 16 = D := ⟨_, rfl⟩
        obtain ⟨V, hV⟩ : ∃ V : Int, z / 16 = V := ⟨_, rfl⟩
        have hDd : D = (d : Int) := by have := hzv.out; omega
        have hVv := Lib.hid (show V = ((v / 16 : Nat) : Int) by have := hzv.out; omega)
        have hz0 : 0 < z := by have := hzv.out; omega
        have hz64 : z < 18446744073709551616 := by have := hzv.out; omega
        have hD0 : 0 ≤ D := by omega
        have hD16 : D < 16 := by omega
        have hV0 : 0 ≤ V := by omega
        have hVz := Lib.hid (show V < z by have := hzv.out; have := hVv.out; omega)
        have hcv := Lib.hid hc1
        have hDd' := Lib.hid hDd
        have hV' := Lib.hid hV
        have hst : Hid (Value.int .u8 (if d < 10 then 48 + D else 87 + D) = Value.int .u8 c.toNat) := Lib.hid (by
          rw [hc1]
          split
          · congr 1; omega
          · congr 1; omega)
        clear hv hg hz hc2 hc3 hc4 hc1 hlr hlt hvu hu
        by_cases hd10 : d < 10
        · have g1 : D < 10 := by have := hDd'.out; omega
          rw [if_pos hd10] at hst
          clear hd10 hDd hd
          go_wp2_with fail
          go_roundw
          case rel => exact ⟨V, v / 16, i, c :: L, by first | rfl | rw [hV'.out], by go_num, by rw [List.length_cons]; omega, hVv, Lib.hid ⟨by rw [hst.out, set_same _ hr.out.1, toArray_set, hset.out], hr.out.2.setCell (Nat.le_refl _) _⟩, hnext⟩
          case measure => have := hVz.out; simp [intOf]; omega
        · have g1 : ¬ D < 10 := by have := hDd'.out; omega
          rw [if_neg hd10] at hst
          have hst2 : Hid (Value.int .u8 (97 + D - 10) = Value.int .u8 c.toNat) := Lib.hid (by rw [← hst.out]; congr 1; omega)
          clear hd10 hDd hd
          go_wp2_with fail
          go_roundw
          case rel => exact ⟨V, v / 16, i, c :: L, by first | rfl | rw [hV'.out], by go_num, by rw [List.length_cons]; omega, hVv, Lib.hid ⟨by rw [hst2.out, set_same _ hr.out.1, toArray_set, hset.out], hr.out.2.setCell (Nat.le_refl _) _⟩, hnext⟩
          case measure => have := hVz.out; simp [intOf]; omega

end Go.Proofs.YtjaibjdhfljmmaaDoor
