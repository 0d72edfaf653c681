/-
  The table in memory (TabV) and what reads it: Len, MaxN, RawGetInt, RawGet, RawGetString; LVAsNumber, numIs.
-/
import Derived.Test.YtbgolkdhcgjfkaaGreatDoorKeys
namespace Go.Proofs.YtbgolkdhcgjfkaaGreatDoor
open Go.RowKit
set_option maxRecDepth 100000
set_option maxHeartbeats 400000

/-- A map's value: nil, or a block. -/
def MapV (w : World) (v : Value) (kp : Value → Prop) (c : Value → Option Value) : Prop :=
  (v = .map none ∧ c = fun _ => none) ∨ ∃ b, v = .map (some b) ∧ MapC w b kp c

def mapBlock : Value → Option Nat
  | .map (some b) => some b
  | _ => none

/-- The table at T: its array part xs, its hash of Lua values cd, its hash of strings cs, its keys in order ks. -/
structure TabV (w : World) (T : Nat) (av dv sv kv iv : Value) (xs : List Value) (cd cs : Value → Option Value) (ks : List Value) : Prop where
  cells : w.heap[T]? = some (.cells #[LNIL, av, dv, sv, kv, iv] 49 (0, 0))
  arr : w.ownsRow 0 43 1 av xs.length xs
  keys : w.ownsRow 0 43 1 kv ks.length ks
  di : MapV w dv KeyI cd
  sd : MapV w sv KeyS cs
  ki : ∃ ci, MapV w iv KeyI ci
  both : kv = .slice none 0 0 ∨ ∃ b, iv = .map (some b)

theorem sl_nil (w : World) : (binOp .eql 44 (.slice none 0 0) (.slice none 0 0)).run Tryz.prog w = .ok (.bool true) w := by kernel_rfl
theorem sl_some (g : Addr) (n cap : Nat) (w : World) : (binOp .eql 44 (.slice (some g) n cap) (.slice none 0 0)).run Tryz.prog w = .ok (.bool false) w := by kernel_rfl
theorem m45_nil (w : World) : (binOp .eql 45 (.map none) (.map none)).run Tryz.prog w = .ok (.bool true) w := by kernel_rfl
theorem m45_some (b : Nat) (w : World) : (binOp .eql 45 (.map (some b)) (.map none)).run Tryz.prog w = .ok (.bool false) w := by kernel_rfl
theorem m46_nil (w : World) : (binOp .eql 46 (.map none) (.map none)).run Tryz.prog w = .ok (.bool true) w := by kernel_rfl
theorem m46_some (b : Nat) (w : World) : (binOp .eql 46 (.map (some b)) (.map none)).run Tryz.prog w = .ok (.bool false) w := by kernel_rfl
theorem i_nn (w : World) : (binOp .eql 43 LNIL LNIL).run Tryz.prog w = .ok (.bool true) w := by kernel_rfl
theorem i_bn (b : Nat) (w : World) : (binOp .eql 43 (NUM b) LNIL).run Tryz.prog w = .ok (.bool false) w := by kernel_rfl
theorem j_nn (w : World) : (binOp .neq 43 LNIL LNIL).run Tryz.prog w = .ok (.bool false) w := by kernel_rfl
theorem j_bn (b : Nat) (w : World) : (binOp .neq 43 (NUM b) LNIL).run Tryz.prog w = .ok (.bool true) w := by kernel_rfl
attribute [local go_sem] sl_nil sl_some m45_nil m45_some m46_nil m46_some i_nn i_bn j_nn j_bn

section
variable {w : World} {T : Nat} {av dv sv kv iv : Value} {xs : List Value} {cd cs : Value → Option Value} {ks : List Value}

theorem owns_form {w : World} {B : Nat} {e : TypeId} {n : Nat} {v : Value} {xs : List Value} (h : w.ownsRow B e 1 v n xs) :
    (v = .slice none 0 0 ∧ n = 0) ∨ ∃ g cap, v = .slice (some ⟨g, 0, none⟩) n cap := by
  rcases h.2 with h | ⟨g, cap, cur, h, _⟩
  · exact Or.inl h
  · exact Or.inr ⟨g, cap, h⟩

theorem len_any (h : TabV w T av dv sv kv iv xs cd cs ks) (hx : xs.length ≤ 67108864) (hlast : ∀ x, xs.getLast? = some x → ∃ b, x = NUM b) : Calls Tryz.prog 21 #[.pointer (some ⟨T, 0, none⟩)] w fun e w' => e = .returned (.int .i64 xs.length) ∧ w = w' := by
  have f1 : w.cell? ⟨T, 1, none⟩ = some av := by rw [cell_of h.cells]; rfl
  rcases owns_form h.arr with ⟨rfl, h0⟩ | ⟨g, cap, rfl⟩
  · rw [h0]
    clear h
    go_enter Tryz.func21, Tryz.ntmps21
    go_wp2
    go_ret
    exact ⟨rfl, rfl⟩
  · rcases List.eq_nil_or_concat xs with rfl | ⟨ys, x, rfl⟩
    · clear h
      go_enter Tryz.func21, Tryz.ntmps21
      go_wp2_with fail
      refine wp_loop_rounds 1 ?_
      rw [rounds_succ]
      go_wp2
      go_ret
      exact ⟨rfl, rfl⟩
    · rw [List.concat_eq_append] at *
      obtain ⟨b, rfl⟩ := hlast x (by simp)
      clear hlast
      have hc : w.cell? ⟨g, ys.length, none⟩ = some (NUM b) := by
        rw [h.arr.cellAt ys.length (by simp)]; simp
      clear h
      simp only [List.length_append, List.length_singleton] at *
      generalize ys.length = n at *
      go_enter Tryz.func21, Tryz.ntmps21
      go_wp2_with fail
      refine wp_loop_rounds 1 ?_
      rw [rounds_succ]
      go_wp2
      go_ret
      exact ⟨rfl, rfl⟩
theorem maxn_any (h : TabV w T av dv sv kv iv xs cd cs ks) (hx : xs.length ≤ 67108864) (hlast : ∀ x, xs.getLast? = some x → ∃ b, x = NUM b) : Calls Tryz.prog 22 #[.pointer (some ⟨T, 0, none⟩)] w fun e w' => e = .returned (.int .i64 xs.length) ∧ w = w' := by
  have f1 : w.cell? ⟨T, 1, none⟩ = some av := by rw [cell_of h.cells]; rfl
  rcases owns_form h.arr with ⟨rfl, h0⟩ | ⟨g, cap, rfl⟩
  · rw [h0]
    clear h
    go_enter Tryz.func22, Tryz.ntmps22
    go_wp2
    go_ret
    exact ⟨rfl, rfl⟩
  · rcases List.eq_nil_or_concat xs with rfl | ⟨ys, x, rfl⟩
    · clear h
      go_enter Tryz.func22, Tryz.ntmps22
      go_wp2_with fail
      refine wp_loop_rounds 1 ?_
      rw [rounds_succ]
      go_wp2
      go_ret
      exact ⟨rfl, rfl⟩
    · rw [List.concat_eq_append] at *
      obtain ⟨b, rfl⟩ := hlast x (by simp)
      clear hlast
      have hc : w.cell? ⟨g, ys.length, none⟩ = some (NUM b) := by
        rw [h.arr.cellAt ys.length (by simp)]; simp
      clear h
      simp only [List.length_append, List.length_singleton] at *
      generalize ys.length = n at *
      go_enter Tryz.func22, Tryz.ntmps22
      go_wp2_with fail
      refine wp_loop_rounds 1 ?_
      rw [rounds_succ]
      go_wp2
      go_ret
      exact ⟨rfl, rfl⟩

/-- RawGetInt at an empty array part, whatever the key. -/
theorem rgint_empty (h : TabV w T av dv sv kv iv [] cd cs ks) (k : Int) : Calls Tryz.prog 25 #[.pointer (some ⟨T, 0, none⟩), .int .i64 k] w fun e w' => e = .returned LNIL ∧ w = w' := by
  have f1 : w.cell? ⟨T, 1, none⟩ = some av := by rw [cell_of h.cells]; rfl
  rcases owns_form h.arr with ⟨rfl, h0⟩ | ⟨g, cap, rfl⟩
  · clear h
    go_enter Tryz.func25, Tryz.ntmps25
    go_wp2
    go_ret
    exact ⟨rfl, rfl⟩
  · clear h
    by_cases h0 : 0 ≤ wrap64 (k - 1)
    · go_enter Tryz.func25, Tryz.ntmps25
      go_wp2
      go_ret
      exact ⟨rfl, rfl⟩
    · go_enter Tryz.func25, Tryz.ntmps25
      go_wp2
      go_ret
      exact ⟨rfl, rfl⟩

/-- RawGetInt within the array part. -/
theorem rgint_at (h : TabV w T av dv sv kv iv xs cd cs ks) (k : Nat) (v : Value) (hv : xs[k]? = some v) (hk : k < 67108864) : Calls Tryz.prog 25 #[.pointer (some ⟨T, 0, none⟩), .int .i64 ((k : Int) + 1)] w fun e w' => e = .returned v ∧ w = w' := by
  have f1 : w.cell? ⟨T, 1, none⟩ = some av := by rw [cell_of h.cells]; rfl
  have hlt := (List.getElem?_eq_some_iff.1 hv).1
  rcases owns_form h.arr with ⟨rfl, h0⟩ | ⟨g, cap, rfl⟩
  · omega
  · have hc : w.cell? ⟨g, k, none⟩ = some v := by rw [h.arr.cellAt k (by omega)]; exact hv
    clear h hv
    go_enter Tryz.func25, Tryz.ntmps25
    go_wp2
    go_ret
    exact ⟨rfl, rfl⟩

/-- RawGetString. -/
theorem rgstr_any (h : TabV w T av dv sv kv iv xs cd cs ks) (s : ByteArray) : Calls Tryz.prog 27 #[.pointer (some ⟨T, 0, none⟩), .string s] w fun e w' => e = .returned ((cs (.string s)).getD LNIL) ∧ w = w' := by
  have f1 : w.cell? ⟨T, 3, none⟩ = some sv := by rw [cell_of h.cells]; rfl
  rcases h.sd with ⟨rfl, rfl⟩ | ⟨b, rfl, hm⟩
  · clear h
    go_enter Tryz.func27, Tryz.ntmps27
    go_wp2
    go_ret
    exact ⟨rfl, rfl⟩
  · have hl := look46 hm s
    cases hcs : cs (.string s) with
    | none =>
      rw [hcs] at hl
      clear h hm hcs
      simp only [Option.getD_none, Option.isSome_none] at hl
      go_enter Tryz.func27, Tryz.ntmps27
      go_wp2
      go_ret
      exact ⟨rfl, rfl⟩
    | some v =>
      rw [hcs] at hl
      clear h hm hcs
      simp only [Option.getD_some, Option.isSome_some] at hl
      go_enter Tryz.func27, Tryz.ntmps27
      go_wp2
      go_ret
      exact ⟨rfl, rfl⟩
end

theorem assert_num (b : Nat) (w : World) : (Instr.typeAssert (NUM b) 43 55 true).run Tryz.prog w = .ok (.tuple #[.float .f64 b, .bool true]) w := by kernel_rfl
theorem assert_num_s (b : Nat) (w : World) : (Instr.typeAssert (NUM b) 43 65 true).run Tryz.prog w = .ok (.tuple #[.string ⟨#[]⟩, .bool false]) w := by kernel_rfl
attribute [local go_sem] assert_num assert_num_s

theorem asnum (b : Nat) (w : World) : Calls Tryz.prog 36 #[NUM b] w fun e w' => e = .returned (.float .f64 b) ∧ w = w' := by
  go_enter Tryz.func36, Tryz.ntmps36
  go_wp2
  go_ret
  exact ⟨rfl, rfl⟩

theorem type_num (b : Nat) (w : World) : Calls Tryz.prog 128 #[.float .f64 b] w fun e w' => e = .returned (.int .i64 2) ∧ w = w' := by
  go_enter Tryz.func128, Tryz.ntmps128
  go_wp2
  go_ret
  exact ⟨rfl, rfl⟩

theorem numis_yes (z : Int) (w : World) : Calls Tryz.prog 30 #[NUM (floatOfInt .f64 z), .int .i32 z] w fun e w' => e = .returned (.bool true) ∧ w = w' := by
  have hm := method_num
  have HA := Lib.hid (asnum (floatOfInt .f64 z) w)
  have HT := Lib.hid (type_num (floatOfInt .f64 z) w)
  have ho := FPlain.ofInt_self z
  go_enter Tryz.func30, Tryz.ntmps30
  go_wp2_with (first | (go_at_call 36; refine HA.out.mono ?_; rintro e w' ⟨rfl, rfl⟩) | (go_at_call 128; refine HT.out.mono ?_; rintro e w' ⟨rfl, rfl⟩))
  go_ret
  exact ⟨rfl, rfl⟩

theorem assert_str_n (s : ByteArray) (w : World) : (Instr.typeAssert (STR s) 43 55 true).run Tryz.prog w = .ok (.tuple #[.float .f64 0, .bool false]) w := by kernel_rfl

/-- What a whole number reads in the table. -/
noncomputable def getV (xs : List Value) (cd : Value → Option Value) (z : Int) : Value :=
  if 1 ≤ z ∧ z < 67108864 then (xs[(z - 1).toNat]?).getD LNIL else (cd (NUM (floatOfInt .f64 z))).getD LNIL

section
variable {w : World} {T : Nat} {av dv sv kv iv : Value} {xs : List Value} {cd cs : Value → Option Value} {ks : List Value}

theorem conv3 (b : Nat) (k : Int) (w : World) (h : floatToIntVal .f64 b .i64 = some k) : (convert 55 3 (.float .f64 b)).run Tryz.prog w = .ok (.int .i64 k) w :=
  run_convert_float_int (P := Tryz.prog) w 55 3 .f64 .i64 b k (by rw [Tryz.underlying55]; rfl) Tryz.underlying3 h

/-- RawGet at an empty table with no hash, whatever the number. -/
theorem rget_empty (h : TabV w T av (.map none) sv kv iv [] cd cs ks) (b : Nat) : Calls Tryz.prog 34 #[.pointer (some ⟨T, 0, none⟩), NUM b] w fun e w' => e = .returned LNIL ∧ SameW w w' := by
  have f1 : w.cell? ⟨T, 1, none⟩ = some av := by rw [cell_of h.cells]; rfl
  have f2 : w.cell? ⟨T, 2, none⟩ = some (.map none) := by rw [cell_of h.cells]; rfl
  have ha := owns_form h.arr
  have HK := Lib.hid (iskey_any b w)
  clear h
  rcases ha with ⟨rfl, h0⟩ | ⟨g, cap, rfl⟩
  · go_enter Tryz.func34, Tryz.ntmps34
    go_wp2_with fail
    refine HK.out.mono ?_
    rintro e w' ⟨r, rfl, hr, hs⟩
    have f1' : w'.cell? ⟨T, 1, none⟩ = some (.slice none 0 0) := by rw [← f1]; simp [World.cell?, hs.heap]
    have f2' : w'.cell? ⟨T, 2, none⟩ = some (.map none) := by rw [← f2]; simp [World.cell?, hs.heap]
    clear f1 f2
    cases r with
    | true =>
      clear hr
      go_wp2_with fail
      go_ret
      exact ⟨rfl, hs⟩
    | false =>
      clear hr
      go_wp2_with fail
      go_ret
      exact ⟨rfl, hs⟩
  · go_enter Tryz.func34, Tryz.ntmps34
    go_wp2_with fail
    refine HK.out.mono ?_
    rintro e w' ⟨r, rfl, hr, hs⟩
    have f1' : w'.cell? ⟨T, 1, none⟩ = some (.slice (some ⟨g, 0, none⟩) ([] : List Value).length cap) := by rw [← f1]; simp [World.cell?, hs.heap]
    have f2' : w'.cell? ⟨T, 2, none⟩ = some (.map none) := by rw [← f2]; simp [World.cell?, hs.heap]
    clear f1 f2
    cases r with
    | true =>
      obtain ⟨k, hk1, hk2, hk3⟩ := hr rfl
      have hc := conv3 b k w' hk3
      clear hr hk3
      go_wp2_with fail
      go_ret
      exact ⟨rfl, hs⟩
    | false =>
      clear hr
      go_wp2_with fail
      go_ret
      exact ⟨rfl, hs⟩

theorem rget_int (h : TabV w T av dv sv kv iv xs cd cs ks) (hx : xs.length ≤ 67108864) (z : Int) (hz1 : -9007199254740992 ≤ z) (hz2 : z ≤ 9007199254740992) :
    Calls Tryz.prog 34 #[.pointer (some ⟨T, 0, none⟩), NUM (floatOfInt .f64 z)] w fun e w' => e = .returned (getV xs cd z) ∧ w = w' := by
  have f1 : w.cell? ⟨T, 1, none⟩ = some av := by rw [cell_of h.cells]; rfl
  have f2 : w.cell? ⟨T, 2, none⟩ = some dv := by rw [cell_of h.cells]; rfl
  have HK := Lib.hid (iskey_int z hz1 hz2 w)
  have hc := conv3 _ z w (FPlain.toInt_ofInt z hz1 hz2)
  by_cases hz : 1 ≤ z ∧ z < 67108864
  · have hgv : getV xs cd z = (xs[(z - 1).toNat]?).getD LNIL := if_pos hz
    rw [hgv]
    have hd : decide (1 ≤ z ∧ z < 67108864) = true := decide_eq_true hz
    rw [hd] at HK
    clear hgv hd
    generalize floatOfInt .f64 z = b at *
    rcases owns_form h.arr with ⟨rfl, h0⟩ | ⟨g, cap, rfl⟩
    · have : xs = [] := List.eq_nil_of_length_eq_zero h0
      subst this
      clear h
      go_enter Tryz.func34, Tryz.ntmps34
      go_wp2_with (go_at_call 37; refine HK.out.mono ?_; rintro e w' ⟨rfl, rfl⟩)
      go_ret
      exact ⟨by simp, rfl⟩
    · obtain ⟨k, hk⟩ := Int.eq_ofNat_of_zero_le (show 0 ≤ z - 1 by omega)
      obtain rfl : z = k + 1 := by omega
      have e1 : ((k : Int) + 1 - 1).toNat = k := by omega
      rw [e1]
      have hw : wrap64 (k : Int) = k := by unfold wrap64; omega
      clear hk e1 hz hz1 hz2
      by_cases hkl : k < xs.length
      · have hcl : w.cell? ⟨g, k, none⟩ = some ((xs[k]?).getD LNIL) := by rw [h.arr.cellAt k (by omega), List.getElem?_eq_getElem hkl]; rfl
        clear h
        generalize (xs[k]?).getD LNIL = v at *
        generalize xs.length = n at *
        clear hx
        go_enter Tryz.func34, Tryz.ntmps34
        go_wp2_with (go_at_call 37; refine HK.out.mono ?_; rintro e w' ⟨rfl, rfl⟩)
        go_ret
        exact ⟨rfl, rfl⟩
      · rw [List.getElem?_eq_none (by omega)]
        clear h
        go_enter Tryz.func34, Tryz.ntmps34
        go_wp2_with (go_at_call 37; refine HK.out.mono ?_; rintro e w' ⟨rfl, rfl⟩)
        go_ret
        exact ⟨rfl, rfl⟩
  · have hgv : getV xs cd z = (cd (NUM (floatOfInt .f64 z))).getD LNIL := if_neg hz
    rw [hgv]
    have hd : decide (1 ≤ z ∧ z < 67108864) = false := decide_eq_false hz
    rw [hd] at HK
    rcases h.di with ⟨rfl, rfl⟩ | ⟨q, rfl, hm⟩
    · clear h hgv hd
      generalize floatOfInt .f64 z = b at *
      go_enter Tryz.func34, Tryz.ntmps34
      go_wp2_with (go_at_call 37; refine HK.out.mono ?_; rintro e w' ⟨rfl, rfl⟩)
      go_ret
      exact ⟨rfl, rfl⟩
    · have hl := look45 hm (NUM (floatOfInt .f64 z)) (Or.inr ⟨z, hz1, hz2, rfl⟩)
      clear h hgv hd hm
      cases hcs : cd (NUM (floatOfInt .f64 z)) with
      | none =>
        rw [hcs] at hl
        clear hcs
        simp only [Option.getD_none, Option.isSome_none] at hl
        generalize floatOfInt .f64 z = b at *
        go_enter Tryz.func34, Tryz.ntmps34
        go_wp2_with (go_at_call 37; refine HK.out.mono ?_; rintro e w' ⟨rfl, rfl⟩)
        go_ret
        exact ⟨rfl, rfl⟩
      | some v =>
        rw [hcs] at hl
        clear hcs
        simp only [Option.getD_some, Option.isSome_some] at hl
        generalize floatOfInt .f64 z = b at *
        go_enter Tryz.func34, Tryz.ntmps34
        go_wp2_with (go_at_call 37; refine HK.out.mono ?_; rintro e w' ⟨rfl, rfl⟩)
        go_ret
        exact ⟨rfl, rfl⟩

theorem getint_empty (h : TabV w T av (.map none) sv kv iv [] cd cs ks) (k : Int) : Calls Tryz.prog 26 #[.pointer (some ⟨T, 0, none⟩), .int .i64 k] w fun e w' => e = .returned LNIL ∧ SameW w w' := by
  have HG := Lib.hid (rget_empty h (floatOfInt .f64 k))
  clear h
  go_enter Tryz.func26, Tryz.ntmps26
  go_wp2_with fail
  refine HG.out.mono ?_
  rintro e w' ⟨rfl, hs⟩
  go_wp2_with fail
  go_ret
  exact ⟨rfl, hs⟩

theorem getint_int (h : TabV w T av dv sv kv iv xs cd cs ks) (hx : xs.length ≤ 67108864) (z : Int) (hz1 : -9007199254740992 ≤ z) (hz2 : z ≤ 9007199254740992) :
    Calls Tryz.prog 26 #[.pointer (some ⟨T, 0, none⟩), .int .i64 z] w fun e w' => e = .returned (getV xs cd z) ∧ w = w' := by
  have HG := Lib.hid (rget_int h hx z hz1 hz2)
  clear h
  go_enter Tryz.func26, Tryz.ntmps26
  go_wp2_with fail
  refine HG.out.mono ?_
  rintro e w' ⟨rfl, rfl⟩
  go_wp2_with fail
  go_ret
  exact ⟨rfl, rfl⟩
end
end Go.Proofs.YtbgolkdhcgjfkaaGreatDoor
