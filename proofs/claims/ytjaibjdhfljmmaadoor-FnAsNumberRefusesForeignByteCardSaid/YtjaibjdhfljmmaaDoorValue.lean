/-
  ParseInt and parseNumber where ParseUint answers a value that fits: that integer.
-/
import Derived.Test.YtjaibjdhfljmmaaDoorNumeral
import Derived.Test.YtjaibjdhfljmmaaDoorParse
namespace Go.Proofs.YtjaibjdhfljmmaaDoor
open Go.RowKit
set_option maxRecDepth 100000
set_option maxHeartbeats 1000000

theorem pi_ok_plain (t : ByteArray) (hne : 0 < t.size) (w : World) (a : Nat) (ha : a < 9223372036854775808) (h1 : ¬ t[0] = 43) (h2 : ¬ t[0] = 45)
    (hU : Calls Tryd.prog 33 #[.string t, .int .i64 0, .int .i64 64] w fun e w' => e = .returned (.tuple #[.int .u64 a, .nilIface]) ∧ Below w.heap.size w w') :
    Calls Tryd.prog 28 #[.string t, .int .i64 0, .int .i64 64] w fun e w' => e = .returned (.tuple #[.int .i64 a, .nilIface]) ∧ Below w.heap.size w w' := by
  have hemp := nonempty_of hne
  have q1 := beq_no t[0] 43 h1
  have q2 := beq_no t[0] 45 h2
  change (_ == (43 : Int)) = _ at q1
  change (_ == (45 : Int)) = _ at q2
  obtain ⟨z, hz⟩ : ∃ z : Int, (a : Int) = z := ⟨_, rfl⟩
  have z0 : 0 ≤ z := by omega
  have z1 : z < 9223372036854775808 := by omega
  rw [hz] at hU ⊢
  have HU := Lib.hid hU
  clear hU h1 h2 hz ha
  go_enter Tryd.func28, Tryd.ntmps28
  go_wp2_with fail
  refine HU.out.mono ?_
  rintro e w1 ⟨rfl, hb⟩
  have hb' := Lib.hid hb
  clear hb
  go_wp2_with fail
  go_ret2
  exact ⟨rfl, hb'.out⟩

theorem pi_ok_plus (t : ByteArray) (hne : 0 < t.size) (w : World) (a : Nat) (ha : a < 9223372036854775808) (h1 : t[0] = 43)
    (hU : Calls Tryd.prog 33 #[.string (t.extract 1 t.size), .int .i64 0, .int .i64 64] w fun e w' => e = .returned (.tuple #[.int .u64 a, .nilIface]) ∧ Below w.heap.size w w') :
    Calls Tryd.prog 28 #[.string t, .int .i64 0, .int .i64 64] w fun e w' => e = .returned (.tuple #[.int .i64 a, .nilIface]) ∧ Below w.heap.size w w' := by
  have hemp := nonempty_of hne
  have hsl := slice_one t hne
  have q1 : (((t[0]).toNat : Int) == 43) = true := by rw [h1]; rfl
  obtain ⟨z, hz⟩ : ∃ z : Int, (a : Int) = z := ⟨_, rfl⟩
  have z0 : 0 ≤ z := by omega
  have z1 : z < 9223372036854775808 := by omega
  rw [hz] at hU ⊢
  have HU := Lib.hid hU
  generalize t.extract 1 t.size = u at hsl HU
  clear hU h1 hz ha
  go_enter Tryd.func28, Tryd.ntmps28
  go_wp2_with fail
  refine HU.out.mono ?_
  rintro e w1 ⟨rfl, hb⟩
  have hb' := Lib.hid hb
  clear hb
  go_wp2_with fail
  go_ret2
  exact ⟨rfl, hb'.out⟩

theorem pi_ok_minus (t : ByteArray) (hne : 0 < t.size) (w : World) (a : Nat) (ha : a ≤ 9223372036854775808) (h1 : t[0] = 45)
    (hU : Calls Tryd.prog 33 #[.string (t.extract 1 t.size), .int .i64 0, .int .i64 64] w fun e w' => e = .returned (.tuple #[.int .u64 a, .nilIface]) ∧ Below w.heap.size w w') :
    Calls Tryd.prog 28 #[.string t, .int .i64 0, .int .i64 64] w fun e w' => e = .returned (.tuple #[.int .i64 (-a), .nilIface]) ∧ Below w.heap.size w w' := by
  have hemp := nonempty_of hne
  have hsl := slice_one t hne
  have q1 : (((t[0]).toNat : Int) == 43) = false := by rw [h1]; rfl
  have q2 : (((t[0]).toNat : Int) == 45) = true := by rw [h1]; rfl
  obtain ⟨z, hz⟩ : ∃ z : Int, (a : Int) = z := ⟨_, rfl⟩
  have z0 : 0 ≤ z := by omega
  have z1 : z ≤ 9223372036854775808 := by omega
  rw [hz] at hU ⊢
  have HU := Lib.hid hU
  generalize t.extract 1 t.size = u at hsl HU
  clear hU h1 hz ha
  by_cases he : z = 9223372036854775808
  · subst he
    go_enter Tryd.func28, Tryd.ntmps28
    go_wp2_with fail
    refine HU.out.mono ?_
    rintro e w1 ⟨rfl, hb⟩
    have hb' := Lib.hid hb
    clear hb
    go_wp2_with fail
    go_ret2
    exact ⟨by first | rfl | (simp only [hmin]; rfl), hb'.out⟩
  · have z2 : z < 9223372036854775808 := by omega
    clear he z1
    go_enter Tryd.func28, Tryd.ntmps28
    go_wp2_with fail
    refine HU.out.mono ?_
    rintro e w1 ⟨rfl, hb⟩
    have hb' := Lib.hid hb
    clear hb
    go_wp2_with fail
    go_ret2
    exact ⟨rfl, hb'.out⟩

theorem spi_ok (t : ByteArray) (w : World) (v : Int) (hI : Calls Tryd.prog 28 #[.string t, .int .i64 0, .int .i64 64] w fun e w' => e = .returned (.tuple #[.int .i64 v, .nilIface]) ∧ Below w.heap.size w w') :
    Calls Tryd.prog 23 #[.string t, .int .i64 0, .int .i64 64] w fun e w' => e = .returned (.tuple #[.int .i64 v, .nilIface]) ∧ Below w.heap.size w w' := by
  have HI := Lib.hid hI
  clear hI
  go_enter Tryd.func23, Tryd.ntmps23
  go_wp2_with fail
  refine HI.out.mono ?_
  rintro e w1 ⟨rfl, hb⟩
  have hb' := Lib.hid hb
  clear hb
  go_wp2_with fail
  go_ret2
  exact ⟨rfl, hb'.out⟩

theorem pn_ok (s : ByteArray) (w : World) (hmax : s.size ≤ 1073741824) (v : Int)
    (hI : ∀ (t : ByteArray) (W : World), Trimmed s.data.toList t.data.toList → Calls Tryd.prog 28 #[.string t, .int .i64 0, .int .i64 64] W fun e w' => e = .returned (.tuple #[.int .i64 v, .nilIface]) ∧ Below W.heap.size W w') :
    Calls Tryd.prog 20 #[.string s] w fun e w' => e = .returned (.tuple #[.float .f64 (floatOfInt .f64 v), .nilIface]) ∧ Below w.heap.size w w' := by
  have HT := Lib.hid (trim_any s w hmax)
  have hI' := Lib.hid hI
  clear hI hmax
  go_enter Tryd.func20, Tryd.ntmps20
  go_wp2_with fail
  refine HT.out.mono ?_
  rintro e w1 ⟨⟨t, rfl, ht⟩, hb1⟩
  have HI := Lib.hid (spi_ok t w1 v (hI'.out t w1 ht))
  have hb1' := Lib.hid hb1
  clear HT hb1 ht hI'
  go_wp2_with fail
  refine HI.out.mono ?_
  rintro e w2 ⟨rfl, hb2⟩
  have hb2' := Lib.hid (hb1'.out.trans (hb2.mono hb1'.out.size))
  clear HI hb2
  go_wp2_with fail
  go_ret2
  exact ⟨rfl, hb2'.out⟩
end Go.Proofs.YtjaibjdhfljmmaaDoor
