/-
  internal/strconv.ParseInt and strconv.ParseInt at base 0, 64 bits, out of what ParseUint answers behind the sign.
-/
import Derived.Test.YtjaibjdhfljmmaaDoorUint
namespace Go.Proofs.YtjaibjdhfljmmaaDoor
open Go.RowKit
set_option maxRecDepth 100000
set_option maxHeartbeats 1000000

theorem pu_empty (w : World) : Calls Tryd.prog 33 #[.string ⟨#[]⟩, .int .i64 0, .int .i64 64] w fun e w' => e = .returned (.tuple #[.int .u64 0, .iface 70 (.int .i64 2)]) ∧ w = w' := by
  go_enter Tryd.func33, Tryd.ntmps33
  go_wp2
  go_ret2
  exact ⟨rfl, rfl⟩

theorem pi_empty (w : World) : Calls Tryd.prog 28 #[.string ⟨#[]⟩, .int .i64 0, .int .i64 64] w fun e w' => e = .returned (.tuple #[.int .i64 0, .iface 70 (.int .i64 2)]) ∧ w = w' := by
  go_enter Tryd.func28, Tryd.ntmps28
  go_wp2
  go_ret2
  exact ⟨rfl, rfl⟩

def PuErr (e : Ending) : Prop := e = .returned (.tuple #[.int .u64 18446744073709551615, .iface 70 (.int .i64 1)]) ∨ e = .returned (.tuple #[.int .u64 0, .iface 70 (.int .i64 2)])
def PiErr (e : Ending) : Prop := ∃ z k : Int, (k = 1 ∨ k = 2) ∧ e = .returned (.tuple #[.int .i64 z, .iface 70 (.int .i64 k)])

section
variable (t : ByteArray) (hne : 0 < t.size) (w : World)

theorem neq_nil (k : Int) (w : World) : (binOp .neq 37 (.iface 70 (.int .i64 k)) .nilIface).run Tryd.prog w = .ok (.bool true) w := by kernel_rfl
theorem neq_21 (w : World) : (binOp .neq 37 (.iface 70 (.int .i64 2)) (.iface 70 (.int .i64 1))).run Tryd.prog w = .ok (.bool true) w := by kernel_rfl
theorem neq_11 (w : World) : (binOp .neq 37 (.iface 70 (.int .i64 1)) (.iface 70 (.int .i64 1))).run Tryd.prog w = .ok (.bool false) w := by kernel_rfl
attribute [local go_sem] neq_nil neq_21 neq_11
theorem hmin : wrap64 (-wrap64 9223372036854775808) = -9223372036854775808 := by
  unfold wrap64
  omega

theorem slice_one (hne : 0 < t.size) (W : World) : (Instr.slice 9 (.string t) (some (.int .i64 1)) none none).run Tryd.prog W = .ok (.string (t.extract 1 t.size)) W := by
  rw [run_slice_string_from_if W 9 t .i64 _ Tryd.underlying9, if_pos ⟨by omega, by omega⟩]
  rfl

theorem pi_err_plain (h1 : ¬ t[0] = 43) (h2 : ¬ t[0] = 45) (hU : Calls Tryd.prog 33 #[.string t, .int .i64 0, .int .i64 64] w fun e w' => PuErr e ∧ Below w.heap.size w w') :
    Calls Tryd.prog 28 #[.string t, .int .i64 0, .int .i64 64] w fun e w' => PiErr e ∧ Below w.heap.size w w' := by
  have hemp := nonempty_of hne
  have q1 : (((t[0]).toNat : Int) == 43) = false := by
    rw [beq_eq_false_iff_ne]
    intro e
    exact h1 (by rw [← UInt8.toNat_inj]; exact (by omega : t[0].toNat = 43))
  have q2 : (((t[0]).toNat : Int) == 45) = false := by
    rw [beq_eq_false_iff_ne]
    intro e
    exact h2 (by rw [← UInt8.toNat_inj]; exact (by omega : t[0].toNat = 45))
  have HU := Lib.hid hU
  clear hU h1 h2
  go_enter Tryd.func28, Tryd.ntmps28
  go_wp2_with fail
  refine HU.out.mono ?_
  rintro e w1 ⟨he, hb⟩
  have hb' := Lib.hid hb
  clear hb
  rcases he with rfl | rfl
  · go_wp2_with fail
    go_ret2
    exact ⟨⟨_, _, Or.inl rfl, rfl⟩, hb'.out⟩
  · go_wp2_with fail
    go_ret2
    exact ⟨⟨_, _, Or.inr rfl, rfl⟩, hb'.out⟩

theorem pi_err_sign (h1 : t[0] = 43 ∨ t[0] = 45) (hU : Calls Tryd.prog 33 #[.string (t.extract 1 t.size), .int .i64 0, .int .i64 64] w fun e w' => PuErr e ∧ Below w.heap.size w w') :
    Calls Tryd.prog 28 #[.string t, .int .i64 0, .int .i64 64] w fun e w' => PiErr e ∧ Below w.heap.size w w' := by
  have hemp := nonempty_of hne
  have hsl := slice_one t hne
  have HU := Lib.hid hU
  clear hU
  generalize t.extract 1 t.size = u at hsl HU
  rcases h1 with h1 | h1
  · have q1 : (((t[0]).toNat : Int) == 43) = true := by rw [h1]; rfl
    clear h1
    go_enter Tryd.func28, Tryd.ntmps28
    go_wp2_with fail
    refine HU.out.mono ?_
    rintro e w1 ⟨he, hb⟩
    have hb' := Lib.hid hb
    clear hb
    rcases he with rfl | rfl
    · go_wp2_with fail
      go_ret2
      exact ⟨⟨_, _, Or.inl rfl, rfl⟩, hb'.out⟩
    · go_wp2_with fail
      go_ret2
      exact ⟨⟨_, _, Or.inr rfl, rfl⟩, hb'.out⟩
  · have q1 : (((t[0]).toNat : Int) == 43) = false := by rw [h1]; rfl
    have q2 : (((t[0]).toNat : Int) == 45) = true := by rw [h1]; rfl
    clear h1
    go_enter Tryd.func28, Tryd.ntmps28
    go_wp2_with fail
    refine HU.out.mono ?_
    rintro e w1 ⟨he, hb⟩
    have hb' := Lib.hid hb
    clear hb
    rcases he with rfl | rfl
    · go_wp2_with fail
      go_ret2
      exact ⟨⟨_, _, Or.inl rfl, rfl⟩, hb'.out⟩
    · go_wp2_with fail
      go_ret2
      exact ⟨⟨_, _, Or.inr rfl, rfl⟩, hb'.out⟩
end

/-- strconv.ParseInt where the inner one fails: an error that is not nil. -/
theorem spi_err (t : ByteArray) (w : World) (hmax : t.size ≤ 1073741824) (hv : Errs w) (hI : Calls Tryd.prog 28 #[.string t, .int .i64 0, .int .i64 64] w fun e w' => PiErr e ∧ Below w.heap.size w w') :
    Calls Tryd.prog 23 #[.string t, .int .i64 0, .int .i64 64] w fun e w' => (∃ z N, e = .returned (.tuple #[.int .i64 z, .iface 74 (.pointer (some ⟨N, 0, none⟩))])) ∧ Below w.heap.size w w' := by
  have HI := Lib.hid hI
  have hv' := Lib.hid hv
  have HT := Lib.hid (fun (W : World) (k : Int) (hk : k = 1 ∨ k = 2) (h : Errs W) => to_error ⟨#[80, 97, 114, 115, 101, 73, 110, 116]⟩ t 0 64 k W hk (by omega) h)
  have hn := neq_nil
  clear hI hv
  go_enter Tryd.func23, Tryd.ntmps23
  go_wp2_with fail
  refine HI.out.mono ?_
  rintro e w1 ⟨⟨z, k, hk, rfl⟩, hb⟩
  have HT' := Lib.hid (HT.out w1 k hk (hv'.out.below hb))
  have hb' := Lib.hid hb
  clear hk hb HT
  go_wp2_with fail
  refine HT'.out.mono ?_
  rintro e w2 ⟨⟨N, rfl⟩, hb2⟩
  have hb2' := Lib.hid (hb'.out.trans (hb2.mono hb'.out.size))
  clear hb2
  go_wp2_with fail
  go_ret2
  exact ⟨⟨z, N, rfl⟩, hb2'.out⟩
end Go.Proofs.YtjaibjdhfljmmaaDoor
