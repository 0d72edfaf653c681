/-
  bits.Len64, bits.Mul64, parseFloat64 and what they call: each returns; the values are left open.
-/
import Derived.Test.YtjaibjdhfljmmaaDoorParse
import Derived.Lib.Slices
import Derived.Lib.Small
import Derived.Lib.BitFns
import Derived.Laws.BitsAllLaws
namespace Go.Proofs.YtjaibjdhfljmmaaDoor
open Go.RowKit
set_option maxRecDepth 100000
set_option maxHeartbeats 4000000

theorem tab_size : Lib.len8tab.size = 256 := by decide +kernel
theorem tab_le : ∀ i : Fin 256, ((Lib.len8tab.data.toList.getD i.val 0).toNat) ≤ 8 := by decide +kernel
theorem tab_at (i : Nat) (h : i < Lib.len8tab.size) : ((Lib.len8tab[i]'h).toNat : Int) = ((Lib.len8tab.data.toList.getD i 0).toNat : Int) := by
  have h' : i < Lib.len8tab.data.toList.length := by rw [← Lib.size_eq]; exact h
  have : Lib.len8tab[i]'h = Lib.len8tab.data.toList[i] := rfl
  rw [this]
  simp [List.getD, List.getElem?_eq_getElem h']
theorem tab_f : ∃ f : Nat → Int, (∀ i (h : i < Lib.len8tab.size), ((Lib.len8tab[i]'h).toNat : Int) = f i) ∧ ∀ i, 0 ≤ f i ∧ f i ≤ 8 := by
  refine ⟨fun i => if i < 256 then ((Lib.len8tab.data.toList.getD i 0).toNat : Int) else 0, fun i h => ?_, fun i => ?_⟩
  · rw [tab_at i h]
    have : i < 256 := by rw [← tab_size]; exact h
    exact (if_pos this).symm
  · dsimp only
    split
    · rename_i h
      have := tab_le ⟨i, h⟩
      simp only at this
      omega
    · omega

theorem sum0 (v : Int) (h : 0 ≤ v ∧ v ≤ 8) : 0 ≤ wrap64 (wrap64 v) ∧ wrap64 (wrap64 v) ≤ 64 := by
  unfold wrap64
  omega
theorem sumk (k v : Int) (h : 0 ≤ v ∧ v ≤ 8) (hk : 0 ≤ k ∧ k ≤ 56) : 0 ≤ wrap64 (k + wrap64 v) ∧ wrap64 (k + wrap64 v) ≤ 64 := by
  unfold wrap64
  omega

def UpTo64 (e : Ending) : Prop := ∃ b : Nat, b ≤ 64 ∧ e = .returned (.int .i64 b)
theorem upto_mk {z : Int} (h : 0 ≤ z ∧ z ≤ 64) : UpTo64 (.returned (.int .i64 z)) := ⟨z.toNat, by omega, by rw [Int.toNat_of_nonneg h.1]⟩

theorem len64_any (x : Int) (w : World) (h0 : 0 ≤ x) (h1 : x ≤ 18446744073709551615) :
    Calls Tryd.prog 64 #[.int .u64 x] w fun e w' => UpTo64 e ∧ w = w' := by
  obtain ⟨f, hf, hb⟩ := tab_f
  have hsz : (Lib.len8tab.size : Int) = 256 := by rw [tab_size]; rfl
  have hb' := Lib.hid hb
  clear hb
  go_enter Tryd.func64, Tryd.ntmps64
  go_wp2
  all_goals
    go_ret
    refine ⟨?_, rfl⟩
    first | exact upto_mk (sum0 _ (hb'.out _)) | exact upto_mk (sumk _ _ (hb'.out _) (by decide)) | trace_state

def TwoU (e : Ending) : Prop := ∃ a b : Int, e = .returned (.tuple #[.int .u64 a, .int .u64 b])
def OneU (e : Ending) : Prop := ∃ a : Int, e = .returned (.int .u64 a)
def OneI (e : Ending) : Prop := ∃ a : Int, e = .returned (.int .i64 a)

theorem mul64 (x y : Int) (w : World) : Calls Tryd.prog 79 #[.int .u64 x, .int .u64 y] w fun e w' => TwoU e ∧ w = w' := by
  go_enter Tryd.func79, Tryd.ntmps79
  go_wp2
  go_ret2
  exact ⟨⟨_, _, rfl⟩, rfl⟩

theorem log2pow (x : Int) (w : World) : Calls Tryd.prog 65 #[.int .i64 x] w fun e w' => OneI e ∧ w = w' := by
  go_enter Tryd.func65, Tryd.ntmps65
  go_wp2
  go_ret
  exact ⟨⟨_, rfl⟩, rfl⟩

theorem b2i (b : Bool) (w : World) : Calls Tryd.prog 68 #[.bool b] w fun e w' => e = .returned (.int .i64 (if b then 1 else 0)) ∧ w = w' := by
  cases b with
  | true =>
    go_enter Tryd.func68, Tryd.ntmps68
    go_wp2
    go_ret
    exact ⟨rfl, rfl⟩
  | false =>
    go_enter Tryd.func68, Tryd.ntmps68
    go_wp2
    go_ret
    exact ⟨rfl, rfl⟩

theorem b2u (b : Bool) (w : World) : Calls Tryd.prog 56 #[.bool b] w fun e w' => e = .returned (.int .u64 (if b then 1 else 0)) ∧ w = w' := by
  cases b with
  | true =>
    go_enter Tryd.func56, Tryd.ntmps56
    go_wp2
    go_ret
    exact ⟨rfl, rfl⟩
  | false =>
    go_enter Tryd.func56, Tryd.ntmps56
    go_wp2
    go_ret
    exact ⟨rfl, rfl⟩

theorem unmin (x : Int) (w : World) : Calls Tryd.prog 69 #[.int .u64 x] w fun e w' => OneU e ∧ w = w' := by
  go_enter Tryd.func69, Tryd.ntmps69
  go_wp2
  go_ret
  exact ⟨⟨_, rfl⟩, rfl⟩

theorem uround (x : Int) (w : World) : Calls Tryd.prog 71 #[.int .u64 x] w fun e w' => OneU e ∧ w = w' := by
  go_enter Tryd.func71, Tryd.ntmps71
  go_wp2
  go_ret
  exact ⟨⟨_, rfl⟩, rfl⟩

/-- A float, and nil or ErrRange. -/
def FloatEr (e : Ending) : Prop := ∃ (f : Nat) (er : Value), e = .returned (.tuple #[.float .f64 f, er]) ∧ (er = .nilIface ∨ er = .iface 70 (.int .i64 1))

theorem fb57' (n : Int) (w : World) : (callFunc 57 #[.int .u64 n]).run Tryd.prog w = .ok (.value (.float .f64 n.toNat)) w := fb57 n w
attribute [local go_sem] fb57'

theorem pack64 (x y : Int) (w : World) : Calls Tryd.prog 74 #[.int .u64 x, .int .i64 y] w fun e w' => FloatEr e ∧ w = w' := by
  go_enter Tryd.func74, Tryd.ntmps74
  go_wp2
  all_goals (go_ret2; first | exact ⟨⟨_, _, rfl, Or.inl rfl⟩, rfl⟩ | exact ⟨⟨_, _, rfl, Or.inr rfl⟩, rfl⟩)
end Go.Proofs.YtjaibjdhfljmmaaDoor
