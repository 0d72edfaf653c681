/-
  atof64exact: it returns a float and a bool; the values are left open.
-/
import Derived.Test.YtjaibjdhfljmmaaDoorDigits
import Derived.Test.YtjaibjdhfljmmaaDoorSane
namespace Go.Proofs.YtjaibjdhfljmmaaDoor
open Go.RowKit
set_option maxRecDepth 100000
set_option maxHeartbeats 4000000

/-- The exact powers of ten, a slice of 23 floats; the layout of float64. -/
structure Exact (w : World) : Prop where
  bits : w.cell? ⟨5, 0, none⟩ = some (.int .u64 52)
  tab : ∃ (G o c : Nat), w.cell? ⟨8, 0, none⟩ = some (.slice (some ⟨G, o, none⟩) 23 c) ∧ ∀ i, i < 23 → ∃ f : Nat, w.cell? ⟨G, o + i, none⟩ = some (.float .f64 f) ∧ Num1 f

def FloatB (e : Ending) : Prop := ∃ (f : Nat) (b : Bool), e = .returned (.tuple #[.float .f64 f, .bool b])

theorem exact_any (m p : Int) (ng : Bool) (w : World) (hE : Exact w) :
    Calls Tryd.prog 58 #[.int .u64 m, .int .i64 p, .bool ng] w fun e w' => FloatB e ∧ w = w' := by
  have c5 := hE.bits
  obtain ⟨G, o, c, c8, hf⟩ := hE.tab
  have hf' := Lib.hid hf
  clear hf hE
  have s0 := ofInt_sane m
  have s1 := neg_sane _ s0
  by_cases hp0 : p = 0
  · subst hp0
    cases ng
    all_goals
      go_enter Tryd.func58, Tryd.ntmps58
      go_wp2
      all_goals (go_ret2; exact ⟨⟨_, _, rfl⟩, rfl⟩)
  have e0 : (p == 0) = false := by simpa using hp0
  by_cases hpos : 0 < p
  · by_cases h37 : p ≤ 37
    · by_cases h22 : 22 < p
      · obtain ⟨k, hk, rfl⟩ : ∃ k : Nat, k < 16 ∧ p = (k : Int) + 22 := ⟨(p - 22).toNat, by omega, by omega⟩
        obtain ⟨f1, hf1, hn1⟩ := hf'.out k (by omega)
        obtain ⟨f2, hf2, hn2⟩ := hf'.out 22 (by omega)
        have s2 := choose_mul_sane _ _ s0 hn1
        have s3 := choose_mul_sane _ _ s1 hn1
        clear hp0
        cases ng
        all_goals
          go_enter Tryd.func58, Tryd.ntmps58
          go_wp2
          all_goals (go_ret2; exact ⟨⟨_, _, rfl⟩, rfl⟩)
      · obtain ⟨k, hk, rfl⟩ : ∃ k : Nat, k < 23 ∧ p = (k : Int) := ⟨p.toNat, by omega, by omega⟩
        obtain ⟨f1, hf1, hn1⟩ := hf'.out k (by omega)
        clear hp0
        cases ng
        all_goals
          go_enter Tryd.func58, Tryd.ntmps58
          go_wp2
          all_goals (go_ret2; exact ⟨⟨_, _, rfl⟩, rfl⟩)
    · have h37' : ¬ p ≤ 37 := h37
      have hneg : ¬ p < 0 := by omega
      clear hp0 h37
      cases ng
      all_goals
        go_enter Tryd.func58, Tryd.ntmps58
        go_wp2
        all_goals (go_ret2; exact ⟨⟨_, _, rfl⟩, rfl⟩)
  · have hneg : p < 0 := by omega
    by_cases h22 : -22 ≤ p
    · obtain ⟨k, hk, rfl⟩ : ∃ k : Nat, k < 23 ∧ p = -(k : Int) := ⟨(-p).toNat, by omega, by omega⟩
      obtain ⟨f1, hf1, hn1⟩ := hf'.out k (by omega)
      clear hp0
      cases ng
      all_goals
        go_enter Tryd.func58, Tryd.ntmps58
        go_wp2
        all_goals (go_ret2; exact ⟨⟨_, _, rfl⟩, rfl⟩)
    · clear hp0
      cases ng
      all_goals
        go_enter Tryd.func58, Tryd.ntmps58
        go_wp2
        all_goals (go_ret2; exact ⟨⟨_, _, rfl⟩, rfl⟩)
end Go.Proofs.YtjaibjdhfljmmaaDoor
