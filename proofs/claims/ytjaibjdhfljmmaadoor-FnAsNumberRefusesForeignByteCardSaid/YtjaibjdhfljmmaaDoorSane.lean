/-
  Plain facts on float64 over Ieee: a word that is no NaN; it stays so under negation, under '*' and '/' by a nonzero number; no program in sight.
-/
import Derived.Laws.FloatArith
namespace Go.Proofs.YtjaibjdhfljmmaaDoor
open Go Ieee
set_option maxRecDepth 100000

/-- No NaN. -/
def Sane (w : Nat) : Prop := w % FloatKind.f64.format.signWeight ≤ FloatKind.f64.format.infRung

/-- A nonzero finite number. -/
def Num1 (w : Nat) : Prop := ∃ s m e, FloatKind.f64.format.read w = .number s m e ∧ m ≠ 0

theorem word_sane (ng : Bool) (r : Nat) (h : r ≤ FloatKind.f64.format.infRung) : Sane (FloatKind.f64.format.word ng r) := by
  have hlt := FloatKind.f64.format.infRung_lt
  unfold Sane Format.word
  split
  · have : (FloatKind.f64.format.signWeight + r) % FloatKind.f64.format.signWeight = r := by
      rw [Nat.add_mod_left]; exact Nat.mod_eq_of_lt (by omega)
    first | (rw [this]; exact h) | (rw [Nat.add_comm, this]; exact h)
  · rw [Nat.mod_eq_of_lt (by omega)]; exact h

theorem nearest_sane (ng : Bool) (m : Nat) (e : Int) : Sane (FloatKind.f64.format.nearest ng m e) := by
  unfold Format.nearest
  dsimp only
  split
  · exact word_sane ng 0 (Nat.zero_le _)
  · exact word_sane ng _ (Nat.min_le_right ..)

theorem read_sane (w : Nat) (h : Sane w) : (∃ s m e, FloatKind.f64.format.read w = .number s m e) ∨ ∃ s, FloatKind.f64.format.read w = .infinity s := by
  unfold Sane at h
  unfold Format.read
  dsimp only
  split
  · exact .inl ⟨_, _, _, rfl⟩
  · split
    · exact .inl ⟨_, _, _, rfl⟩
    · split
      · exact .inr ⟨_, rfl⟩
      · omega

theorem ofInt_sane (n : Int) : Sane (floatOfInt .f64 n) := by
  have hf : floatOfInt .f64 n = FloatKind.f64.format.nearest (decide (n < 0)) n.natAbs 0 := rfl
  rw [hf]
  exact nearest_sane _ _ _

theorem neg_sane (w : Nat) (h : Sane w) : Sane (Op.negFloat .f64 w) := by
  unfold Sane at *
  have hs : FloatKind.f64.format.signWeight = 2 ^ 63 := rfl
  have hn : Op.negFloat .f64 w = w ^^^ 2 ^ 63 := rfl
  rw [hs] at *
  rw [hn, Nat.xor_mod_two_pow, Nat.mod_self, Nat.xor_zero]
  exact h

theorem mul_sane (x y : Nat) (hx : Sane x) (hy : Num1 y) : ∃ r, floatBits .mul .f64 x y = some r ∧ Sane r := by
  obtain ⟨s, m, e, h, hm⟩ := hy
  obtain ⟨s', m', e', h'⟩ | ⟨s', h'⟩ := read_sane x hx
  · refine ⟨_, ?_, nearest_sane (s' ^^ s) (m' * m) (e' + e)⟩
    unfold floatBits Format.mul
    rw [h', h]
    rfl
  · refine ⟨_, ?_, word_sane (s' ^^ s) _ (Nat.le_refl _)⟩
    unfold floatBits Format.mul
    rw [h', h]
    simp [Datum.product, hm, Format.write]

theorem quo_sane (x y : Nat) (hx : Sane x) (hy : Num1 y) : ∃ r, floatBits .quo .f64 x y = some r ∧ Sane r := by
  obtain ⟨s, m, e, h, hm⟩ := hy
  obtain ⟨s', m', e', h'⟩ | ⟨s', h'⟩ := read_sane x hx
  · have : FloatKind.f64.format.div x y = some (FloatKind.f64.format.div x y |>.getD 0) := by
      unfold Format.div
      rw [h', h]
      simp [Datum.quotient, hm]
    refine ⟨_, this, ?_⟩
    unfold Format.div
    rw [h', h]
    simp only [Datum.quotient, hm, if_false, Option.map_some, Option.getD_some, Format.write]
    exact nearest_sane _ _ _
  · refine ⟨_, ?_, word_sane (s' ^^ s) _ (Nat.le_refl _)⟩
    unfold floatBits Format.div
    rw [h', h]
    simp [Datum.quotient, Format.write]

section
variable {P : Program} (w : World)
@[go_sem] theorem run_mul_num1 (t : TypeId) (x y : Nat) (hx : Sane x) (hy : Num1 y) : (binOp .mul t (.float .f64 x) (.float .f64 y)).run P w = .ok (.float .f64 (Classical.choose (mul_sane x y hx hy))) w :=
  run_float_arith w .mul t .f64 x y _ (Classical.choose_spec (mul_sane x y hx hy)).1
@[go_sem] theorem run_quo_num1 (t : TypeId) (x y : Nat) (hx : Sane x) (hy : Num1 y) : (binOp .quo t (.float .f64 x) (.float .f64 y)).run P w = .ok (.float .f64 (Classical.choose (quo_sane x y hx hy))) w :=
  run_float_arith w .quo t .f64 x y _ (Classical.choose_spec (quo_sane x y hx hy)).1
theorem choose_mul_sane (x y : Nat) (hx : Sane x) (hy : Num1 y) : Sane (Classical.choose (mul_sane x y hx hy)) := (Classical.choose_spec (mul_sane x y hx hy)).2
@[go_sem] theorem run_unary_neg_f64 (x : Nat) : (Op.unary .neg (.float .f64 x)).run P w = .ok (.float .f64 (Op.negFloat .f64 x)) w := by simp [Op.unary]
end
end Go.Proofs.YtjaibjdhfljmmaaDoor
