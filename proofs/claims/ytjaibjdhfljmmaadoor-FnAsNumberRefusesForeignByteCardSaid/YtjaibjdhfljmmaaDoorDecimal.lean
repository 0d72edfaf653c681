/-
  parseNumber at blanks, an optional sign, one to eighteen digits, blanks: that integer.
-/
import Derived.Test.YtjaibjdhfljmmaaDoorValue
namespace Go.Proofs.YtjaibjdhfljmmaaDoor
open Go.RowKit
set_option maxRecDepth 100000
set_option maxHeartbeats 1000000

theorem val_lt (l : List UInt8) (h : ∀ x ∈ l, Dec x) : val 10 l < 10 ^ l.length := by
  have key : ∀ (r : List UInt8) (x n : Nat), (∀ c ∈ r, Dec c) → x < 10 ^ n → r.foldl (fun a c => a * 10 + dv c) x < 10 ^ (n + r.length) := by
    intro r
    induction r with
    | nil => intro x n _ hx; simpa using hx
    | cons c r ih =>
      intro x n hr hx
      rw [List.foldl_cons]
      have hc := hr c (by simp)
      have hdv : dv c ≤ 9 := by unfold dv; rw [if_pos hc.2]; have := hc.1; have := hc.2; omega
      have := ih (x * 10 + dv c) (n + 1) (fun y hy => hr y (by simp [hy])) (by rw [Nat.pow_succ]; omega)
      rw [List.length_cons, show n + (r.length + 1) = n + 1 + r.length by omega]
      exact this
  have := key l 0 0 h (by decide)
  simpa [val] using this

theorem ws_dec {x : UInt8} (h : Dec x) : ws x = false := by
  rw [ws_nat]
  have := h.1
  have := h.2
  simp
  omega

/-- ParseUint at a run of digits: none or one zero ahead. -/
theorem pu_run (u : ByteArray) (D : List UInt8) (hu : u.data.toList = D) (hD : ∀ x ∈ D, Dec x) (h1 : 1 ≤ D.length) (h19 : val 10 D < 18446744073709551616) (hmax : u.size ≤ 1073741824) (h0 : D = [48] ∨ ¬ D.head? = some 48) (w : World) :
    Calls Tryd.prog 33 #[.string u, .int .i64 0, .int .i64 64] w fun e w' => e = .returned (.tuple #[.int .u64 (val 10 D), .nilIface]) ∧ Below w.heap.size w w' := by
  rcases h0 with h0 | h0
  · have : u = ⟨#[48]⟩ := by
      obtain ⟨⟨l⟩⟩ := u
      have hu : l = D := hu
      rw [hu, h0]
    rw [this, h0]
    exact pu_zero w
  · have hsz : u.size = D.length := by rw [Lib.size_eq, hu]
    subst hu
    refine pu_dec u (by omega) hmax ?_ hD h19 w
    intro e
    apply h0
    have : u.data.toList[0]'(by omega) = 48 := e
    rw [List.head?_eq_getElem?, List.getElem?_eq_getElem (by omega), this]

/-- ParseInt at a sign and a run of digits. -/
theorem pi_run (t : ByteArray) (sg D : List UInt8) (ht : t.data.toList = sg ++ D) (hsg : sg = [] ∨ sg = [43] ∨ sg = [45]) (hD : ∀ x ∈ D, Dec x) (h1 : 1 ≤ D.length) (hv : val 10 D < 9223372036854775808 ∨ (sg = [45] ∧ val 10 D ≤ 9223372036854775808)) (hmax : t.size ≤ 1073741824) (h0 : D = [48] ∨ ¬ D.head? = some 48) (w : World) :
    Calls Tryd.prog 28 #[.string t, .int .i64 0, .int .i64 64] w fun e w' => e = .returned (.tuple #[.int .i64 (if sg = [45] then -(val 10 D : Int) else val 10 D), .nilIface]) ∧ Below w.heap.size w w' := by
  have hsz : t.size = sg.length + D.length := by rw [Lib.size_eq, ht, List.length_append]
  have hne : 0 < t.size := by omega
  have hget : t[0] = (sg ++ D)[0]'(by rw [List.length_append]; omega) := by
    have : t[0] = t.data.toList[0]'(by rw [← Lib.size_eq]; omega) := rfl
    rw [this]
    congr 1
  have hex : (t.extract 1 t.size).data.toList = (sg ++ D).drop 1 := by rw [Lib.extract_data, List.take_of_length_le (by simp), ht]
  have hexz : (t.extract 1 t.size).size = t.size - 1 := by rw [Lib.size_eq, hex, List.length_drop, List.length_append, hsz]
  rcases hsg with rfl | rfl | rfl
  · rw [if_neg (by decide)]
    have hv' : val 10 D < 9223372036854775808 := by rcases hv with h | ⟨h, _⟩; exact h; cases h
    have hd0 : Dec t[0] := by rw [hget]; exact hD _ (by simp)
    refine pi_ok_plain t hne w _ hv' ?_ ?_ (pu_run t D ht hD h1 (by omega) hmax h0 w)
    · intro e; rw [e] at hd0; exact absurd hd0.1 (by decide)
    · intro e; rw [e] at hd0; exact absurd hd0.1 (by decide)
  · rw [if_neg (by decide)]
    have hv' : val 10 D < 9223372036854775808 := by rcases hv with h | ⟨h, _⟩; exact h; cases h
    exact pi_ok_plus t hne w _ hv' (by rw [hget]; rfl) (pu_run _ D (by rw [hex]; rfl) hD h1 (by omega) (by omega) h0 w)
  · rw [if_pos rfl]
    have hv' : val 10 D ≤ 9223372036854775808 := by rcases hv with h | ⟨_, h⟩ <;> omega
    exact pi_ok_minus t hne w _ hv' (by rw [hget]; rfl) (pu_run _ D (by rw [hex]; rfl) hD h1 (by omega) (by omega) h0 w)

theorem pn_run (s : ByteArray) (w : World) (hmax : s.size ≤ 1073741824) (a b sg D : List UInt8) (hs : s.data.toList = a ++ ((sg ++ D) ++ b)) (ha : ∀ x ∈ a, ws x = true) (hb : ∀ x ∈ b, ws x = true)
    (hsg : sg = [] ∨ sg = [43] ∨ sg = [45]) (hD : ∀ x ∈ D, Dec x) (h1 : 1 ≤ D.length) (hv : val 10 D < 9223372036854775808 ∨ (sg = [45] ∧ val 10 D ≤ 9223372036854775808)) (h0 : D = [48] ∨ ¬ D.head? = some 48) :
    Calls Tryd.prog 20 #[.string s] w fun e w' => e = .returned (.tuple #[.float .f64 (floatOfInt .f64 (if sg = [45] then -(val 10 D : Int) else val 10 D)), .nilIface]) ∧ Below w.heap.size w w' := by
  refine pn_ok s w hmax _ (fun t W ht => ?_)
  have hne : sg ++ D ≠ [] := by intro e; have := (List.append_eq_nil_iff.1 e).2; rw [this] at h1; simp at h1
  have hte : t.data.toList = sg ++ D := ht.exact hs ha hb hne (fun x hx => by
      rcases hsg with rfl | rfl | rfl
      · cases D with
        | nil => simp at hx
        | cons y D => simp at hx; subst hx; exact ws_dec (hD _ (by simp))
      · simp at hx; subst hx; decide
      · simp at hx; subst hx; decide) (fun x hx => by
      rw [List.getLast?_append] at hx
      cases hg : D.getLast? with
      | none =>
        rw [List.getLast?_eq_none_iff] at hg
        rw [hg] at h1
        simp at h1
      | some y =>
        rw [hg] at hx
        cases hx
        exact ws_dec (hD _ (List.mem_of_getLast? hg)))
  exact pi_run t sg D hte hsg hD h1 hv (by have := ht.length; rw [Lib.size_eq] at *; omega) h0 W
end Go.Proofs.YtjaibjdhfljmmaaDoor
