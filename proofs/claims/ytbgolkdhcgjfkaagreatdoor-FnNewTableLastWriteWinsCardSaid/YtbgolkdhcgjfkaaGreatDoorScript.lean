/-
  The plain law of a script of writes: what each key reads, how long the array part is, that its last element is a number.
-/
import Derived.Test.YtbgolkdhcgjfkaaGreatDoorSetHash
namespace Go.Proofs.YtbgolkdhcgjfkaaGreatDoor
open Go.RowKit
set_option maxRecDepth 100000
set_option maxHeartbeats 400000
abbrev NZ (z : Int) : Value := NUM (floatOfInt .f64 z)

/-- The last value written at k. -/
def lastI : List (Int × Int) → Int → Option Int
  | [], _ => none
  | p :: ps, k => match lastI ps k with
    | some v => some v
    | none => if p.1 = k then some p.2 else none

theorem lastI_snoc (ps : List (Int × Int)) (p : Int × Int) (k : Int) : lastI (ps ++ [p]) k = if p.1 = k then some p.2 else lastI ps k := by
  induction ps with
  | nil => simp [lastI]
  | cons q ps ih =>
    rw [List.cons_append]
    unfold lastI
    rw [ih]
    by_cases h : p.1 = k
    · simp [h]
    · simp [h]

/-- The array part and the hash behind a script of writes. -/
def sX (ps : List (Int × Int)) : List Value := ps.foldl (fun xs p => stepX xs p.1 (NZ p.2)) []
noncomputable def sD (ps : List (Int × Int)) : Value → Option Value := ps.foldl (fun cd p => stepD cd p.1 (NZ p.2)) (fun _ => none)

theorem sX_snoc (ps : List (Int × Int)) (p : Int × Int) : sX (ps ++ [p]) = stepX (sX ps) p.1 (NZ p.2) := by simp [sX]
theorem sD_snoc (ps : List (Int × Int)) (p : Int × Int) : sD (ps ++ [p]) = stepD (sD ps) p.1 (NZ p.2) := by simp [sD]

theorem float_inj (a b : Int) (a1 : -9007199254740992 ≤ a) (a2 : a ≤ 9007199254740992) (b1 : -9007199254740992 ≤ b) (b2 : b ≤ 9007199254740992) (h : floatOfInt .f64 a = floatOfInt .f64 b) : a = b := by
  have h5 := FPlain.order_ofInt a b a1 a2 b1 b2
  rw [h, FPlain.ofInt_self] at h5
  exact Int.compare_eq_eq.1 (Option.some.inj h5).symm

theorem setV_get (xs : List Value) (i j : Nat) (v : Value) : ((setV xs i v)[j]?).getD LNIL = if j = i then v else (xs[j]?).getD LNIL := by
  unfold setV
  by_cases h : i < xs.length
  · rw [if_pos h, List.getElem?_set]
    by_cases hj : i = j
    · subst hj; simp [h]
    · have hj' : ¬ j = i := fun e => hj e.symm
      simp [hj, hj']
  · rw [if_neg h]
    by_cases hj : j = i
    · subst hj
      rw [List.getElem?_append_right (by simp; omega)]
      simp
      have : j - (xs.length + (j - xs.length)) = 0 := by omega
      simp [this]
    · rw [if_neg hj]
      by_cases h1 : j < xs.length
      · rw [List.append_assoc, List.getElem?_append_left h1]
      · rw [List.getElem?_eq_none (l := xs) (by omega)]
        by_cases h2 : j < i
        · have h3 : j - xs.length < i - xs.length := by omega
          rw [List.append_assoc, List.getElem?_append_right (by omega), List.getElem?_append_left (by simp; exact h3), List.getElem?_replicate, if_pos h3]
          rfl
        · rw [List.getElem?_eq_none (by simp; omega)]

theorem snoc_ind {α : Type} {P : List α → Prop} (h0 : P []) (h1 : ∀ l a, P l → P (l ++ [a])) (l : List α) : P l := by
  have h : ∀ r : List α, P r.reverse := by
    intro r
    induction r with
    | nil => exact h0
    | cons a r ih => rw [List.reverse_cons]; exact h1 _ _ ih
  have := h l.reverse
  rwa [List.reverse_reverse] at this

/-- Every key reads what was last written there. -/
theorem get_script (ps : List (Int × Int)) (k : Int) (k1 : -67108864 < k) (k2 : k < 67108864) (hps : ∀ p ∈ ps, -65536 ≤ p.1 ∧ p.1 ≤ 65536) :
    getV (sX ps) (sD ps) k = ((lastI ps k).map NZ).getD LNIL := by
  induction ps using snoc_ind with
  | h0 => unfold getV; split <;> rfl
  | h1 ps p ih =>
    have ih := ih (fun q hq => hps q (by simp [hq]))
    have hp := hps p (by simp)
    rw [sX_snoc, sD_snoc, lastI_snoc]
    unfold getV at ih ⊢
    unfold stepX stepD
    by_cases hk : 1 ≤ k ∧ k < 67108864
    · rw [if_pos hk] at ih ⊢
      by_cases hp1 : 1 ≤ p.1
      · rw [if_pos hp1, setV_get, ih]
        by_cases he : p.1 = k
        · have : (k - 1).toNat = (p.1 - 1).toNat := by rw [he]
          simp [he, this]
        · have : ¬ (k - 1).toNat = (p.1 - 1).toNat := by omega
          rw [if_neg this, if_neg he]
      · have he : ¬ p.1 = k := by omega
        rw [if_neg hp1, ih]
        simp [he]
    · rw [if_neg hk] at ih ⊢
      by_cases hp1 : 1 ≤ p.1
      · have he : ¬ p.1 = k := by omega
        rw [if_pos hp1, ih]
        simp [he]
      · rw [if_neg hp1]
        unfold put
        by_cases he : p.1 = k
        · subst he; simp
        · have hne : ¬ NZ k = NZ p.1 := by
            intro e
            have e2 : floatOfInt .f64 k = floatOfInt .f64 p.1 := by
              have := congrArg (fun v => match v with | Value.iface _ (.float _ b) => b | _ => 0) e
              exact this
            exact he (float_inj k p.1 (by omega) (by omega) (by omega) (by omega) e2).symm
          simp only [hne, if_false, he]
          exact ih

/-- The greatest positive key. -/
def maxK : List (Int × Int) → Nat
  | [] => 0
  | p :: ps => max p.1.toNat (maxK ps)
theorem maxK_snoc (ps : List (Int × Int)) (p : Int × Int) : maxK (ps ++ [p]) = max (maxK ps) p.1.toNat := by
  induction ps with
  | nil => simp [maxK]
  | cons q ps ih => rw [List.cons_append]; unfold maxK; rw [ih]; omega

theorem length_setV (xs : List Value) (i : Nat) (v : Value) : (setV xs i v).length = max xs.length (i + 1) := by
  unfold setV
  by_cases h : i < xs.length
  · rw [if_pos h]; simp; omega
  · rw [if_neg h]; simp; omega

theorem length_script (ps : List (Int × Int)) : (sX ps).length = maxK ps := by
  induction ps using snoc_ind with
  | h0 => rfl
  | h1 ps p ih =>
    rw [sX_snoc, maxK_snoc]
    unfold stepX
    by_cases hp : 1 ≤ p.1
    · rw [if_pos hp, length_setV, ih]; omega
    · rw [if_neg hp, ih]; omega

/-- The last element of the array part is a number. -/
theorem last_script (ps : List (Int × Int)) : ∀ x, (sX ps).getLast? = some x → ∃ b, x = NUM b := by
  induction ps using snoc_ind with
  | h0 => intro x hx; cases hx
  | h1 ps p ih =>
    intro x hx
    rw [sX_snoc] at hx
    unfold stepX at hx
    by_cases hp : 1 ≤ p.1
    · rw [if_pos hp] at hx
      unfold setV at hx
      by_cases h : (p.1 - 1).toNat < (sX ps).length
      · rw [if_pos h, List.getLast?_eq_getElem?, List.length_set, List.getElem?_set] at hx
        by_cases he : (p.1 - 1).toNat = (sX ps).length - 1
        · rw [if_pos he, if_pos h] at hx
          cases hx; exact ⟨_, rfl⟩
        · rw [if_neg he, ← List.getLast?_eq_getElem?] at hx
          exact ih x hx
      · rw [if_neg h, List.getLast?_append] at hx
        simp at hx
        exact ⟨_, hx.symm⟩
    · rw [if_neg hp] at hx
      exact ih x hx

/-! ### The strings -/
/-- The last index (from 1) at which s was written. -/
def lastS : List ByteArray → Nat → ByteArray → Option Nat
  | [], _, _ => none
  | t :: ts, i, s => match lastS ts (i + 1) s with
    | some v => some v
    | none => if t = s then some (i + 1) else none

noncomputable def sS (ts : List ByteArray) : Value → Option Value := (ts.zipIdx).foldl (fun c p => put c (.string p.1) (NZ ((p.2 : Int) + 1))) (fun _ => none)
theorem sS_snoc (ts : List ByteArray) (t : ByteArray) : sS (ts ++ [t]) = put (sS ts) (.string t) (NZ ((ts.length : Int) + 1)) := by
  unfold sS
  rw [List.zipIdx_append, List.foldl_append]
  simp

theorem lastS_snoc (ts : List ByteArray) (t s : ByteArray) (i : Nat) : lastS (ts ++ [t]) i s = if t = s then some (i + ts.length + 1) else lastS ts i s := by
  induction ts generalizing i with
  | nil => simp [lastS]
  | cons u ts ih =>
    rw [List.cons_append]
    unfold lastS
    rw [ih]
    by_cases h : t = s
    · simp [h]; omega
    · simp [h]

theorem gets_script (ts : List ByteArray) (s : ByteArray) : sS ts (.string s) = (lastS ts 0 s).map fun j => NZ (j : Int) := by
  induction ts using snoc_ind with
  | h0 => rfl
  | h1 ts t ih =>
    rw [sS_snoc, lastS_snoc]
    unfold put
    by_cases h : t = s
    · subst h; simp
    · have h' : ¬ s = t := fun e => h e.symm
      simp [h, h', ih]

theorem lastS_none (ts : List ByteArray) (i : Nat) (s : ByteArray) (h : ∀ t ∈ ts, t ≠ s) : lastS ts i s = none := by
  induction ts generalizing i with
  | nil => rfl
  | cons t ts ih =>
    unfold lastS
    rw [ih (i + 1) (fun u hu => h u (by simp [hu]))]
    simp [h t (by simp)]

theorem lastI_none (ps : List (Int × Int)) (k : Int) (h : ∀ p ∈ ps, p.1 ≠ k) : lastI ps k = none := by
  induction ps with
  | nil => rfl
  | cons p ps ih =>
    unfold lastI
    rw [ih (fun q hq => h q (by simp [hq]))]
    simp [h p (by simp)]

/-- The pair at i, its key never written later: the last value. -/
theorem lastI_at (ps : List (Int × Int)) (i : Nat) (p : Int × Int) (hi : ps[i]? = some p) (h : ∀ j q, i < j → ps[j]? = some q → q.1 ≠ p.1) : lastI ps p.1 = some p.2 := by
  induction ps generalizing i with
  | nil => cases hi
  | cons q ps ih =>
    unfold lastI
    cases i with
    | zero =>
      simp at hi; subst hi
      rw [lastI_none ps q.1 (fun r hr => by
        obtain ⟨j, hj, hjr⟩ := List.getElem_of_mem hr
        exact h (j + 1) r (by omega) (by simp [hjr, hj]))]
      simp
    | succ i =>
      simp only [List.getElem?_cons_succ] at hi
      rw [ih i hi (fun j r hj hr => h (j + 1) r (by omega) (by simpa using hr))]

theorem lastS_at (ts : List ByteArray) (i k : Nat) (s : ByteArray) (hi : ts[i]? = some s) (h : ∀ j t, i < j → ts[j]? = some t → t ≠ s) : lastS ts k s = some (k + i + 1) := by
  induction ts generalizing i k with
  | nil => cases hi
  | cons t ts ih =>
    unfold lastS
    cases i with
    | zero =>
      simp at hi; subst hi
      rw [lastS_none ts (k + 1) t (fun r hr => by
        obtain ⟨j, hj, hjr⟩ := List.getElem_of_mem hr
        exact h (j + 1) r (by omega) (by simp [hjr, hj]))]
      simp
    | succ i =>
      simp only [List.getElem?_cons_succ] at hi
      rw [ih i (k + 1) hi (fun j r hj hr => h (j + 1) r (by omega) (by simpa using hr))]
      simp; omega
end Go.Proofs.YtbgolkdhcgjfkaaGreatDoor
