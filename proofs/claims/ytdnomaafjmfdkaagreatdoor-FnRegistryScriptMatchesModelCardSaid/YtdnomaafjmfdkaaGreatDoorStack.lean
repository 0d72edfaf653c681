/-
  The registry as a stack (RegS): Push, Pop, SetTop, slots, Top, the array length, newRegistry: what each leaves of the stack: conditions: sizes up to 2^20, growth step up to 2^30.
-/
import Derived.Test.YtdnomaafjmfdkaaGreatDoorTops
namespace Go.Proofs.YtdnomaafjmfdkaaGreatDoor
open Go.RowKit
set_option maxRecDepth 100000
set_option maxHeartbeats 400000

/-- What lies unused: Go nil or LNil. -/
def Clean (v : Value) : Prop := v = .nilIface ∨ v = LNIL
/-- What lies on the stack: LNil or a number. -/
def Held (v : Value) : Prop := v = LNIL ∨ ∃ b, v = NUM b

theorem Clean.slot {v : Value} (h : Clean v) : IsSlot v := by rcases h with h | h; exact Or.inl h; exact Or.inr (Or.inl h)
theorem Held.slot {v : Value} (h : Held v) : IsSlot v := Or.inr h

/-- A registry that holds the stack st, all above it clean. -/
def RegS (w : World) (R A : Nat) (st : List Value) (cap g m : Nat) : Prop :=
  ∃ xs, Reg w R A xs st.length g m ∧ xs.length = cap ∧ st.length ≤ cap ∧ xs.take st.length = st ∧ (∀ v ∈ xs.drop st.length, Clean v) ∧ (∀ v ∈ st, Held v)

/-- What an operation leaves: the stack st', maybe in a new array, never smaller, never beyond the limit. -/
def Next (R A : Nat) (st' : List Value) (cap g m : Nat) (w w' : World) : Prop :=
  ∃ A' cap', RegS w' R A' st' cap' g m ∧ cap ≤ cap' ∧ cap' ≤ max cap m ∧ Keeps (fun k => k = R ∨ k = A) w w' ∧ (A' = A ∨ w.heap.size ≤ A')

theorem clean_grow (xs : List Value) (top N : Nat) (ht : top ≤ xs.length) : ∀ v ∈ (grow xs top N).drop top, Clean v := by
  intro v hv
  unfold grow at hv
  rw [List.drop_append_of_le_length (by simp; omega), List.drop_take, Nat.sub_self, List.take_zero, List.nil_append] at hv
  exact Or.inl (List.mem_replicate.1 hv).2

theorem take_grow (xs : List Value) (top N : Nat) (ht : top ≤ xs.length) : (grow xs top N).take top = xs.take top := by
  unfold grow
  rw [List.take_append_of_le_length (by simp; omega), List.take_take, Nat.min_self]

theorem take_set_succ (xs : List Value) (i : Nat) (v : Value) (h : i < xs.length) : (xs.set i v).take (i + 1) = xs.take i ++ [v] := by
  rw [List.take_succ_eq_append_getElem (by simpa using h), List.take_set_of_le (Nat.le_refl i)]
  simp

theorem drop_set_succ (xs : List Value) (i : Nat) (v : Value) : (xs.set i v).drop (i + 1) = xs.drop (i + 1) := by
  rw [List.drop_set_of_lt (by omega)]

theorem RegS.pushed {w w' : World} {R A : Nat} {xs st : List Value} {g m : Nat} {v : Value} (hv : Held v) (hxl : st.length ≤ xs.length) (hxt : xs.take st.length = st) (hxc : ∀ v ∈ xs.drop st.length, Clean v) (hst : ∀ v ∈ st, Held v)
    (htm : st.length < xs.length ∨ st.length + 1 ≤ m) (hp : Pushed R A xs st.length g m v w w') : Next R A (st ++ [v]) xs.length g m w w' := by
  obtain ⟨A', hr, hk, ha⟩ := hp
  have hst' : ∀ u ∈ st ++ [v], Held u := by
    intro u hu
    rcases List.mem_append.1 hu with h | h
    · exact hst u h
    · rw [List.mem_singleton.1 h]; exact hv
  by_cases hlt : st.length < xs.length
  · rw [if_pos hlt] at hr
    refine ⟨A', xs.length, ⟨_, by simpa using hr, by simp, by simp; omega, ?_, ?_, hst'⟩, Nat.le_refl _, Nat.le_max_left _ _, hk, ha⟩
    · rw [List.length_append, List.length_singleton, take_set_succ _ _ _ hlt, hxt]
    · rw [List.length_append, List.length_singleton, drop_set_succ]
      intro u hu
      exact hxc u (List.mem_of_mem_drop (i := 1) (by rw [List.drop_drop]; exact hu))
  · rw [if_neg hlt] at hr
    have hN := newSize_ge (st.length + 1) g m (by omega)
    have hlen := length_grow xs st.length (newSize (st.length + 1) g m) hxl (by omega)
    have htk := take_grow xs st.length (newSize (st.length + 1) g m) hxl
    have hcl := clean_grow xs st.length (newSize (st.length + 1) g m) hxl
    generalize grow xs st.length (newSize (st.length + 1) g m) = ys at *
    refine ⟨A', ys.length, ⟨_, by simpa using hr, by simp, by simp; omega, ?_, ?_, hst'⟩, by omega, ?_, hk, ha⟩
    · rw [List.length_append, List.length_singleton, take_set_succ _ _ _ (by omega), htk, hxt]
    · rw [List.length_append, List.length_singleton, drop_set_succ]
      intro u hu
      exact hcl u (List.mem_of_mem_drop (i := 1) (by rw [List.drop_drop]; exact hu))
    · rw [hlen]; exact Nat.le_trans hN.2 (Nat.le_max_right _ _)

theorem pushS (R A : Nat) (st : List Value) (cap g m b : Nat) (w : World) (hx : cap ≤ 1048576) (hg : g ≤ 1073741824) (hm : m ≤ 1048576) (htm : st.length < cap ∨ st.length + 1 ≤ m) (h : RegS w R A st cap g m) :
    Calls Tryz.prog 11 #[.pointer (some ⟨R, 0, none⟩), .float .f64 b] w fun e w' => e = .returned (.tuple #[]) ∧ Next R A (st ++ [NUM b]) cap g m w w' := by
  obtain ⟨xs, hr, rfl, hle, htk, hcl, hst⟩ := h
  exact (zpush_any R A st.length g m xs b w hle hx hg hm htm hr).mono fun e w' ⟨he, hp⟩ => ⟨he, RegS.pushed (Or.inr ⟨b, rfl⟩) hle htk hcl hst htm hp⟩

theorem popS (R A : Nat) (st : List Value) (x : Value) (cap g m : Nat) (w : World) (hx : cap ≤ 1048576) (h : RegS w R A (st ++ [x]) cap g m) :
    Calls Tryz.prog 13 #[.pointer (some ⟨R, 0, none⟩)] w fun e w' => e = .returned (.tuple #[.int .i64 (cls x), .float .f64 (numOf x)]) ∧ RegS w' R A st cap g m ∧ Keeps (fun k => k = R ∨ k = A) w w' := by
  obtain ⟨xs, hr, rfl, hle, htk, hcl, hst⟩ := h
  simp only [List.length_append, List.length_singleton] at hr hle htk hcl
  have hlt : st.length < xs.length := by omega
  have hxx : xs[st.length]? = some x := by
    have := congrArg (fun l : List Value => l[st.length]?) htk
    simpa [List.getElem?_take] using this
  have htk' : xs.take st.length = st := by
    have := congrArg (fun l : List Value => l.take st.length) htk
    simpa [List.take_take] using this
  refine (zpop_any R A st.length g m xs x w hlt hx hxx (hst x (by simp)) hr).mono fun e w' ⟨he, hp⟩ => ⟨he, ⟨_, hp.1, by simp, by omega, ?_, ?_, fun v hv => hst v (by simp [hv])⟩, hp.2⟩
  · rw [List.take_set_of_le (Nat.le_refl _)]; exact htk'
  · intro v hv
    rw [List.drop_set, if_neg (by omega), Nat.sub_self] at hv
    rw [List.drop_eq_getElem_cons hlt] at hv
    simp only [List.set_cons_zero, List.mem_cons] at hv
    rcases hv with rfl | hv
    · exact Or.inr rfl
    · exact hcl v hv

/-- What SetTop makes of the stack. -/
def toTop (st : List Value) (t : Nat) : List Value := st.take t ++ List.replicate (t - st.length) LNIL

theorem length_toTop (st : List Value) (t : Nat) : (toTop st t).length = t := by unfold toTop; simp; omega

theorem held_toTop (st : List Value) (t : Nat) (h : ∀ v ∈ st, Held v) : ∀ v ∈ toTop st t, Held v := by
  intro v hv
  unfold toTop at hv
  rcases List.mem_append.1 hv with h1 | h1
  · exact h v (List.mem_of_mem_take h1)
  · exact Or.inl (List.mem_replicate.1 h1).2

theorem ztop_settop (R : Nat) (t : Nat) (w : World) (Q : World → Prop) (h : Calls Tryz.prog 30 #[.pointer (some ⟨R, 0, none⟩), .int .i64 t] w fun e w' => e = .returned (.tuple #[]) ∧ Q w') :
    Calls Tryz.prog 18 #[.pointer (some ⟨R, 0, none⟩), .int .i64 t] w fun e w' => e = .returned (.tuple #[]) ∧ Q w' := by
  have HC := Lib.hid h
  clear h
  go_enter Tryz.func18, Tryz.ntmps18
  go_wp2_with (go_at_call 30; refine HC.out.mono ?_; rintro e w' ⟨rfl, hw⟩)
  go_end0
  exact ⟨rfl, hw⟩

theorem settopS (R A : Nat) (st : List Value) (t cap g m : Nat) (w : World) (hx : cap ≤ 1048576) (hg : g ≤ 1073741824) (hm : m ≤ 1048576) (htm : t ≤ cap ∨ t ≤ m) (h : RegS w R A st cap g m) :
    Calls Tryz.prog 18 #[.pointer (some ⟨R, 0, none⟩), .int .i64 t] w fun e w' => e = .returned (.tuple #[]) ∧ Next R A (toTop st t) cap g m w w' := by
  refine ztop_settop R t w _ ?_
  obtain ⟨xs, hr, rfl, hle, htk, hcl, hst⟩ := h
  have hst' := held_toTop st t hst
  have hgen : ∀ (ys : List Value) (v : Value) (a k : Nat), a ≤ k → k ≤ ys.length → st.length ≤ ys.length → ys.take st.length = st → (∀ v ∈ ys.drop st.length, Clean v) →
      ((a = st.length ∧ k = t ∧ v = LNIL) ∨ (a = t ∧ k = st.length ∧ v = .nilIface)) →
      (fillR ys a k v).take (toTop st t).length = toTop st t ∧ ∀ u ∈ (fillR ys a k v).drop (toTop st t).length, Clean u := by
    intro ys v a k hak hk hl h1 h2 hc
    rw [length_toTop]
    have hfl := length_fillR ys a k v hak hk
    have hget := get_fillR ys a k
    have hys : ∀ j, j < st.length → ys[j]? = st[j]? := by
      intro j hj
      have := congrArg (fun l : List Value => l[j]?) h1
      simpa [List.getElem?_take, hj] using this
    have hyc : ∀ j u, st.length ≤ j → ys[j]? = some u → Clean u := by
      intro j u hj hu
      refine h2 u (List.mem_iff_getElem?.2 ⟨j - st.length, ?_⟩)
      rw [List.getElem?_drop]
      rw [show st.length + (j - st.length) = j by omega]; exact hu
    constructor
    · apply List.ext_getElem?
      intro j
      unfold toTop
      rw [List.getElem?_take]
      by_cases hj : j < t
      · rw [if_pos hj, hget j v hak hk]
        by_cases hjs : j < st.length
        · rw [if_neg (by omega), hys j hjs, List.getElem?_append_left (by simp; omega), List.getElem?_take, if_pos hj]
        · rw [List.getElem?_append_right (by simp; omega), List.getElem?_replicate]
          rcases hc with ⟨rfl, rfl, rfl⟩ | ⟨rfl, rfl, rfl⟩
          · rw [if_pos ⟨by omega, hj⟩, if_pos (by simp; omega)]
          · omega
      · rw [if_neg hj, eq_comm, List.getElem?_eq_none]
        simp; omega
    · intro u hu
      obtain ⟨j, hj⟩ := List.mem_iff_getElem?.1 hu
      rw [List.getElem?_drop, hget _ v hak hk] at hj
      split at hj
      · cases hj
        rcases hc with ⟨rfl, rfl, rfl⟩ | ⟨rfl, rfl, rfl⟩
        · exact Or.inr rfl
        · exact Or.inl rfl
      · refine hyc (t + j) u ?_ hj
        rcases hc with ⟨rfl, rfl, rfl⟩ | ⟨rfl, rfl, rfl⟩ <;> omega
  by_cases hgrow : xs.length < t
  · have hN := newSize_ge t g m (by omega)
    refine (settop_grow R A st.length t g m xs w hle hgrow (by omega) hg hm hr).mono fun e w' ⟨he, A', hr', hk, hA'⟩ => ⟨he, ?_⟩
    have hlen := length_grow xs st.length (newSize t g m) hle (by omega)
    have htk' := take_grow xs st.length (newSize t g m) hle
    have hcl' := clean_grow xs st.length (newSize t g m) hle
    generalize grow xs st.length (newSize t g m) = ys at *
    obtain ⟨k1, k2⟩ := hgen ys LNIL st.length t (by omega) (by omega) (by omega) (by rw [htk', htk]) hcl' (Or.inl ⟨rfl, rfl, rfl⟩)
    have hfl := length_fillR ys st.length t LNIL (by omega) (by omega)
    refine ⟨A', ys.length, ⟨_, by rw [length_toTop]; exact hr', hfl, by rw [length_toTop]; omega, k1, k2, hst'⟩, by omega, by rw [hlen]; exact Nat.le_trans hN.2 (Nat.le_max_right _ _), hk, Or.inr hA'⟩
  · by_cases hup : st.length ≤ t
    · refine (settop_up R A st.length t g m xs w hup (by omega) hx hr).mono fun e w' ⟨he, hr', hk⟩ => ⟨he, ?_⟩
      obtain ⟨k1, k2⟩ := hgen xs LNIL st.length t hup (by omega) hle htk hcl (Or.inl ⟨rfl, rfl, rfl⟩)
      have hfl := length_fillR xs st.length t LNIL hup (by omega)
      exact ⟨A, xs.length, ⟨_, by rw [length_toTop]; exact hr', hfl, by rw [length_toTop]; omega, k1, k2, hst'⟩, Nat.le_refl _, Nat.le_max_left _ _, hk, Or.inl rfl⟩
    · obtain ⟨d, hd⟩ : ∃ d, st.length = t + d := ⟨st.length - t, by omega⟩
      rw [hd] at hr
      refine (settop_down R A t d g m xs w (by omega) (by omega) hx hr).mono fun e w' ⟨he, hr', hk⟩ => ⟨he, ?_⟩
      rw [← hd] at hr'
      obtain ⟨k1, k2⟩ := hgen xs .nilIface t st.length (by omega) hle hle htk hcl (Or.inr ⟨rfl, rfl, rfl⟩)
      have hfl := length_fillR xs t st.length .nilIface (by omega) hle
      exact ⟨A, xs.length, ⟨_, by rw [length_toTop]; exact hr', hfl, by rw [length_toTop]; omega, k1, k2, hst'⟩, Nat.le_refl _, Nat.le_max_left _ _, hk, Or.inl rfl⟩

/-- A slot below the top. -/
theorem slotS (R A : Nat) (st : List Value) (cap g m i : Nat) (v : Value) (w : World) (h : RegS w R A st cap g m) (hv : st[i]? = some v) :
    Calls Tryz.prog 15 #[.pointer (some ⟨R, 0, none⟩), .int .i64 i] w fun e w' => e = .returned (.tuple #[.int .i64 (cls v), .float .f64 (numOf v)]) ∧ w = w' := by
  obtain ⟨xs, hr, rfl, hle, htk, hcl, hst⟩ := h
  have hi : i < st.length := (List.getElem?_eq_some_iff.1 hv).1
  refine slot_any R A st.length g m i xs v w (by omega) hr ?_ (hst v (List.mem_of_getElem? hv)).slot
  have := congrArg (fun l : List Value => l[i]?) htk
  simp only [List.getElem?_take, if_pos hi] at this
  rw [this]; exact hv

/-- A slot from the top on: clean. -/
theorem slotC (R A : Nat) (st : List Value) (cap g m i : Nat) (w : World) (h : RegS w R A st cap g m) (h1 : st.length ≤ i) (h2 : i < cap) :
    ∃ v, Clean v ∧ Calls Tryz.prog 15 #[.pointer (some ⟨R, 0, none⟩), .int .i64 i] w fun e w' => e = .returned (.tuple #[.int .i64 (cls v), .float .f64 (numOf v)]) ∧ w = w' := by
  obtain ⟨xs, hr, rfl, hle, htk, hcl, hst⟩ := h
  obtain ⟨v, hv⟩ : ∃ v, xs[i]? = some v := ⟨xs[i], List.getElem?_eq_getElem h2⟩
  have hc : Clean v := hcl v (List.mem_iff_getElem?.2 ⟨i - st.length, by rw [List.getElem?_drop, show st.length + (i - st.length) = i by omega]; exact hv⟩)
  exact ⟨v, hc, slot_any R A st.length g m i xs v w h2 hr hv hc.slot⟩

theorem topS (R A : Nat) (st : List Value) (cap g m : Nat) (w : World) (h : RegS w R A st cap g m) :
    Calls Tryz.prog 12 #[.pointer (some ⟨R, 0, none⟩)] w fun e w' => e = .returned (.int .i64 st.length) ∧ w = w' := by
  obtain ⟨xs, hr, _⟩ := h
  exact ztop_any R A st.length g m xs w hr

theorem lenS (R A : Nat) (st : List Value) (cap g m : Nat) (w : World) (h : RegS w R A st cap g m) :
    Calls Tryz.prog 14 #[.pointer (some ⟨R, 0, none⟩)] w fun e w' => e = .returned (.int .i64 cap) ∧ w = w' := by
  obtain ⟨xs, hr, rfl, _⟩ := h
  exact zlen_any R A st.length g m xs w hr

theorem newS (n g m : Nat) (w : World) (hn : n ≤ 65536) :
    Calls Tryz.prog 10 #[.int .i64 n, .int .i64 g, .int .i64 m] w fun e w' => e = .returned (.pointer (some ⟨w.heap.size + 1, 0, none⟩)) ∧ RegS w' (w.heap.size + 1) w.heap.size [] n g m ∧ Below w.heap.size w w' :=
  (znew_any n g m w hn).mono fun e w' ⟨he, hr, hb⟩ => ⟨he, ⟨_, hr, by simp, Nat.zero_le _, rfl, fun v hv => Or.inl (List.mem_replicate.1 (List.mem_of_mem_drop hv)).2, fun v hv => by cases hv⟩, hb⟩

theorem RegS.kept {S : Nat → Prop} {w w' : World} {R A : Nat} {st : List Value} {cap g m : Nat} (h : RegS w R A st cap g m) (hk : Keeps S w w') (h1 : ¬ S R) (h2 : ¬ S A) : RegS w' R A st cap g m := by
  obtain ⟨xs, hr, r⟩ := h
  exact ⟨xs, hr.kept hk h1 h2, r⟩

theorem RegS.size {w : World} {R A : Nat} {st : List Value} {cap g m : Nat} (h : RegS w R A st cap g m) : R < w.heap.size ∧ A < w.heap.size := by
  obtain ⟨xs, hr, _⟩ := h
  exact hr.size
end Go.Proofs.YtdnomaafjmfdkaaGreatDoor
