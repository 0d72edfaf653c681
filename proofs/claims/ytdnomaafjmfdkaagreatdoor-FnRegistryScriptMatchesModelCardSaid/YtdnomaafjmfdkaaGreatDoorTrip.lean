/-
  The walk of FnRegistryPushPopRoundTrip: for every argument the call returns true and turns nothing that was there.
-/
import Derived.Test.YtdnomaafjmfdkaaGreatDoorLifo
namespace Go.Proofs.YtdnomaafjmfdkaaGreatDoor
open Go.RowKit
set_option maxRecDepth 100000
set_option maxHeartbeats 400000

theorem bytes21_yes (n g : Int) (a : Option Addr) (len cap : Nat) (x y : Int) (w : World) (h : len ≤ 1048576) :
    Calls Tryz.prog 21 #[.int .i64 n, .int .i64 g, .slice a len cap, .int .i64 x, .int .i32 y] w fun e w' => e = .returned (.bool true) ∧ w = w' := by
  have h1 : decide (1048576 < len) = false := by simp; omega
  have h2 : decide ((1048576 : Int) < (len : Int)) = false := by simp; omega
  go_enter Tryz.func21, Tryz.ntmps21
  go_wp2
  go_ret
  exact ⟨rfl, rfl⟩

theorem bytes21_no (n g : Int) (a : Option Addr) (len cap : Nat) (x y : Int) (w : World) (h : 1048576 < len) :
    Calls Tryz.prog 21 #[.int .i64 n, .int .i64 g, .slice a len cap, .int .i64 x, .int .i32 y] w fun e w' => e = .returned (.bool false) ∧ w = w' := by
  have h2 : (1048576 : Int) < (len : Int) := by omega
  go_enter Tryz.func21, Tryz.ntmps21
  go_wp2
  go_ret
  exact ⟨rfl, rfl⟩

def Good6 (n g : Int) (len : Nat) (x : Int) : Prop := len ≤ 65536 ∧ 0 ≤ n ∧ n ≤ 65536 ∧ 0 ≤ g ∧ g ≤ 1073741824 ∧ 0 ≤ x ∧ x ≤ 65536

theorem trip_out (n g : Int) (a : Option Addr) (len cap : Nat) (x y : Int) (w : World) (h : ¬ Good6 n g len x) :
    Calls Tryz.prog 6 #[.int .i64 n, .int .i64 g, .slice a len cap, .int .i64 x, .int .i32 y] w fun e w' => e = .returned (.bool true) ∧ w = w' := by
  by_cases h0 : 1048576 < len
  · have HC := Lib.hid (bytes21_no n g a len cap x y w h0)
    clear h0 h
    go_enter Tryz.func6, Tryz.ntmps6
    go_wp2_with (go_at_call 21; refine HC.out.mono ?_; rintro e w' ⟨rfl, rfl⟩)
    go_ret
    exact ⟨rfl, rfl⟩
  · have HC := Lib.hid (bytes21_yes n g a len cap x y w (by omega))
    by_cases h1 : 65536 < len
    · have h1' : (65536 : Int) < (len : Int) := by omega
      clear h0 h
      go_enter Tryz.func6, Tryz.ntmps6
      go_wp2_with (go_at_call 21; refine HC.out.mono ?_; rintro e w' ⟨rfl, rfl⟩)
      go_ret
      exact ⟨rfl, rfl⟩
    · have h1' : ¬ (65536 : Int) < (len : Int) := by omega
      clear h0
      by_cases h2 : n < 0
      · clear h
        go_enter Tryz.func6, Tryz.ntmps6
        go_wp2_with (go_at_call 21; refine HC.out.mono ?_; rintro e w' ⟨rfl, rfl⟩)
        go_ret
        exact ⟨rfl, rfl⟩
      · skip
        by_cases h3 : 65536 < n
        · clear h
          go_enter Tryz.func6, Tryz.ntmps6
          go_wp2_with (go_at_call 21; refine HC.out.mono ?_; rintro e w' ⟨rfl, rfl⟩)
          go_ret
          exact ⟨rfl, rfl⟩
        · skip
          by_cases h4 : g < 0
          · clear h
            go_enter Tryz.func6, Tryz.ntmps6
            go_wp2_with (go_at_call 21; refine HC.out.mono ?_; rintro e w' ⟨rfl, rfl⟩)
            go_ret
            exact ⟨rfl, rfl⟩
          · skip
            by_cases h5 : 1073741824 < g
            · clear h
              go_enter Tryz.func6, Tryz.ntmps6
              go_wp2_with (go_at_call 21; refine HC.out.mono ?_; rintro e w' ⟨rfl, rfl⟩)
              go_ret
              exact ⟨rfl, rfl⟩
            · skip
              by_cases h6 : x < 0
              · clear h
                go_enter Tryz.func6, Tryz.ntmps6
                go_wp2_with (go_at_call 21; refine HC.out.mono ?_; rintro e w' ⟨rfl, rfl⟩)
                go_ret
                exact ⟨rfl, rfl⟩
              · skip
                have h7 : 65536 < x := by unfold Good6 at h; omega
                clear h
                go_enter Tryz.func6, Tryz.ntmps6
                go_wp2_with (go_at_call 21; refine HC.out.mono ?_; rintro e w' ⟨rfl, rfl⟩)
                go_ret
                exact ⟨rfl, rfl⟩
section
variable {P : Program} {w : World} {a : Addr} {m : Mode}
/-- A store of a float. -/
theorem run_store_float (k : FloatKind) (b : Nat) : (store a (.float k b) m).run P w = stored P w a (.float k b) m := run_store P w a _ m rfl
end
attribute [local go_sem] run_store_float

theorem Tryz.info28 : (Tryz.prog.info? 28).map (fun i => (i.zero, i.size, i.bytes)) = some (some (.float .f64 0), 1, 8) := by kernel_rfl
theorem Tryz.info3 : (Tryz.prog.info? 3).map (fun i => (i.zero, i.size, i.bytes)) = some (some (.int .i64 0), 1, 8) := by kernel_rfl

theorem made_one (v : Value) (hv : v.cells = #[v]) (n : Nat) : (madeCells v.cells n).toList = List.replicate n v := by
  unfold madeCells
  apply List.ext_getElem?
  intro i
  rw [hv]
  by_cases h : i < n
  · simp [h, Nat.mod_one]
  · simp [h]

theorem hmkF (n : Nat) (hn : n ≤ 1073741824) (W : World) : (Instr.makeSlice 40 (.int .i64 n) (.int .i64 n)).run Tryz.prog W =
    .ok (.slice (some ⟨W.heap.size, 0, none⟩) n n) (W.alloc (.cells (List.replicate n (Value.float .f64 0)).toArray 28)) := by
  obtain ⟨i0, hi, hz0, hz1, hz2⟩ := info_parts Tryz.info28
  have h := run_make (P := Tryz.prog) W 40 28 i0 (.float .f64 0) Tryz.underlying40 hi hz0 .i64 .i64 (n : Int) (n : Int) (by omega) (by omega) (by rw [hz2]; omega) (by omega)
  rw [hz1, Nat.mul_one, ← made_one (.float .f64 0) rfl] at *
  simpa using h

theorem hmkI (n : Nat) (hn : n ≤ 1073741824) (W : World) : (Instr.makeSlice 41 (.int .i64 n) (.int .i64 n)).run Tryz.prog W =
    .ok (.slice (some ⟨W.heap.size, 0, none⟩) n n) (W.alloc (.cells (List.replicate n (Value.int .i64 0)).toArray 3)) := by
  obtain ⟨i0, hi, hz0, hz1, hz2⟩ := info_parts Tryz.info3
  have h := run_make (P := Tryz.prog) W 41 3 i0 (.int .i64 0) Tryz.underlying41 hi hz0 .i64 .i64 (n : Int) (n : Int) (by omega) (by omega) (by rw [hz2]; omega) (by omega)
  rw [hz1, Nat.mul_one, ← made_one (.int .i64 0) rfl] at *
  simpa using h

/-- The registry as a stack, with what lies in the slot above the top. -/
def RegT (w : World) (R A : Nat) (st : List Value) (cap g m : Nat) (v : Value) : Prop :=
  ∃ xs, Reg w R A xs st.length g m ∧ xs.length = cap ∧ st.length ≤ cap ∧ xs.take st.length = st ∧ (∀ v ∈ xs.drop st.length, Clean v) ∧ (∀ v ∈ st, Held v) ∧ xs[st.length]? = some v

theorem RegT.toS {w : World} {R A : Nat} {st : List Value} {cap g m : Nat} {v : Value} (h : RegT w R A st cap g m v) : RegS w R A st cap g m := by
  obtain ⟨xs, h1, h2, h3, h4, h5, h6, _⟩ := h
  exact ⟨xs, h1, h2, h3, h4, h5, h6⟩

theorem popT (R A : Nat) (st : List Value) (x : Value) (cap g m : Nat) (w : World) (hx : cap ≤ 1048576) (h : RegS w R A (st ++ [x]) cap g m) :
    Calls Tryz.prog 13 #[.pointer (some ⟨R, 0, none⟩)] w fun e w' => e = .returned (.tuple #[.int .i64 (cls x), .float .f64 (numOf x)]) ∧ RegT w' R A st cap g m LNIL ∧ Keeps (fun k => k = R ∨ k = A) w w' := by
  obtain ⟨xs, hr, rfl, hle, htk, hcl, hst⟩ := h
  simp only [List.length_append, List.length_singleton] at hr hle htk hcl
  have hlt : st.length < xs.length := by omega
  have hxx : xs[st.length]? = some x := by
    have := congrArg (fun l : List Value => l[st.length]?) htk
    simpa [List.getElem?_take] using this
  have htk' : xs.take st.length = st := by
    have := congrArg (fun l : List Value => l.take st.length) htk
    simpa [List.take_take] using this
  refine (zpop_any R A st.length g m xs x w hlt hx hxx (hst x (by simp)) hr).mono fun e w' ⟨he, hp⟩ => ⟨he, ⟨_, hp.1, by simp, by omega, ?_, ?_, fun v hv => hst v (by simp [hv]), ?_⟩, hp.2⟩
  · rw [List.take_set_of_le (Nat.le_refl _)]; exact htk'
  · intro v hv
    rw [List.drop_set, if_neg (by omega), Nat.sub_self] at hv
    rw [List.drop_eq_getElem_cons hlt] at hv
    simp only [List.set_cons_zero, List.mem_cons] at hv
    rcases hv with rfl | hv
    · exact Or.inr rfl
    · exact hcl v hv
  · rw [List.getElem?_set_self hlt]

theorem slotT (R A : Nat) (st : List Value) (cap g m : Nat) (v : Value) (w : World) (h : RegT w R A st cap g m v) (hv : IsSlot v) :
    Calls Tryz.prog 15 #[.pointer (some ⟨R, 0, none⟩), .int .i64 st.length] w fun e w' => e = .returned (.tuple #[.int .i64 (cls v), .float .f64 (numOf v)]) ∧ w = w' := by
  obtain ⟨xs, hr, rfl, _, _, _, _, hx⟩ := h
  exact slot_any R A st.length g m st.length xs v w (List.getElem?_eq_some_iff.1 hx).1 hr hx hv

/-- The stack behind SetTop. -/

theorem get_toTop (st : List Value) (t j : Nat) : (toTop st t)[j]? = if j < t then (if j < st.length then st[j]? else some LNIL) else none := by
  unfold toTop
  by_cases hj : j < t
  · rw [if_pos hj]
    by_cases hs : j < st.length
    · rw [if_pos hs, List.getElem?_append_left (by simp; omega), List.getElem?_take, if_pos hj]
    · rw [if_neg hs, List.getElem?_append_right (by simp; omega), List.getElem?_replicate, if_pos (by simp; omega)]
  · rw [if_neg hj, List.getElem?_eq_none]
    simp; omega

theorem order0 : FloatKind.f64.format.order 0 0 = some .eq := FPlain.ofInt_self 0

theorem once_get (zs : List Int) (len a j : Nat) (hj : j < a) :
    ∃ v, FloatKind.f64.format.order (numOf v) (numOf v) = some .eq ∧ (toTop ((zs.take len).map num) a)[j]? = some v := by
  rw [get_toTop, if_pos hj]
  by_cases h : j < (List.map num (List.take len zs)).length
  · rw [if_pos h, List.getElem?_eq_getElem h]
    refine ⟨_, ?_, rfl⟩
    rw [List.getElem_map]
    exact FPlain.ofInt_self _
  · rw [if_neg h]
    exact ⟨LNIL, order0, rfl⟩

/-- Two snapshot rows behind k rounds. -/
def snapV (st : List Value) (n k : Nat) : List Value := ((st.take k).map fun v => Value.float .f64 (numOf v)) ++ List.replicate (n - k) (.float .f64 0)
def snapC (st : List Value) (n k : Nat) : List Value := ((st.take k).map fun v => Value.int .i64 (cls v)) ++ List.replicate (n - k) (.int .i64 0)

theorem snap_step (f : Value → Value) (z : Value) (st : List Value) (n k : Nat) (v : Value) (hk : k < n) (hv : st[k]? = some v) :
    (((st.take k).map f) ++ List.replicate (n - k) z).set k (f v) = ((st.take (k + 1)).map f) ++ List.replicate (n - (k + 1)) z := by
  have hkl : k < st.length := (List.getElem?_eq_some_iff.1 hv).1
  rw [List.set_append_right _ _ (by simp; omega), List.take_succ_eq_append_getElem hkl, List.map_append, List.append_assoc]
  congr 1
  rw [show n - k = (n - (k + 1)) + 1 by omega, List.replicate_succ]
  have : k - (List.map f (List.take k st)).length = 0 := by simp; omega
  rw [this]
  have hv' : st[k] = v := (List.getElem?_eq_some_iff.1 hv).2
  simp [hv']

theorem length_snap (f : Value → Value) (z : Value) (st : List Value) (n k : Nat) (hk : k ≤ n) (hst : st.length = n) : (((st.take k).map f) ++ List.replicate (n - k) z).length = n := by simp; omega

/-- The registry holds st; two rows of the call's own hold the snapshot so far. -/
def Snap (w wr : World) (R A V : Nat) (st : List Value) (cap g m n k : Nat) : Prop :=
  RegS wr R A st cap g m ∧ wr.heap[V]? = some (.cells (snapV st n k).toArray 28 (0, 0)) ∧ wr.heap[V + 1]? = some (.cells (snapC st n k).toArray 3 (0, 0)) ∧ Below w.heap.size w wr

theorem Snap.step {w wr : World} {R A V : Nat} {st : List Value} {cap g m n k : Nat} {v : Value} (h : Snap w wr R A V st cap g m n k) (hk : k < n) (hv : st[k]? = some v) (h1 : R < V) (h2 : A < V) (h3 : w.heap.size ≤ V) :
    Snap w ((wr.setCell ⟨V, k, none⟩ (.float .f64 (numOf v))).setCell ⟨V + 1, k, none⟩ (.int .i64 (cls v))) R A V st cap g m n (k + 1) := by
  obtain ⟨hr, hV, hC, hb⟩ := h
  refine ⟨hr.kept (((Keeps.refl (fun n => n = V ∨ n = V + 1) wr).setCell (Or.inl rfl) _).setCell (Or.inr rfl) _) (by omega) (by omega), ?_, ?_, (hb.setCell h3 _).setCell (by show w.heap.size ≤ V + 1; omega) _⟩
  · rw [set_other _ (by show V ≠ V + 1; omega), set_same _ hV, toArray_set]
    unfold snapV
    rw [snap_step (fun v => Value.float .f64 (numOf v)) _ st n k v hk hv]
  · have hC' : (wr.setCell ⟨V, k, none⟩ (.float .f64 (numOf v))).heap[V + 1]? = some (.cells (snapC st n k).toArray 3 (0, 0)) := by rw [set_other _ (by show V + 1 ≠ V; omega)]; exact hC
    rw [set_same _ hC', toArray_set]
    unfold snapC
    rw [snap_step (fun v => Value.int .i64 (cls v)) _ st n k v hk hv]

theorem trip_main (n g K : Nat) (x : Int) (a : Option Addr) (len cap : Nat) (zs : List Int) (w : World) (hlen : len ≤ 65536) (hn : n ≤ 65536) (hg : g ≤ 1073741824) (hK : K ≤ 65536) (hrow : IsRow .i32 w a len cap zs) :
    Calls Tryz.prog 6 #[.int .i64 n, .int .i64 g, .slice a len cap, .int .i64 K, .int .i32 x] w fun e w' => e = .returned (.bool true) ∧ Below w.heap.size w w' := by
  have HB := Lib.hid (bytes21_yes n g a len cap K x w (by omega))
  have HP := Lib.hid (copy_any a len cap zs w (by omega) hrow)
  have hle := hrow.le
  have HN : ∀ W : World, Calls Tryz.prog 10 #[.int .i64 n, .int .i64 g, .int .i64 262144] W fun e w' => e = .returned (.pointer (some ⟨W.heap.size + 1, 0, none⟩)) ∧ RegS w' (W.heap.size + 1) W.heap.size [] n g 262144 ∧ Below W.heap.size W w' := fun W => newS n g 262144 W hn
  have HN' := Lib.hid HN
  have g1 : ¬ (65536 : Int) < (len : Int) := by omega
  have g2 : ¬ (n : Int) < 0 := by omega
  have g3 : ¬ (65536 : Int) < (n : Int) := by omega
  have g4 : ¬ (g : Int) < 0 := by omega
  have g5 : ¬ (1073741824 : Int) < (g : Int) := by omega
  have g6 : ¬ (K : Int) < 0 := by omega
  have g7 : ¬ (65536 : Int) < (K : Int) := by omega
  clear HN hrow
  go_enter Tryz.func6, Tryz.ntmps6
  go_wp2_with (go_at_call 21; refine HB.out.mono ?_; rintro e w' ⟨rfl, rfl⟩)
  refine HP.out.mono ?_
  rintro e w1 ⟨v, rfl, ao, rfl, hao⟩
  have hao' := Lib.hid hao
  clear hao
  go_wp2_with fail
  refine (HN'.out _).mono ?_
  rintro e w2 ⟨rfl, hr2⟩
  have hr2' := Lib.hid hr2
  clear hr2
  go_wp2_with fail
  have hst0 : Hid (St w w2 (w1.heap.size + 1) zs len g 262144 262144 []) := St.start hr2'.out.1 hr2'.out.2 (by omega) (by omega) hao'.out.1 hao'.out.2
  generalize hR : w1.heap.size + 1 = R at *
  clear hR
  have hao2 := Lib.hid hao'.out.1
  clear hr2' hao' HB HP HN' g1 g2 g3 g4 g5 g6 g7
  have ho := FPlain.ofInt_self
  go_loopw [12] (fun i wr => ∃ k : Nat, k ≤ len ∧ i = .int .i64 k ∧ Hid (St w wr R zs len g 262144 262144 ((zs.take k).map num))) (fun i _ => len - (intOf i).toNat)
  case atStart => exact ⟨0, Nat.zero_le _, rfl, hst0⟩
  case round =>
    obtain ⟨k, hk, rfl, hst⟩ := hrel
    by_cases hlt : k < len
    · obtain ⟨A1, cap', hr, hcap, hm, hA1, hRR, hC, hb⟩ := hst.out
      obtain rfl : ao = some ⟨w.heap.size, 0, none⟩ := (hao2.out (by omega)).1
      have cs : wr.cell? ⟨w.heap.size, k, none⟩ = some (.int .i32 (zs.getD k 0)) := get_cell (hC (by omega)).2.2 hlt hle
      have HPu := Lib.hid (fun b => pushS R A1 _ cap' g 262144 b wr (by omega) hg (by omega) (by simp; omega) hr)
      have HNx := Lib.hid (fun st' w' hn => St.next (zs := zs) (len := len) (st' := st') (w' := w') hr hcap hm hA1 hRR hC hb hn)
      clear hr hC hb hcap hm hA1 hRR hst
      go_wp2_with fail
      refine (HPu.out _).mono ?_
      rintro e w3 ⟨rfl, hnx⟩
      have hst3 := Lib.hid (HNx.out _ _ hnx)
      clear hnx
      go_wp2_with fail
      go_roundw
      case rel => exact ⟨k + 1, by omega, by go_num, by rw [take_num zs k (by omega)]; exact hst3⟩
      case measure => simp [intOf]; omega
    · obtain rfl : k = len := by omega
      obtain ⟨A1, cap', hr, hcap, hm, hA1, hRR, hC, hb⟩ := hst.out
      have HS1 := Lib.hid (settopS R A1 _ K cap' g 262144 wr (by omega) hg (by omega) (by omega) hr)
      have HNx := Lib.hid (fun st' w' hn => St.next (zs := zs) (len := k) (st' := st') (w' := w') hr hcap hm hA1 hRR hC hb hn)
      have hmF := hmkF K (by omega)
      have hmI := hmkI K (by omega)
      obtain ⟨F0, hF0⟩ : ∃ M, M = (List.replicate K (Value.float .f64 0)).toArray := ⟨_, rfl⟩
      obtain ⟨I0, hI0⟩ : ∃ M, M = (List.replicate K (Value.int .i64 0)).toArray := ⟨_, rfl⟩
      rw [← hF0] at hmF
      rw [← hI0] at hmI
      have hF0' := Lib.hid hF0
      have hI0' := Lib.hid hI0
      clear hr hC hb hcap hm hA1 hRR hst hF0 hI0
      go_wp2_with fail
      refine HS1.out.mono ?_
      rintro e w3 ⟨rfl, hnx⟩
      have hst3 := HNx.out _ _ hnx
      obtain ⟨A2, cap2, hr, hcap, hm, hA1, hRR, hC, hb⟩ := hst3
      have hget := Lib.hid (once_get zs k K)
      have hlen2 := Lib.hid (length_toTop (List.map num (List.take k zs)) K)
      generalize hS : toTop (List.map num (List.take k zs)) K = st2 at *
      have hsz := hr.size
      have hs0 : Hid (Snap w ((w3.alloc (.cells F0 28)).alloc (.cells I0 3)) R A2 w3.heap.size st2 cap2 g 262144 K 0) := by
        have e1 : (w3.alloc (.cells F0 28)).heap.size = w3.heap.size + 1 := by simp
        refine ⟨hr.kept (((Keeps.refl (fun _ => False) w3).alloc _).alloc _) id id, ?_, ?_, ((hb.alloc (by omega) _).alloc (by rw [e1]; omega) _)⟩
        · have : (snapV st2 K 0).toArray = F0 := by rw [hF0'.out]; simp [snapV]
          rw [this]
          exact alloc_old _ (heap_alloc_new w3 _)
        · have : (snapC st2 K 0).toArray = I0 := by rw [hI0'.out]; simp [snapC]
          rw [this, ← e1]
          exact heap_alloc_new _ _
      have hb1 : w.heap.size ≤ w3.heap.size := by omega
      have hcb : cap2 ≤ 262144 := hcap
      have hbA : w.heap.size ≤ A2 := hA1
      have hbR : w.heap.size ≤ R := hRR
      clear hr hC hb hcap hm hA1 hRR hnx HS1 HNx hS
      go_wp2_with fail
      go_loopw [15] (fun i wr => ∃ q : Nat, q ≤ K ∧ i = .int .i64 q ∧ Hid (Snap w wr R A2 w3.heap.size st2 cap2 g 262144 K q)) (fun i _ => K - (intOf i).toNat)
      case atStart => exact ⟨0, Nat.zero_le _, rfl, hs0⟩
      case round =>
        obtain ⟨q, hq, rfl, hsn⟩ := hrel
        by_cases hlt2 : q < K
        · obtain ⟨v, hov, hvq⟩ := hget.out q hlt2
          have hc0 := Lib.hid (slotS R A2 st2 cap2 g 262144 q v wr hsn.out.1 hvq)
          have lv : (snapV st2 K q).length = K := length_snap _ _ _ _ _ (by omega) hlen2.out
          have lc : (snapC st2 K q).length = K := length_snap _ _ _ _ _ (by omega) hlen2.out
          obtain ⟨u1, b1⟩ : ∃ u, wr.cell? ⟨w3.heap.size, q, none⟩ = some u := ⟨_, by rw [cell_of hsn.out.2.1]; simp [lv, hlt2]; rfl⟩
          obtain ⟨u2, b2⟩ : ∃ u, wr.cell? ⟨w3.heap.size + 1, q, none⟩ = some u := ⟨_, by rw [cell_of hsn.out.2.2.1]; simp [lc, hlt2]; rfl⟩
          have z1 : wr.frozen? ⟨w3.heap.size, q, none⟩ = false := free_of hsn.out.2.1
          have z2 : wr.frozen? ⟨w3.heap.size + 1, q, none⟩ = false := free_of hsn.out.2.2.1
          have hvq' := Lib.hid hvq
          clear hvq lv lc hov
          go_wp2_with (go_at_call 15; refine hc0.out.mono ?_; rintro e w' ⟨rfl, rfl⟩)
          go_roundw
          case rel => exact ⟨q + 1, by omega, by go_num, hsn.out.step hlt2 hvq'.out hsz.1 hsz.2 hb1⟩
          case measure => simp [intOf]; omega
        · obtain rfl : q = K := by omega
          have hVl := lt_of hsn.out.2.2.1
          have HPu := Lib.hid (pushS R A2 st2 cap2 g 262144 (floatOfInt .f64 x) wr (by omega) hg (by omega) (by rw [hlen2.out]; omega) hsn.out.1)
          go_wp2_with fail
          refine HPu.out.mono ?_
          rintro e w5 ⟨rfl, A5, cap5, hr5, hc1, hc2, hk5, hA5⟩
          have hV5 : Hid (w5.heap[w3.heap.size]? = some (.cells (snapV st2 q q).toArray 28 (0, 0)) ∧ w5.heap[w3.heap.size + 1]? = some (.cells (snapC st2 q q).toArray 3 (0, 0)) ∧ Below w.heap.size w w5) := by
            refine ⟨?_, ?_, Keeps.below_of hsn.out.2.2.2 hk5 (by omega) (fun n hn ht => ?_)⟩
            · exact (hk5.block _ (by omega) (fun ht => by rcases ht with e | e <;> omega)).trans hsn.out.2.1
            · exact (hk5.block _ (by omega) (fun ht => by rcases ht with e | e <;> omega)).trans hsn.out.2.2.1
            · rcases ht with e | e <;> omega
          have hcap5 : cap5 ≤ 262144 := Nat.le_trans hc2 (Nat.max_le.2 ⟨hcb, Nat.le_refl _⟩)
          have HT : Hid (Calls Tryz.prog 12 #[.pointer (some ⟨R, 0, none⟩)] w5 fun e w' => e = .returned (.int .i64 ((q : Int) + 1)) ∧ w5 = w') := by
            have := topS R A5 _ cap5 g 262144 w5 hr5
            rw [show ((st2 ++ [NUM (floatOfInt FloatKind.f64 x)]).length : Int) = (q : Int) + 1 by simp [hlen2.out]] at this
            exact this
          have HPo : Hid (Calls Tryz.prog 13 #[.pointer (some ⟨R, 0, none⟩)] w5 fun e w' => e = .returned (.tuple #[.int .i64 2, .float .f64 (floatOfInt .f64 x)]) ∧ RegT w' R A5 st2 cap5 g 262144 LNIL ∧ Keeps (fun k => k = R ∨ k = A5) w5 w') := popT R A5 st2 _ cap5 g 262144 w5 (by omega) hr5
          have hV6 : ∀ w6, Keeps (fun k => k = R ∨ k = A5) w5 w6 → w6.heap[w3.heap.size]? = some (.cells (snapV st2 q q).toArray 28 (0, 0)) ∧ w6.heap[w3.heap.size + 1]? = some (.cells (snapC st2 q q).toArray 3 (0, 0)) ∧ Below w.heap.size w w6 := by
            intro w6 hk6
            have h1 := lt_of hV5.out.1
            have h2 := lt_of hV5.out.2.1
            have h3 := hk5.size
            refine ⟨?_, ?_, Keeps.below_of hV5.out.2.2 hk6 (by omega) (fun n hn ht => by rcases ht with e | e <;> omega)⟩
            · exact (hk6.block _ h1 (fun ht => by rcases ht with e | e <;> omega)).trans hV5.out.1
            · exact (hk6.block _ h2 (fun ht => by rcases ht with e | e <;> omega)).trans hV5.out.2.1
          have hV6' := Lib.hid hV6
          clear hV6 hr5 hk5 hA5 hc1 hc2 hcap5 hsn
          go_wp2_with fail
          refine HT.out.mono ?_
          rintro e w5' ⟨rfl, rfl⟩
          go_wp2_with fail
          refine HPo.out.mono ?_
          rintro e w6 ⟨rfl, hr6, hk6⟩
          have hV7 := Lib.hid (hV6'.out w6 hk6)
          have HT6 : Hid (Calls Tryz.prog 12 #[.pointer (some ⟨R, 0, none⟩)] w6 fun e w' => e = .returned (.int .i64 (q : Int)) ∧ w6 = w') := by
            have := topS R A5 _ cap5 g 262144 w6 hr6.toS
            rw [hlen2.out] at this
            exact this
          have hr6' := Lib.hid hr6
          clear hr6 hk6
          go_wp2_with (go_at_call 12; refine HT6.out.mono ?_; rintro e w' ⟨rfl, rfl⟩)
          go_loop [20] (fun i => ∃ r : Nat, r ≤ q ∧ i = .int .i64 r) (fun i => q - (intOf i).toNat)
          case atStart => exact ⟨0, Nat.zero_le _, rfl⟩
          case round =>
            obtain ⟨r, hr2, rfl⟩ := hrel
            by_cases hlt3 : r < q
            · obtain ⟨v, hov, hvq⟩ := hget.out r hlt3
              have hc0 := Lib.hid (slotS R A5 st2 cap5 g 262144 r v w6 hr6'.out.toS hvq)
              have b1 : w6.cell? ⟨w3.heap.size, r, none⟩ = some (.float .f64 (numOf v)) := by
                rw [cell_of hV7.out.1]
                simp [snapV, hvq, hlt3]
              have b2 : w6.cell? ⟨w3.heap.size + 1, r, none⟩ = some (.int .i64 (cls v)) := by
                rw [cell_of hV7.out.2.1]
                simp [snapC, hvq, hlt3]
              clear hvq
              generalize numOf v = nv at *
              generalize cls v = cv at *
              go_wp2_with (go_at_call 15; refine hc0.out.mono ?_; rintro e w' ⟨rfl, rfl⟩)
              go_round
              case rel => exact ⟨r + 1, by omega, by go_num⟩
              case measure => simp [intOf]; omega
            · obtain rfl : r = q := by omega
              have hc0 : Hid (Calls Tryz.prog 15 #[.pointer (some ⟨R, 0, none⟩), .int .i64 r] w6 fun e w' => e = .returned (.tuple #[.int .i64 1, .float .f64 0]) ∧ w6 = w') := by
                have := slotT R A5 st2 cap5 g 262144 LNIL w6 hr6'.out (Or.inr (Or.inl rfl))
                rw [hlen2.out] at this
                exact this
              go_wp2_with (go_at_call 15; refine hc0.out.mono ?_; rintro e w' ⟨rfl, rfl⟩)
              go_ret
              exact ⟨rfl, hV7.out.2.2⟩

theorem trip_any (n g : Int) (a : Option Addr) (len cap : Nat) (zs : List Int) (k x : Int) (w : World) (hrow : IsRow .i32 w a len cap zs) :
    Calls Tryz.prog 6 #[.int .i64 n, .int .i64 g, .slice a len cap, .int .i64 k, .int .i32 x] w fun e w' => e = .returned (.bool true) ∧ Below w.heap.size w w' := by
  by_cases h : Good6 n g len k
  · obtain ⟨h1, h2, h3, h4, h5, h6, h7⟩ := h
    obtain ⟨N, rfl⟩ := Int.eq_ofNat_of_zero_le h2
    obtain ⟨G, rfl⟩ := Int.eq_ofNat_of_zero_le h4
    obtain ⟨K, rfl⟩ := Int.eq_ofNat_of_zero_le h6
    exact trip_main N G K x a len cap zs w h1 (by omega) (by omega) (by omega) hrow
  · exact (trip_out n g a len cap k x w h).mono fun e w' ⟨he, hw⟩ => ⟨he, hw ▸ Below.refl _ _⟩
end Go.Proofs.YtdnomaafjmfdkaaGreatDoor
