/-
  pairCount, modelMaxN, applyScript: the table behind the script.
-/
import Derived.Test.YtbgolkdhcgjfkaaGreatDoorCopy
namespace Go.Proofs.YtbgolkdhcgjfkaaGreatDoor
open Go.RowKit
set_option maxRecDepth 100000
set_option maxHeartbeats 400000

theorem pair_count (a b : Option Addr) (n m c d : Nat) (w : World) :
    Calls Tryz.prog 31 #[.slice a n c, .slice b m d] w fun e w' => e = .returned (.int .i64 (min n m : Nat)) ∧ w = w' := by
  by_cases h : n < m
  · have hm : min n m = n := by omega
    rw [hm]
    clear hm
    go_enter Tryz.func31, Tryz.ntmps31
    go_wp2
    go_ret
    exact ⟨rfl, rfl⟩
  · have hm : min n m = m := by omega
    rw [hm]
    clear hm
    go_enter Tryz.func31, Tryz.ntmps31
    go_wp2
    go_ret
    exact ⟨rfl, rfl⟩

/-- A slice of the call's own that holds K. -/
def IRow (W : World) (v : Value) (K : List Int) : Prop := ∃ ao, v = .slice ao K.length K.length ∧ (0 < K.length → ∃ B, ao = some ⟨B, 0, none⟩ ∧ W.heap[B]? = some (.cells (K.map (Value.int .i32)).toArray 21 (0, 0)))
def SRow (W : World) (v : Value) (L : List ByteArray) : Prop := ∃ ao, v = .slice ao L.length L.length ∧ (0 < L.length → ∃ B, ao = some ⟨B, 0, none⟩ ∧ W.heap[B]? = some (.cells (L.map Value.string).toArray 9 (0, 0)))

theorem maxK_take (ps : List (Int × Int)) (k : Nat) (p : Int × Int) (h : ps[k]? = some p) : maxK (ps.take (k + 1)) = max (maxK (ps.take k)) p.1.toNat := by
  rw [List.take_add_one, h]; exact maxK_snoc _ _

theorem model_max (K V : List Int) (v1 v2 : Value) (w : World) (h1 : IRow w v1 K) (h2 : IRow w v2 V) (hK : K.length ≤ 4096) (hb : ∀ z ∈ K, -65536 ≤ z ∧ z ≤ 65536) :
    Calls Tryz.prog 33 #[v1, v2] w fun e w' => e = .returned (.int .i64 (maxK (K.zip V))) ∧ w = w' := by
  obtain ⟨a1, rfl, c1⟩ := h1
  obtain ⟨a2, rfl, c2⟩ := h2
  have HP := Lib.hid (pair_count a1 a2 K.length V.length K.length V.length w)
  have hl : (K.zip V).length = min K.length V.length := by simp
  have hn : min K.length V.length ≤ 4096 := by omega
  have hmn : min K.length V.length ≤ K.length := by omega
  generalize hN : min K.length V.length = N at *
  have hl' := Lib.hid hl
  clear hN hl c2
  have c1' := Lib.hid c1
  clear c1
  go_enter Tryz.func33, Tryz.ntmps33
  go_wp2_with fail
  refine HP.out.mono ?_
  rintro e w' ⟨rfl, rfl⟩
  go_wp2_with fail
  go_loop [6, 7] (fun m i => ∃ k t : Nat, k ≤ N ∧ t ≤ 65536 ∧ i = .int .i64 k ∧ m = .int .i64 t ∧ Hid (t = maxK ((K.zip V).take k))) (fun _ i => N - (intOf i).toNat)
  case atStart => exact ⟨0, 0, Nat.zero_le _, by omega, rfl, rfl, Lib.hid rfl⟩
  case round =>
    obtain ⟨k, t, hk, ht, rfl, rfl, hm⟩ := hrel
    by_cases hlt : k < N
    · obtain ⟨B, rfl, hB⟩ := c1'.out (by omega)
      have hkK : k < K.length := by omega
      obtain ⟨p, hp⟩ : ∃ p, (K.zip V)[k]? = some p := ⟨_, List.getElem?_eq_getElem (by rw [hl'.out]; exact hlt)⟩
      have hpz : K[k]? = some p.1 := by rw [List.getElem?_zip_eq_some] at hp; exact hp.1
      have cs : w.cell? ⟨B, k, none⟩ = some (.int .i32 p.1) := by rw [cell_of hB]; simp [hpz]
      have hz := hb p.1 (List.mem_of_getElem? hpz)
      have hst : maxK ((K.zip V).take (k + 1)) = max t p.1.toNat := by rw [maxK_take _ _ _ hp, ← hm.out]
      have hst' := Lib.hid hst
      clear hst hp hpz
      generalize p.1 = z at *
      by_cases hgt : (t : Int) < z
      · obtain ⟨zn, rfl⟩ := Int.eq_ofNat_of_zero_le (show 0 ≤ z by omega)
        go_wp2_with fail
        go_round
        case rel => exact ⟨k + 1, zn, by omega, by omega, by go_num, by go_num, Lib.hid (by rw [hst'.out]; omega)⟩
        case measure => simp [intOf]; omega
      · go_wp2_with fail
        go_round
        case rel => exact ⟨k + 1, t, by omega, by omega, by go_num, by go_num, Lib.hid (by rw [hst'.out]; omega)⟩
        case measure => simp [intOf]; omega
    · obtain rfl : k = N := by omega
      have hfin : t = maxK (K.zip V) := by rw [hm.out, List.take_of_length_le (by rw [hl'.out]; exact Nat.le_refl _)]
      go_wp2_with fail
      go_ret
      exact ⟨by rw [← hfin]; rfl, rfl⟩

theorem wrap_id (z : Int) (h1 : -65536 ≤ z) (h2 : z ≤ 65536) : IntKind.i64.wrap z = z := by
  unfold IntKind.wrap
  have e1 : IntKind.i64.bits = 64 := rfl
  have e2 : IntKind.i64.signed = true := rfl
  simp only [e1, e2, Bool.true_and]
  by_cases h : z % 2 ^ 64 ≥ 2 ^ (64 - 1)
  · rw [if_pos (by simpa using h)]; omega
  · rw [if_neg (by simpa using h)]; omega

theorem IRow.keep {S : Nat → Prop} {w w' : World} {v : Value} {K : List Int} (h : IRow w v K) (hk : Keeps S w w') (hS : 0 < K.length → ∀ B n c, v = .slice (some ⟨B, 0, none⟩) n c → ¬ S B) : IRow w' v K := by
  obtain ⟨ao, rfl, h⟩ := h
  refine ⟨ao, rfl, fun h0 => ?_⟩
  obtain ⟨B, rfl, hB⟩ := h h0
  exact ⟨B, rfl, (hk.block B (lt_of hB) (hS h0 B _ _ rfl)).trans hB⟩
theorem SRow.keep {S : Nat → Prop} {w w' : World} {v : Value} {K : List ByteArray} (h : SRow w v K) (hk : Keeps S w w') (hS : 0 < K.length → ∀ B n c, v = .slice (some ⟨B, 0, none⟩) n c → ¬ S B) : SRow w' v K := by
  obtain ⟨ao, rfl, h⟩ := h
  refine ⟨ao, rfl, fun h0 => ?_⟩
  obtain ⟨B, rfl, hB⟩ := h h0
  exact ⟨B, rfl, (hk.block B (lt_of hB) (hS h0 B _ _ rfl)).trans hB⟩

/-- The table behind a script of k integer writes and j string writes. -/
def Scripted (w : World) (T : Nat) (G : Nat → Prop) (ps : List (Int × Int)) (L : List ByteArray) (n : Nat) : Prop :=
  ∃ av dv sv kv iv ks, TabF w T G av dv sv kv iv (sX ps) (sD ps) (sS L) ks ∧ ks.length ≤ n

theorem apply_script (K V : List Int) (L : List ByteArray) (v1 v2 v3 : Value) (T : Nat) (G : Nat → Prop) (w : World) (h : Scripted w T G [] [] 0) (hG : ∀ k, w.heap.size ≤ k → G k)
    (h1 : IRow w v1 K) (h2 : IRow w v2 V) (h3 : SRow w v3 L) (g1 : 0 < K.length → ∀ B n c, v1 = .slice (some ⟨B, 0, none⟩) n c → ¬ G B) (g2 : 0 < V.length → ∀ B n c, v2 = .slice (some ⟨B, 0, none⟩) n c → ¬ G B) (g3 : 0 < L.length → ∀ B n c, v3 = .slice (some ⟨B, 0, none⟩) n c → ¬ G B)
    (hK : K.length ≤ 4096) (hV : V.length ≤ 4096) (hL : L.length ≤ 4096) (hb : ∀ z ∈ K, -65536 ≤ z ∧ z ≤ 65536) :
    Calls Tryz.prog 18 #[.pointer (some ⟨T, 0, none⟩), v1, v2, v3] w fun e w' => e = .returned (.tuple #[]) ∧ Keeps G w w' ∧ Scripted w' T G (K.zip V) L 8192 := by
  have H1 := Lib.hid (fun (W : World) (hk : Keeps G w W) => h1.keep hk g1)
  have H2 := Lib.hid (fun (W : World) (hk : Keeps G w W) => h2.keep hk g2)
  have H3 := Lib.hid (fun (W : World) (hk : Keeps G w W) => h3.keep hk g3)
  obtain ⟨a1, rfl, c1⟩ := h1
  obtain ⟨a2, rfl, c2⟩ := h2
  obtain ⟨a3, rfl, c3⟩ := h3
  have HP := Lib.hid (pair_count a1 a2 K.length V.length K.length V.length w)
  have hl : (K.zip V).length = min K.length V.length := by simp
  have hn : min K.length V.length ≤ 4096 := by omega
  have hmn : min K.length V.length ≤ K.length := by omega
  have hmv : min K.length V.length ≤ V.length := by omega
  generalize hN : min K.length V.length = N at *
  have hl' := Lib.hid hl
  have hh := Lib.hid h
  have hG' := Lib.hid hG
  clear hN hl c1 c2 c3 h g1 g2 g3 hG
  go_enter Tryz.func18, Tryz.ntmps18
  go_wp2_with fail
  refine HP.out.mono ?_
  rintro e w' ⟨rfl, rfl⟩
  go_wp2_with fail
  go_loopw [9] (fun i wr => ∃ k : Nat, k ≤ N ∧ i = .int .i64 k ∧ Hid (Scripted wr T G ((K.zip V).take k) [] k ∧ Keeps G w wr)) (fun i _ => N - (intOf i).toNat)
  case atStart => exact ⟨0, Nat.zero_le _, rfl, Lib.hid ⟨hh.out, Keeps.refl _ _⟩⟩
  case round =>
    obtain ⟨k, hk, rfl, hr⟩ := hrel
    by_cases hlt : k < N
    · obtain ⟨b1, e1, d1⟩ := H1.out _ hr.out.2
      obtain ⟨b2, e2, d2⟩ := H2.out _ hr.out.2
      cases e1
      cases e2
      obtain ⟨B1, rfl, hB1⟩ := d1 (by omega)
      obtain ⟨B2, rfl, hB2⟩ := d2 (by omega)
      have hkK : k < K.length := by omega
      have hkV : k < V.length := by omega
      obtain ⟨p, hp⟩ : ∃ p, (K.zip V)[k]? = some p := ⟨_, List.getElem?_eq_getElem (by rw [hl'.out]; exact hlt)⟩
      have hpz := hp
      rw [List.getElem?_zip_eq_some] at hpz
      have cs1 : wr.cell? ⟨B1, k, none⟩ = some (.int .i32 p.1) := by rw [cell_of hB1]; simp [hpz.1]
      have cs2 : wr.cell? ⟨B2, k, none⟩ = some (.int .i32 p.2) := by rw [cell_of hB2]; simp [hpz.2]
      have hz := hb p.1 (List.mem_of_getElem? hpz.1)
      obtain ⟨⟨av, dv, sv, kv, iv, ks, ht, hks⟩, hkp⟩ := hr.out
      have HS := Lib.hid (rset_int ht.drew (fun j hj => hG'.out j (by have := hkp.size; have hj' : wr.heap.size ≤ j := hj; omega)) (floatOfInt .f64 p.2) p.1 hz.1 hz.2 (by omega))
      have hstep : ((K.zip V).take (k + 1)) = (K.zip V).take k ++ [p] := by rw [List.take_add_one, hp]; rfl
      have hst' := Lib.hid hstep
      have hks' := Lib.hid hks
      have hkp' := Lib.hid ((hkp.trans (Keeps.drew (Keeps.refl (fun _ => False) wr)) (fun _ _ e => e.elim)) : Keeps G w wr.drew)
      have hwr : IntKind.i64.wrap p.1 = p.1 := wrap_id p.1 (by omega) (by omega)
      have hx1 := Lib.hid (fun W hk' => (H1.out W hk'))
      have hx2 := Lib.hid (fun W hk' => (H2.out W hk'))
      have hzk := Lib.hid hpz
      clear hstep hp hpz ht d1 d2 hB1 hB2 hks hz hkp
      go_wp2_with fail
      go_region_held3 (fun w' => w'.cell? ⟨B1, k, none⟩ = some (.int .i32 p.1) ∧ w'.cell? ⟨B2, k, none⟩ = some (.int .i32 p.2)) (go_keep)
        ((go_at_call 29; refine HS.out.mono ?_; rintro e w5 ⟨rfl, hk5, av5, dv5, kv5, iv5, ks5, h5, hl5⟩
          have hkk := hkp'.out.trans hk5 (fun _ _ h => h)
          have d1 : w5.cell? ⟨B1, k, none⟩ = some (.int .i32 p.1) := by
            obtain ⟨b, e, d⟩ := hx1.out w5 hkk
            cases e
            obtain ⟨B, e, d⟩ := d (by omega)
            cases e
            rw [cell_of d]; simp [hzk.out.1]
          have d2 : w5.cell? ⟨B2, k, none⟩ = some (.int .i32 p.2) := by
            obtain ⟨b, e, d⟩ := hx2.out w5 hkk
            cases e
            obtain ⟨B, e, d⟩ := d (by omega)
            cases e
            rw [cell_of d]; simp [hzk.out.2]
          have h5' : Hid (Scripted w5 T G ((K.zip V).take (k + 1)) [] (k + 1) ∧ Keeps G w w5) := Lib.hid ⟨⟨av5, dv5, sv, kv5, iv5, ks5, by rw [hst'.out, sX_snoc, sD_snoc]; exact h5, by have := hks'.out; omega⟩, hkk⟩
          clear h5 hl5 hk5 hkk))
      go_wp2_with fail
      go_roundw
      case rel => exact ⟨k + 1, by omega, by go_num, h5'⟩
      case measure => simp [intOf]; omega
    · obtain rfl : k = N := by omega
      have hr0 : Hid (Scripted wr T G (K.zip V) [] 4096 ∧ Keeps G w wr) := by
        obtain ⟨⟨av, dv, sv, kv, iv, ks, ht, hks⟩, hkp⟩ := hr.out
        rw [List.take_of_length_le (by rw [hl'.out]; exact Nat.le_refl _)] at ht
        exact Lib.hid ⟨⟨av, dv, sv, kv, iv, ks, ht, by omega⟩, hkp⟩
      clear hr H1 H2
      go_wp2_with fail
      go_loopw [10] (fun i wr => ∃ j : Nat, j ≤ L.length ∧ i = .int .i64 j ∧ Hid (Scripted wr T G (K.zip V) (L.take j) (4096 + j) ∧ Keeps G w wr)) (fun i _ => L.length - (intOf i).toNat)
      case atStart => exact ⟨0, Nat.zero_le _, rfl, hr0⟩
      case round =>
        obtain ⟨j, hj, rfl, hr⟩ := hrel
        by_cases hltj : j < L.length
        · obtain ⟨b3, e3, d3⟩ := H3.out _ hr.out.2
          cases e3
          obtain ⟨B3, rfl, hB3⟩ := d3 (by omega)
          obtain ⟨s, hs⟩ : ∃ s, L[j]? = some s := ⟨_, List.getElem?_eq_getElem hltj⟩
          have cs3 : wr.cell? ⟨B3, j, none⟩ = some (.string s) := by rw [cell_of hB3]; simp [hs]
          obtain ⟨⟨av, dv, sv, kv, iv, ks, ht, hks⟩, hkp⟩ := hr.out
          have HS := Lib.hid (rss_any ht (fun i hi => hG'.out i (by have := hkp.size; omega)) s (floatOfInt .f64 ((j : Int) + 1)) (by omega))
          have hstep : L.take (j + 1) = L.take j ++ [s] := by rw [List.take_add_one, hs]; rfl
          have hst' := Lib.hid hstep
          have hks' := Lib.hid hks
          have hkp' := Lib.hid hkp
          have hlj : Hid ((L.take j).length = j) := Lib.hid (by simp; omega)
          clear hstep hs ht d3 hB3 hks hkp hr
          go_wp2_with fail
          refine HS.out.mono ?_
          rintro e w5 ⟨rfl, hk5, sv5, kv5, iv5, ks5, h5, hl5⟩
          have h5' : Hid (Scripted w5 T G (K.zip V) (L.take (j + 1)) (4096 + (j + 1)) ∧ Keeps G w w5) := Lib.hid ⟨⟨av, dv, sv5, kv5, iv5, ks5, by rw [hst'.out, sS_snoc, hlj.out]; exact h5, by have := hks'.out; omega⟩, hkp'.out.trans hk5 (fun _ _ h => h)⟩
          clear h5 hl5 hk5
          go_wp2_with fail
          go_roundw
          case rel => exact ⟨j + 1, by omega, by go_num, h5'⟩
          case measure => simp [intOf]; omega
        · obtain rfl : j = L.length := by omega
          have hfin : Hid (Keeps G w wr ∧ Scripted wr T G (K.zip V) L 8192) := by
            obtain ⟨⟨av, dv, sv, kv, iv, ks, ht, hks⟩, hkp⟩ := hr.out
            rw [List.take_of_length_le (Nat.le_refl _)] at ht
            exact Lib.hid ⟨hkp, av, dv, sv, kv, iv, ks, ht, by omega⟩
          go_wp2_with fail
          go_end0
          exact ⟨rfl, hfin.out⟩
end Go.Proofs.YtbgolkdhcgjfkaaGreatDoor
