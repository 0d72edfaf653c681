/-
  RawSetInt with a number at every key of the array part: what it leaves of the table.
-/
import Derived.Test.YtbgolkdhcgjfkaaGreatDoorFresh
namespace Go.Proofs.YtbgolkdhcgjfkaaGreatDoor
open Go.RowKit
set_option maxRecDepth 100000
set_option maxHeartbeats 400000
attribute [local go_sem] sl_nil sl_some m45_nil m45_some m46_nil m46_some i_nn i_bn j_nn j_bn

section
variable {w w' : World} {T : Nat} {G : Nat → Prop} {av dv sv kv iv : Value} {xs : List Value} {cd cs : Value → Option Value} {ks : List Value}

/-- RawSetInt within the array part. -/
theorem rsi_in (h : TabF w T G av dv sv kv iv xs cd cs ks) (b k : Nat) (key : Int) (hkey : key = (k : Int) + 1) (hk : k < xs.length) (hn : key < 67108864) :
    Calls Tryz.prog 29 #[.pointer (some ⟨T, 0, none⟩), .int .i64 key, NUM b] w fun e w' => e = .returned (.tuple #[]) ∧ Keeps G w w' ∧ ∃ av', TabF w' T G av' dv sv kv iv (xs.set k (NUM b)) cd cs ks := by
  rcases owns_form h.tab.arr with ⟨_, e⟩ | ⟨g, c, e⟩
  · omega
  subst e
  have f1 : w.cell? ⟨T, 1, none⟩ = some (.slice (some ⟨g, 0, none⟩) xs.length c) := by rw [cell_of h.tab.cells]; rfl
  obtain ⟨u, fk⟩ : ∃ u, w.cell? ⟨g, k, none⟩ = some u := ⟨_, by rw [h.tab.arr.cellAt k (by omega)]; exact List.getElem?_eq_getElem hk⟩
  have zk := h.tab.arr.frozenAt k
  have hres := Lib.hid (h.setA (i := k) (v := NUM b))
  have HK := Lib.hid ((Keeps.refl G w).setCell (p := ⟨g, k, none⟩) (h.gA g rfl) (NUM b))
  have hk1 : ¬ key < 1 := by omega
  have hk2 : ¬ 67108864 ≤ key := by omega
  have hw1 : wrap64 (key - 1) = k := by unfold wrap64; omega
  have hke : key - 1 = (k : Int) := by omega
  clear h hn hkey
  generalize xs.length = n at *
  go_enter Tryz.func29, Tryz.ntmps29
  go_wp2
  go_end0
  exact ⟨rfl, HK.out, _, hres.out⟩

/-- RawSetInt beyond the last: nils between. -/
theorem rsi_past_full {g c : Nat} (h : TabF w T G (.slice (some ⟨g, 0, none⟩) xs.length c) dv sv kv iv xs cd cs ks) (hG : ∀ k, w.heap.size ≤ k → G k) (b d : Nat) (hd : 0 < d) (key : Int) (hkey : key = (xs.length : Int) + d + 1) (hn : key < 67108864) :
    Calls Tryz.prog 29 #[.pointer (some ⟨T, 0, none⟩), .int .i64 key, NUM b] w fun e w' => e = .returned (.tuple #[]) ∧ Keeps G w w' ∧ ∃ av', TabF w' T G av' dv sv kv iv (xs ++ List.replicate d LNIL ++ [NUM b]) cd cs ks := by
  have f1 : w.cell? ⟨T, 1, none⟩ = some (.slice (some ⟨g, 0, none⟩) xs.length c) := by rw [cell_of h.tab.cells]; rfl
  have hW := Lib.hid h
  have hG' := Lib.hid hG
  have HK0 := Lib.hid (Keeps.refl G w)
  obtain ⟨i0, hi, hI0, hI1, hI2⟩ := info_parts Tryz.info43'
  have hk1 : ¬ key < 1 := by omega
  have hk2 : ¬ 67108864 ≤ key := by omega
  have hw1 : wrap64 (key - 1) = (xs.length : Int) + d := by unfold wrap64; omega
  have hke : key - 1 = (xs.length : Int) + d := by omega
  have hlen : Hid (xs.length + d < 67108864) := Lib.hid (by omega)
  clear h hG hn hkey
  generalize hL : xs.length = n at *
  have hL' := Lib.hid hL
  clear hL
  go_enter Tryz.func29, Tryz.ntmps29
  go_wp2_with fail
  go_loopw [8] (fun i wr => ∃ q g1 c1 : Nat, q ≤ d ∧ i = .int .i64 q ∧ Hid (TabF wr T G (.slice (some ⟨g1, 0, none⟩) (n + q) c1) dv sv kv iv (xs ++ List.replicate q LNIL) cd cs ks) ∧ Hid (Keeps G w wr)) (fun i _ => d - (intOf i).toNat)
  case atStart => exact ⟨0, _, _, Nat.zero_le _, rfl, Lib.hid (by have := hW.out; simpa using this), HK0⟩
  case round =>
    obtain ⟨q, g1, c1, hqd, rfl, hq, HKq⟩ := hrel
    have p1 : wr.cell? ⟨T, 1, none⟩ = some (.slice (some ⟨g1, 0, none⟩) (n + q) c1) := by rw [cell_of hq.out.tab.cells]; rfl
    have z1 : wr.frozen? ⟨T, 1, none⟩ = false := free_of hq.out.tab.cells
    have rA := hq.out.tab.arr
    have hxl : (xs ++ List.replicate q LNIL).length = n + q := by simp [hL'.out]
    rw [hxl] at rA
    by_cases hlt : q < d
    · go_wp2_with (at_builtin; refine wpList_append_lies _ rfl (.tmp 66) (.tmp 68) 44 rfl 0 43 i0 .nilIface 1 16 Tryz.underlying44 hi hI0 hI1 hI2 rfl (by decide) _ _ _ rfl (rA.alloc _) ⟨_, 0, none⟩ 1 1 [LNIL] rfl rfl (cell_new_at _ _ _ _ (by first | rfl | simp)) (by intro u hu; simp at hu; subst hu; rfl) (by decide) (by have := hlen.out; unfold maxLen; omega) (by have := hlen.out; omega) (Nat.zero_le _) _ rfl ?_; intro g3 c3 w3 hown3 hgrow3 hat3 hlt3
                   have h3 := hq.out.pushA hown3 (by have := hL'.out; simp; omega) hgrow3 hat3 (fun k hk => hG'.out k (by have := HKq.out.size; omega))
                   have kk3 := HKq.out.trans (keeps_grown (S := G) (fun k e => hq.out.gA k e) hgrow3) (fun _ _ h => h)
                   have hT3 := (keeps_grown (S := fun k => Value.ownBlock (.slice (some ⟨g1, 0, none⟩) (n + q) c1) = some k) (fun k e => e) hgrow3).block T (lt_of hq.out.tab.cells) (fun e => hq.out.tab.offT.1 T e rfl)
                   have q6 : w3.cell? ⟨T, 1, none⟩ = some (.slice (some ⟨g1, 0, none⟩) (n + q) c1) := by rw [cell_of (hT3.trans hq.out.tab.cells)]; rfl
                   have z6 : w3.frozen? ⟨T, 1, none⟩ = false := free_of (hT3.trans hq.out.tab.cells)
                   have h3' := Lib.hid h3
                   have HK3 := Lib.hid (kk3.setCell (p := ⟨T, 1, none⟩) hq.out.gT (.slice (some ⟨g3, 0, none⟩) ((n + q) + 1) c3))
                   clear h3 kk3 hT3 hown3 hgrow3 hat3 hlt3 rA)
      go_roundw
      case rel => exact ⟨q + 1, g3, c3, by omega, by go_num, Lib.hid (by have := h3'.out; rwa [List.append_assoc, ← List.replicate_succ'] at this), HK3⟩
      case measure => simp [intOf]; omega
    · obtain rfl : q = d := by omega
      go_wp2_with (at_builtin; refine wpList_append_lies _ rfl (.tmp 76) (.tmp 78) 44 rfl 0 43 i0 .nilIface 1 16 Tryz.underlying44 hi hI0 hI1 hI2 rfl (by decide) _ _ _ rfl (rA.alloc _) ⟨_, 0, none⟩ 1 1 [NUM b] rfl rfl (cell_new_at _ _ _ _ (by first | rfl | simp)) (by intro u hu; simp at hu; subst hu; rfl) (by decide) (by have := hlen.out; unfold maxLen; omega) (by have := hlen.out; omega) (Nat.zero_le _) _ rfl ?_; intro g3 c3 w3 hown3 hgrow3 hat3 hlt3
                   have h3 := hq.out.pushA hown3 (by have := hL'.out; simp; omega) hgrow3 hat3 (fun k hk => hG'.out k (by have := HKq.out.size; omega))
                   have kk3 := HKq.out.trans (keeps_grown (S := G) (fun k e => hq.out.gA k e) hgrow3) (fun _ _ h => h)
                   have hT3 := (keeps_grown (S := fun k => Value.ownBlock (.slice (some ⟨g1, 0, none⟩) (n + q) c1) = some k) (fun k e => e) hgrow3).block T (lt_of hq.out.tab.cells) (fun e => hq.out.tab.offT.1 T e rfl)
                   have q6 : w3.cell? ⟨T, 1, none⟩ = some (.slice (some ⟨g1, 0, none⟩) (n + q) c1) := by rw [cell_of (hT3.trans hq.out.tab.cells)]; rfl
                   have z6 : w3.frozen? ⟨T, 1, none⟩ = false := free_of (hT3.trans hq.out.tab.cells)
                   have h3' := Lib.hid h3
                   have HK3 := Lib.hid (kk3.setCell (p := ⟨T, 1, none⟩) hq.out.gT (.slice (some ⟨g3, 0, none⟩) ((n + q) + 1) c3))
                   clear h3 kk3 hT3 hown3 hgrow3 hat3 hlt3 rA)
      go_end0
      exact ⟨rfl, HK3.out, _, h3'.out⟩

theorem rsi_past_nil (h : TabF w T G (.slice none 0 0) dv sv kv iv xs cd cs ks) (hG : ∀ k, w.heap.size ≤ k → G k) (b d : Nat) (hd : 0 < d) (key : Int) (hkey : key = (xs.length : Int) + d + 1) (hn : key < 67108864) :
    Calls Tryz.prog 29 #[.pointer (some ⟨T, 0, none⟩), .int .i64 key, NUM b] w fun e w' => e = .returned (.tuple #[]) ∧ Keeps G w w' ∧ ∃ av', TabF w' T G av' dv sv kv iv (xs ++ List.replicate d LNIL ++ [NUM b]) cd cs ks := by
  have f1 : w.cell? ⟨T, 1, none⟩ = some (.slice none 0 0) := by rw [cell_of h.tab.cells]; rfl
  have z1 : w.frozen? ⟨T, 1, none⟩ = false := free_of h.tab.cells
  have hTl : T < w.heap.size := lt_of h.tab.cells
  obtain ⟨hxs, hW0⟩ := h.newA 32 (by omega) w.heap.size rfl (hG _ (Nat.le_refl _))
  subst hxs
  have hmk : ∀ W : World, (Instr.makeSlice 44 (.int .i64 0) (.int .i64 32)).run Tryz.prog W = .ok (.slice (some ⟨W.heap.size, 0, none⟩) 0 32) (W.alloc (.cells (List.replicate 32 Value.nilIface).toArray 43)) := hmk44 32 (by omega)
  have HK00 := ((Keeps.refl G w).alloc (.cells (List.replicate 32 Value.nilIface).toArray 43)).setCell (p := ⟨T, 1, none⟩) h.gT (.slice (some ⟨w.heap.size, 0, none⟩) 0 32)
  rw [past _ _ _ hTl] at hW0 HK00
  obtain ⟨M, hM⟩ : ∃ M, M = (List.replicate 32 Value.nilIface).toArray := ⟨_, rfl⟩
  rw [← hM] at hW0 HK00 hmk
  have hW := Lib.hid hW0
  have hG' := Lib.hid hG
  have HK0 := Lib.hid HK00
  obtain ⟨i0, hi, hI0, hI1, hI2⟩ := info_parts Tryz.info43'
  simp only [List.length_nil] at hkey
  have hk1 : ¬ key < 1 := by omega
  have hk2 : ¬ 67108864 ≤ key := by omega
  have hw1 : wrap64 (key - 1) = (d : Int) := by unfold wrap64; omega
  have hke : key - 1 = (d : Int) := by omega
  have hlen : Hid (d < 67108864) := Lib.hid (by omega)
  clear h hG hn hkey hW0 HK00 hM
  go_enter Tryz.func29, Tryz.ntmps29
  go_wp2_with fail
  go_loopw [8] (fun i wr => ∃ q g1 c1 : Nat, q ≤ d ∧ i = .int .i64 q ∧ Hid (TabF wr T G (.slice (some ⟨g1, 0, none⟩) q c1) dv sv kv iv (List.replicate q LNIL) cd cs ks) ∧ Hid (Keeps G w wr)) (fun i _ => d - (intOf i).toNat)
  case atStart => exact ⟨0, _, _, Nat.zero_le _, rfl, hW, HK0⟩
  case round =>
    obtain ⟨q, g1, c1, hqd, rfl, hq, HKq⟩ := hrel
    have p1 : wr.cell? ⟨T, 1, none⟩ = some (.slice (some ⟨g1, 0, none⟩) q c1) := by rw [cell_of hq.out.tab.cells]; rfl
    have z1 : wr.frozen? ⟨T, 1, none⟩ = false := free_of hq.out.tab.cells
    have rA := hq.out.tab.arr
    rw [List.length_replicate] at rA
    by_cases hlt : q < d
    · go_wp2_with (at_builtin; refine wpList_append_lies _ rfl (.tmp 66) (.tmp 68) 44 rfl 0 43 i0 .nilIface 1 16 Tryz.underlying44 hi hI0 hI1 hI2 rfl (by decide) _ _ _ rfl (rA.alloc _) ⟨_, 0, none⟩ 1 1 [LNIL] rfl rfl (cell_new_at _ _ _ _ (by first | rfl | simp)) (by intro u hu; simp at hu; subst hu; rfl) (by decide) (by have := hlen.out; unfold maxLen; omega) (by have := hlen.out; omega) (Nat.zero_le _) _ rfl ?_; intro g3 c3 w3 hown3 hgrow3 hat3 hlt3
                   have h3 := hq.out.pushA hown3 (by simp) hgrow3 hat3 (fun k hk => hG'.out k (by have := HKq.out.size; omega))
                   have kk3 := HKq.out.trans (keeps_grown (S := G) (fun k e => hq.out.gA k e) hgrow3) (fun _ _ h => h)
                   have hT3 := (keeps_grown (S := fun k => Value.ownBlock (.slice (some ⟨g1, 0, none⟩) q c1) = some k) (fun k e => e) hgrow3).block T (lt_of hq.out.tab.cells) (fun e => hq.out.tab.offT.1 T e rfl)
                   have q6 : w3.cell? ⟨T, 1, none⟩ = some (.slice (some ⟨g1, 0, none⟩) q c1) := by rw [cell_of (hT3.trans hq.out.tab.cells)]; rfl
                   have z6 : w3.frozen? ⟨T, 1, none⟩ = false := free_of (hT3.trans hq.out.tab.cells)
                   have h3' := Lib.hid h3
                   have HK3 := Lib.hid (kk3.setCell (p := ⟨T, 1, none⟩) hq.out.gT (.slice (some ⟨g3, 0, none⟩) (q + 1) c3))
                   clear h3 kk3 hT3 hown3 hgrow3 hat3 hlt3 rA)
      go_roundw
      case rel => exact ⟨q + 1, g3, c3, by omega, by go_num, Lib.hid (by have := h3'.out; rwa [← List.replicate_succ'] at this), HK3⟩
      case measure => simp [intOf]; omega
    · obtain rfl : q = d := by omega
      go_wp2_with (at_builtin; refine wpList_append_lies _ rfl (.tmp 76) (.tmp 78) 44 rfl 0 43 i0 .nilIface 1 16 Tryz.underlying44 hi hI0 hI1 hI2 rfl (by decide) _ _ _ rfl (rA.alloc _) ⟨_, 0, none⟩ 1 1 [NUM b] rfl rfl (cell_new_at _ _ _ _ (by first | rfl | simp)) (by intro u hu; simp at hu; subst hu; rfl) (by decide) (by have := hlen.out; unfold maxLen; omega) (by have := hlen.out; omega) (Nat.zero_le _) _ rfl ?_; intro g3 c3 w3 hown3 hgrow3 hat3 hlt3
                   have h3 := hq.out.pushA hown3 (by simp) hgrow3 hat3 (fun k hk => hG'.out k (by have := HKq.out.size; omega))
                   have kk3 := HKq.out.trans (keeps_grown (S := G) (fun k e => hq.out.gA k e) hgrow3) (fun _ _ h => h)
                   have hT3 := (keeps_grown (S := fun k => Value.ownBlock (.slice (some ⟨g1, 0, none⟩) q c1) = some k) (fun k e => e) hgrow3).block T (lt_of hq.out.tab.cells) (fun e => hq.out.tab.offT.1 T e rfl)
                   have q6 : w3.cell? ⟨T, 1, none⟩ = some (.slice (some ⟨g1, 0, none⟩) q c1) := by rw [cell_of (hT3.trans hq.out.tab.cells)]; rfl
                   have z6 : w3.frozen? ⟨T, 1, none⟩ = false := free_of (hT3.trans hq.out.tab.cells)
                   have h3' := Lib.hid h3
                   have HK3 := Lib.hid (kk3.setCell (p := ⟨T, 1, none⟩) hq.out.gT (.slice (some ⟨g3, 0, none⟩) (q + 1) c3))
                   clear h3 kk3 hT3 hown3 hgrow3 hat3 hlt3 rA)
      go_end0
      exact ⟨rfl, HK3.out, _, h3'.out⟩

/-- The array part behind a write at index k (from 0). -/
def setV (xs : List Value) (k : Nat) (v : Value) : List Value := if k < xs.length then xs.set k v else xs ++ List.replicate (k - xs.length) LNIL ++ [v]

/-- RawSetInt with a number, at a key of the array part. -/
theorem rsi_any (h : TabF w T G av dv sv kv iv xs cd cs ks) (hG : ∀ k, w.heap.size ≤ k → G k) (b k : Nat) (key : Int) (hkey : key = (k : Int) + 1) (hn : key < 67108864) :
    Calls Tryz.prog 29 #[.pointer (some ⟨T, 0, none⟩), .int .i64 key, NUM b] w fun e w' => e = .returned (.tuple #[]) ∧ Keeps G w w' ∧ ∃ av', TabF w' T G av' dv sv kv iv (setV xs k (NUM b)) cd cs ks := by
  unfold setV
  by_cases h1 : k < xs.length
  · rw [if_pos h1]
    exact rsi_in h b k key hkey h1 hn
  · rw [if_neg h1]
    by_cases h2 : k = xs.length
    · rw [h2, Nat.sub_self, List.replicate_zero, List.append_nil]
      exact rsi_at h hG b key (by omega) hn
    · rcases owns_form h.tab.arr with ⟨e, _⟩ | ⟨g, c, e⟩
      · subst e; exact rsi_past_nil h hG b (k - xs.length) (by omega) key (by omega) hn
      · subst e; exact rsi_past_full h hG b (k - xs.length) (by omega) key (by omega) hn
end
end Go.Proofs.YtbgolkdhcgjfkaaGreatDoor
