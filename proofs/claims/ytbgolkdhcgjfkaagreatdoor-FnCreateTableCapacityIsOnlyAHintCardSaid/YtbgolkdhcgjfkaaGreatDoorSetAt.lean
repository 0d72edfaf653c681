/-
  RawSetInt with a number at the index behind the last: what it leaves of the table.
-/
import Derived.Test.YtbgolkdhcgjfkaaGreatDoorTab
import Derived.Deep.RegionHeld3
namespace Go.Proofs.YtbgolkdhcgjfkaaGreatDoor
open Go.RowKit
set_option maxRecDepth 100000
set_option maxHeartbeats 400000
attribute [local go_sem] sl_nil sl_some m45_nil m45_some m46_nil m46_some i_nn i_bn j_nn j_bn
theorem Tryz.info43' : (Tryz.prog.info? 43).map (fun i => (i.zero, i.size, i.bytes)) = some (some .nilIface, 1, 16) := by kernel_rfl

section
variable {w w' : World} {T : Nat} {G : Nat → Prop} {av dv sv kv iv : Value} {xs : List Value} {cd cs : Value → Option Value} {ks : List Value}

theorem madeCells_toList (n : Nat) : (madeCells (Value.nilIface).cells n).toList = List.replicate n .nilIface := by
  unfold madeCells
  apply List.ext_getElem?
  intro i
  simp [Value.cells]
  by_cases h : i < n
  · simp [h, Nat.mod_one]
  · simp [h]

theorem hmk44 (n : Nat) (hn : n ≤ 1073741824) (W : World) : (Instr.makeSlice 44 (.int .i64 0) (.int .i64 n)).run Tryz.prog W =
    .ok (.slice (some ⟨W.heap.size, 0, none⟩) 0 n) (W.alloc (.cells (List.replicate n Value.nilIface).toArray 43)) := by
  obtain ⟨i0, hi, hz0, hz1, hz2⟩ := info_parts Tryz.info43'
  have h := run_make (P := Tryz.prog) W 44 43 i0 .nilIface Tryz.underlying44 hi hz0 .i64 .i64 0 (n : Int) (by omega) (by omega) (by rw [hz2]; omega) (by omega)
  rw [hz1, Nat.mul_one, ← madeCells_toList] at *
  simpa using h

theorem cell_new_at (W : World) (x : Value) (t : TypeId) (B : Nat) (hB : B = W.heap.size) : ∀ j u, [x][j]? = some u → (W.alloc (.cells #[x] t)).cell? ((⟨B, 0, none⟩ : Addr).add j) = some u := by
  subst hB; exact cell_one_new W x t

/-- The array part, made. -/
theorem TabF.newA (h : TabF w T G (.slice none 0 0) dv sv kv iv xs cd cs ks) (n : Nat) (hn : n ≤ 1073741824) (b : Nat) (hb : b = w.heap.size) (hG : G b) :
    xs = [] ∧ TabF ((w.alloc (.cells (List.replicate n Value.nilIface).toArray 43)).setCell ⟨T, 1, none⟩ (.slice (some ⟨b, 0, none⟩) 0 n)) T G (.slice (some ⟨b, 0, none⟩) 0 n) dv sv kv iv [] cd cs ks := by
  subst hb
  obtain ⟨o1, o2, o3, o4, o5⟩ := h.tab.offT
  obtain ⟨l1, l2, l3, l4, l5, l6⟩ := h.tab.lt
  have hxs : xs = [] := by
    rcases owns_form h.tab.arr with ⟨_, h0⟩ | ⟨g, cap, hv⟩
    · exact List.eq_nil_of_length_eq_zero h0
    · cases hv
  have hk : Keeps (fun k => k = T) w ((w.alloc (.cells (List.replicate n Value.nilIface).toArray 43)).setCell ⟨T, 1, none⟩ (.slice (some ⟨w.heap.size, 0, none⟩) 0 n)) := Keeps.setCell (S := fun k => k = T) ((Keeps.refl _ w).alloc _) rfl _
  refine ⟨hxs, ⟨⟨?_, ?_, owns_keep h.tab.keys hk o2, h.tab.di.keep hk o3, h.tab.sd.keep hk o4, ?_, h.tab.both⟩, h.gT, fun k hk => ?_, h.gK, h.gD, h.gS, h.gI, fun k hk e => ?_, h.ds, h.di, h.si⟩⟩
  · rw [set_same _ (alloc_old _ h.tab.cells)]; rfl
  · exact owns_keep (World.ownsRow_made (base := 0) (size := 1) w _ n (Nat.zero_le _) (by unfold maxLen; omega) (by simp)) (Keeps.setCell (S := fun k => k = T) (Keeps.refl _ _) rfl _) (fun b hb e => by have e' : b = T := e; have := own_inj hb; omega)
  · obtain ⟨ci, h2⟩ := h.tab.ki; exact ⟨ci, h2.keep hk o5⟩
  · obtain rfl := own_inj hk; exact hG
  · have := own_inj hk; have := l2 _ e; omega

theorem rsi_at_full {g c : Nat} (h : TabF w T G (.slice (some ⟨g, 0, none⟩) xs.length c) dv sv kv iv xs cd cs ks) (hG : ∀ k, w.heap.size ≤ k → G k) (b : Nat) (key : Int) (hkey : key = (xs.length : Int) + 1) (hn : key < 67108864) :
    Calls Tryz.prog 29 #[.pointer (some ⟨T, 0, none⟩), .int .i64 key, NUM b] w fun e w' => e = .returned (.tuple #[]) ∧ Keeps G w w' ∧ ∃ av', TabF w' T G av' dv sv kv iv (xs ++ [NUM b]) cd cs ks := by
  have f1 : w.cell? ⟨T, 1, none⟩ = some (.slice (some ⟨g, 0, none⟩) xs.length c) := by rw [cell_of h.tab.cells]; rfl
  have z1 : w.frozen? ⟨T, 1, none⟩ = false := free_of h.tab.cells
  have rA := h.tab.arr
  have hW := Lib.hid h
  have hG' := Lib.hid hG
  have HK0 := Lib.hid (Keeps.refl G w)
  obtain ⟨i0, hi, hI0, hI1, hI2⟩ := info_parts Tryz.info43'
  have hk1 : ¬ key < 1 := by omega
  have hk2 : ¬ 67108864 ≤ key := by omega
  have hw1 : wrap64 (key - 1) = xs.length := by unfold wrap64; omega
  have hlen := Lib.hid hn
  have hke : key - 1 = (xs.length : Int) := by omega
  clear h hG hn
  have hkey' := Lib.hid hkey
  clear hkey
  generalize hL : xs.length = n at *
  have hL' := Lib.hid hL
  clear hL
  go_enter Tryz.func29, Tryz.ntmps29
  go_wp2_with (at_builtin; refine wpList_append_lies _ rfl (.tmp 45) (.tmp 47) 44 rfl 0 43 i0 .nilIface 1 16 Tryz.underlying44 hi hI0 hI1 hI2 rfl (by decide) _ _ _ rfl (rA.alloc _) ⟨_, 0, none⟩ 1 1 [NUM b] rfl rfl (cell_new_at _ _ _ _ rfl) (by intro u hu; simp at hu; subst hu; rfl) (by decide) (by have := hlen.out; have := hkey'.out; unfold maxLen; omega) (by have := hlen.out; have := hkey'.out; omega) (Nat.zero_le _) _ rfl ?_; intro g3 c3 w3 hown3 hgrow3 hat3 hlt3
               have hsz := HK0.out.size
               have h3 := hW.out.pushA hown3 (by simp [hL'.out]) hgrow3 hat3 (fun k hk => hG'.out k (by omega))
               have kk3 := HK0.out.trans (keeps_grown (S := G) (fun k e => hW.out.gA k e) hgrow3) (fun _ _ h => h)
               have hT3 := (keeps_grown (S := fun k => Value.ownBlock (.slice (some ⟨g, 0, none⟩) n c) = some k) (fun k e => e) hgrow3).block T (lt_of hW.out.tab.cells) (fun e => hW.out.tab.offT.1 T e rfl)
               have q6 : w3.cell? ⟨T, 1, none⟩ = some (.slice (some ⟨g, 0, none⟩) n c) := by rw [cell_of (hT3.trans hW.out.tab.cells)]; rfl
               have z6 : w3.frozen? ⟨T, 1, none⟩ = false := free_of (hT3.trans hW.out.tab.cells)
               have h3' := Lib.hid h3
               have HK3 := Lib.hid (kk3.setCell (p := ⟨T, 1, none⟩) hW.out.gT (.slice (some ⟨g3, 0, none⟩) (n + 1) c3))
               clear h3 kk3 hT3 hown3 hgrow3 hat3 hlt3 rA)
  go_end0
  exact ⟨rfl, HK3.out, _, h3'.out⟩
theorem past (w : World) (o : Obj) {T i : Nat} (v : Value) (h : T < w.heap.size) : (w.alloc o).setCell ⟨T, i, none⟩ v = (w.setCell ⟨T, i, none⟩ v).alloc o := World.setCell_alloc_past (w := w) o T i v h
theorem rsi_at_nil (h : TabF w T G (.slice none 0 0) dv sv kv iv xs cd cs ks) (hG : ∀ k, w.heap.size ≤ k → G k) (b : Nat) (key : Int) (hkey : key = (xs.length : Int) + 1) (hn : key < 67108864) :
    Calls Tryz.prog 29 #[.pointer (some ⟨T, 0, none⟩), .int .i64 key, NUM b] w fun e w' => e = .returned (.tuple #[]) ∧ Keeps G w w' ∧ ∃ av', TabF w' T G av' dv sv kv iv (xs ++ [NUM b]) cd cs ks := by
  have f1 : w.cell? ⟨T, 1, none⟩ = some (.slice none 0 0) := by rw [cell_of h.tab.cells]; rfl
  have z1 : w.frozen? ⟨T, 1, none⟩ = false := free_of h.tab.cells
  have hTl : T < w.heap.size := lt_of h.tab.cells
  obtain ⟨hxs, hW0⟩ := h.newA 32 (by omega) w.heap.size rfl (hG _ (Nat.le_refl _))
  subst hxs
  have hmk : ∀ W : World, (Instr.makeSlice 44 (.int .i64 0) (.int .i64 32)).run Tryz.prog W = .ok (.slice (some ⟨W.heap.size, 0, none⟩) 0 32) (W.alloc (.cells (List.replicate 32 Value.nilIface).toArray 43)) := hmk44 32 (by omega)
  have HK00 := ((Keeps.refl G w).alloc (.cells (List.replicate 32 Value.nilIface).toArray 43)).setCell (p := ⟨T, 1, none⟩) h.gT (.slice (some ⟨w.heap.size, 0, none⟩) 0 32)
  rw [past _ _ _ hTl] at hW0 HK00
  obtain ⟨M, hM⟩ : ∃ M, M = (List.replicate 32 Value.nilIface).toArray := ⟨_, rfl⟩
  rw [← hM] at hW0 HK00 hmk
  have rA := hW0.tab.arr
  have hW := Lib.hid hW0
  have hG' := Lib.hid hG
  have HK0 := Lib.hid HK00
  obtain ⟨i0, hi, hI0, hI1, hI2⟩ := info_parts Tryz.info43'
  obtain rfl : key = 1 := by simpa using hkey
  have hlen := Lib.hid hn
  have hkey' := Lib.hid hkey
  have hL' : Hid (([] : List Value).length = 0) := Lib.hid rfl
  clear h hG hn hkey hW0 HK00 hM
  simp only [List.length_nil] at rA
  go_enter Tryz.func29, Tryz.ntmps29
  go_wp2_with (at_builtin; refine wpList_append_lies _ rfl (.tmp 45) (.tmp 47) 44 rfl 0 43 i0 .nilIface 1 16 Tryz.underlying44 hi hI0 hI1 hI2 rfl (by decide) _ _ _ rfl (rA.alloc _) ⟨_, 0, none⟩ 1 1 [NUM b] rfl rfl (cell_new_at _ _ _ _ (by simp [World.setCell])) (by intro u hu; simp at hu; subst hu; rfl) (by decide) (by unfold maxLen; omega) (by omega) (Nat.zero_le _) _ rfl ?_; intro g3 c3 w3 hown3 hgrow3 hat3 hlt3
               have hsz := HK0.out.size
               have h3 := hW.out.pushA hown3 (by simp [hL'.out]) hgrow3 hat3 (fun k hk => hG'.out k (by omega))
               have kk3 := HK0.out.trans (keeps_grown (S := G) (fun k e => hW.out.gA k e) hgrow3) (fun _ _ h => h)
               have hT3 := (keeps_grown (S := fun k => Value.ownBlock (.slice (some ⟨w.heap.size, 0, none⟩) 0 32) = some k) (fun k e => e) hgrow3).block T (lt_of hW.out.tab.cells) (fun e => hW.out.tab.offT.1 T e rfl)
               have q6 : w3.cell? ⟨T, 1, none⟩ = some (.slice (some ⟨w.heap.size, 0, none⟩) 0 32) := by rw [cell_of (hT3.trans hW.out.tab.cells)]; rfl
               have z6 : w3.frozen? ⟨T, 1, none⟩ = false := free_of (hT3.trans hW.out.tab.cells)
               have h3' := Lib.hid h3
               have HK3 := Lib.hid (kk3.setCell (p := ⟨T, 1, none⟩) hW.out.gT (.slice (some ⟨g3, 0, none⟩) (0 + 1) c3))
               clear h3 kk3 hT3 hown3 hgrow3 hat3 hlt3 rA)
  go_end0
  exact ⟨rfl, HK3.out, _, h3'.out⟩

/-- RawSetInt at the index behind the last. -/
theorem rsi_at (h : TabF w T G av dv sv kv iv xs cd cs ks) (hG : ∀ k, w.heap.size ≤ k → G k) (b : Nat) (key : Int) (hkey : key = (xs.length : Int) + 1) (hn : key < 67108864) :
    Calls Tryz.prog 29 #[.pointer (some ⟨T, 0, none⟩), .int .i64 key, NUM b] w fun e w' => e = .returned (.tuple #[]) ∧ Keeps G w w' ∧ ∃ av', TabF w' T G av' dv sv kv iv (xs ++ [NUM b]) cd cs ks := by
  rcases owns_form h.tab.arr with ⟨e, _⟩ | ⟨g, c, e⟩
  · subst e; exact rsi_at_nil h hG b key hkey hn
  · subst e; exact rsi_at_full h hG b key hkey hn
end
end Go.Proofs.YtbgolkdhcgjfkaaGreatDoor
