/-
  RawSetString with a number: what it leaves of the table.
-/
import Derived.Test.YtbgolkdhcgjfkaaGreatDoorTab
import Derived.Deep.RegionHeld3
namespace Go.Proofs.YtbgolkdhcgjfkaaGreatDoor
open Go.RowKit
set_option maxRecDepth 100000
set_option maxHeartbeats 400000
attribute [local go_sem] sl_nil sl_some m45_nil m45_some m46_nil m46_some i_nn i_bn j_nn j_bn

theorem Tryz.info43 : (Tryz.prog.info? 43).map (fun i => (i.zero, i.size, i.bytes)) = some (some .nilIface, 1, 16) := by kernel_rfl

section
variable {w w' : World} {T : Nat} {G : Nat → Prop} {av dv sv kv iv : Value} {xs : List Value} {cd cs : Value → Option Value} {ks : List Value}

theorem TabF.drew (h : TabF w T G av dv sv kv iv xs cd cs ks) : TabF w.drew T G av dv sv kv iv xs cd cs ks := h.keep (Keeps.drew (Keeps.refl (fun _ => False) w)) (fun _ e => e.elim)
theorem TabF.mapS {b : Nat} (h : TabF w T G av dv (.map (some b)) kv iv xs cd cs ks) : MapC w b KeyS cs := by
  rcases h.tab.sd with ⟨e, _⟩ | ⟨b', e, h⟩
  · cases e
  · cases e; exact h
theorem TabF.mapD {b : Nat} (h : TabF w T G av (.map (some b)) sv kv iv xs cd cs ks) : MapC w b KeyI cd := by
  rcases h.tab.di with ⟨e, _⟩ | ⟨b', e, h⟩
  · cases e
  · cases e; exact h
theorem TabF.mapI {b : Nat} (h : TabF w T G av dv sv kv (.map (some b)) xs cd cs ks) : ∃ ci, MapC w b KeyI ci := by
  obtain ⟨ci, h⟩ := h.tab.ki
  rcases h with ⟨e, _⟩ | ⟨b', e, h⟩
  · cases e
  · cases e; exact ⟨ci, h⟩

theorem h_keeps {S G : Nat → Prop} {a b c : World} (h : Keeps G a b) (k : Keeps S b c) (hS : ∀ n, n < a.heap.size → S n → G n) : Keeps G a c := h.trans k hS

theorem TabF.mono {G' : Nat → Prop} (h : TabF w T G av dv sv kv iv xs cd cs ks) (hG : ∀ k, G k → G' k) : TabF w T G' av dv sv kv iv xs cd cs ks :=
  ⟨h.tab, hG _ h.gT, fun k e => hG _ (h.gA k e), fun k e => hG _ (h.gK k e), fun k e => hG _ (h.gD k e), fun k e => hG _ (h.gS k e), fun k e => hG _ (h.gI k e), h.ak, h.ds, h.di, h.si⟩

theorem mkmap0 (t : TypeId) (W : World) : (Instr.makeMap t none).run Tryz.prog W = .ok (.map (some W.heap.size)) (W.alloc (.map #[] 0)) := rfl

theorem mkmap (t : TypeId) (k e : TypeId) (n : Int) (ht : Tryz.prog.underlying t = some (.map k e)) (W : World) : (Instr.makeMap t (some (.int .i64 n))).run Tryz.prog W = .ok (.map (some W.heap.size)) (W.alloc (.map #[] 0)) := by
  simp [Instr.makeMap, run_underlying ht, Result.andThen]
  rfl

theorem past (w : World) (o : Obj) {T i : Nat} (v : Value) (h : T < w.heap.size) : (w.alloc o).setCell ⟨T, i, none⟩ v = (w.setCell ⟨T, i, none⟩ v).alloc o := World.setCell_alloc_past (w := w) o T i v h
theorem past2 (w : World) (o o2 : Obj) {T i : Nat} (v : Value) (h : T < w.heap.size) : ((w.alloc o).alloc o2).setCell ⟨T, i, none⟩ v = ((w.setCell ⟨T, i, none⟩ v).alloc o).alloc o2 := by
  rw [past _ _ _ (by simp; omega), past _ _ _ h]
theorem past3 (w : World) (o o2 o3 : Obj) {T i : Nat} (v : Value) (h : T < w.heap.size) : (((w.alloc o).alloc o2).alloc o3).setCell ⟨T, i, none⟩ v = (((w.setCell ⟨T, i, none⟩ v).alloc o).alloc o2).alloc o3 := by
  rw [past _ _ _ (by simp; omega), past2 _ _ _ _ h]
theorem size_set (w : World) (a : Addr) (v : Value) : (w.setCell a v).heap.size = w.heap.size := by simp [World.setCell]

theorem rss_full {bS g c bI : Nat} (h : TabF w T G av dv (.map (some bS)) (.slice (some ⟨g, 0, none⟩) ks.length c) (.map (some bI)) xs cd cs ks) (hG : ∀ k, w.heap.size ≤ k → G k) (s : ByteArray) (b : Nat) (hn : ks.length ≤ 1048576) :
    Calls Tryz.prog 28 #[.pointer (some ⟨T, 0, none⟩), .string s, NUM b] w fun e w' => e = .returned (.tuple #[]) ∧ Keeps G w w' ∧ ∃ sv' kv' iv' ks', TabF w' T G av dv sv' kv' iv' xs cd (put cs (.string s) (NUM b)) ks' ∧ ks'.length ≤ ks.length + 1 := by
  have f3 : w.cell? ⟨T, 3, none⟩ = some (.map (some bS)) := by rw [cell_of h.tab.cells]; rfl
  have f4 : w.cell? ⟨T, 4, none⟩ = some (.slice (some ⟨g, 0, none⟩) ks.length c) := by rw [cell_of h.tab.cells]; rfl
  have hW := Lib.hid h
  have hG' := Lib.hid hG
  have HK0 := Lib.hid (Keeps.refl G w)
  obtain ⟨i0, hi, hI0, hI1, hI2⟩ := info_parts Tryz.info43
  clear h hG
  go_enter Tryz.func28, Tryz.ntmps28
  go_wp2_with (first
    | (at_mapUpdate; refine wpList_upd rfl (.tmp 42) (.tmp 43) (.tmp 44) 46 rfl _ _ _ rfl rfl rfl (fun w' => MapC w' (bS) KeyS (put cs (.string s) (NUM b)) ∧ Keeps (fun j => j = bS) _ w' ∧ w'.heap.size = _) (upd46 hW.out.mapS s _) ?_; rintro w1 ⟨hm1, hk1, hz1⟩
       have h1 := hW.out.setS hm1 hk1
       have kk1 := HK0.out.trans hk1 (fun k _ e => by have e' : k = bS := e; rw [e']; exact h1.gS _ rfl)
       have p4 : w1.cell? ⟨T, 4, none⟩ = some (.slice (some ⟨g, 0, none⟩) ks.length c) := by rw [cell_of h1.tab.cells]; rfl
       have p5 : w1.cell? ⟨T, 5, none⟩ = some (.map (some (bI))) := by rw [cell_of h1.tab.cells]; rfl
       have h1' := Lib.hid h1
       have HK1 := Lib.hid kk1
       obtain ⟨ci, hI⟩ := h1.mapI
       obtain ⟨zz, rr, hl⟩ : ∃ zz rr, (Instr.lookup 47 (.map (some (bI))) (STR s) true).run Tryz.prog w1 = .ok (.tuple #[zz, .bool rr]) w1 := ⟨_, _, look47 hI (STR s) (Or.inl ⟨s, rfl⟩)⟩
       have hI' := Lib.hid hI
       clear h1 kk1 hm1 hk1 hz1 hI)
    | (at_lookup; refine wpList_look rfl (.tmp 50) (.tmp 52) 47 true rfl _ _ _ rfl rfl hl ?_; clear hl))
  · obtain ⟨w2, hU, hm2, hk2, hz2⟩ := upd47 (w := w1.drew) hI'.out (STR s) (Or.inl ⟨s, rfl⟩) (.int .i64 ks.length)
    have h2 := TabF.setI h1'.out.drew hm2 hk2
    have HK2 := Lib.hid ((HK1.out.trans (Keeps.drew (Keeps.refl (fun _ => False) w1)) (fun _ _ e => e.elim)).trans hk2 (fun k _ e => by have e' : k = bI := e; rw [e']; exact h1'.out.gI _ rfl))
    have q4 : w2.cell? ⟨T, 4, none⟩ = some (.slice (some ⟨g, 0, none⟩) ks.length c) := by rw [cell_of h2.tab.cells]; rfl
    have q5 : w2.cell? ⟨T, 5, none⟩ = some (.map (some (bI))) := by rw [cell_of h2.tab.cells]; rfl
    have rK := h2.tab.keys
    have h2' := Lib.hid h2
    clear h2 hm2 hk2 hz2 f3 f4
    go_region_held3 (fun w' => w'.cell? ⟨T, 4, none⟩ = some (.slice (some ⟨g, 0, none⟩) ks.length c) ∧ w'.cell? ⟨T, 5, none⟩ = some (.map (some (bI)))) (go_keep) (fail)
    go_wp2_with (at_builtin; refine wpList_append_lies _ rfl (.tmp 73) (.tmp 76) 44 rfl 0 43 i0 .nilIface 1 16 Tryz.underlying44 hi hI0 hI1 hI2 rfl (by decide) _ _ _ rfl (rK.alloc _) ⟨w2.heap.size, 0, none⟩ 1 1 [STR s] rfl rfl (cell_one_new _ _ _) (by intro u hu; simp at hu; subst hu; rfl) (by decide) (by unfold maxLen; first | omega | simp) (by first | omega | simp) (Nat.zero_le _) _ rfl ?_; intro g3 c3 w3 hown3 hgrow3 hat3 hlt3
                 have hsz : w.heap.size ≤ w2.heap.size := HK2.out.size
                 have h3 := h2'.out.pushK (by simp) hown3 (by simp) hgrow3 hat3 (fun k hk => hG'.out k (by omega))
                 have kk3 := HK2.out.trans (keeps_grown (S := G) (fun k e => h2'.out.gK k e) hgrow3) (fun _ _ h => h)
                 have hT3 := (keeps_grown (S := fun k => Value.ownBlock (.slice (some ⟨g, 0, none⟩) ks.length c) = some k) (fun k e => e) hgrow3).block T (lt_of h2'.out.tab.cells) (fun e => h2'.out.tab.offT.2.1 T e rfl)
                 have q6 : w3.cell? ⟨T, 4, none⟩ = some (.slice (some ⟨g, 0, none⟩) ks.length c) := by rw [cell_of (hT3.trans h2'.out.tab.cells)]; rfl
                 have z6 : w3.frozen? ⟨T, 4, none⟩ = false := free_of (hT3.trans h2'.out.tab.cells)
                 have h3' := Lib.hid h3
                 have HK3 := Lib.hid (kk3.setCell (p := ⟨T, 4, none⟩) h2'.out.gT (.slice (some ⟨g3, 0, none⟩) (ks.length + 1) c3))
                 clear h3 kk3 hT3 hown3 hgrow3 hat3 hlt3 rK)
    go_end0
    exact ⟨rfl, HK3.out, _, _, _, _, h3'.out, by simp⟩
  · go_end0
    exact ⟨rfl, HK1.out, _, _, _, _, h1'.out, by omega⟩
theorem rss_B {g c bI : Nat} (h : TabF w T G av dv (.map none) (.slice (some ⟨g, 0, none⟩) ks.length c) (.map (some bI)) xs cd cs ks) (hG : ∀ k, w.heap.size ≤ k → G k) (s : ByteArray) (b : Nat) (hn : ks.length ≤ 1048576) :
    Calls Tryz.prog 28 #[.pointer (some ⟨T, 0, none⟩), .string s, NUM b] w fun e w' => e = .returned (.tuple #[]) ∧ Keeps G w w' ∧ ∃ sv' kv' iv' ks', TabF w' T G av dv sv' kv' iv' xs cd (put cs (.string s) (NUM b)) ks' ∧ ks'.length ≤ ks.length + 1 := by
  have f3 : w.cell? ⟨T, 3, none⟩ = some (.map none) := by rw [cell_of h.tab.cells]; rfl
  have f4 : w.cell? ⟨T, 4, none⟩ = some (.slice (some ⟨g, 0, none⟩) ks.length c) := by rw [cell_of h.tab.cells]; rfl
  have z3 : w.frozen? ⟨T, 3, none⟩ = false := free_of h.tab.cells
  have z4 : w.frozen? ⟨T, 4, none⟩ = false := free_of h.tab.cells
  have z5 : w.frozen? ⟨T, 5, none⟩ = false := free_of h.tab.cells
  have f5 : w.cell? ⟨T, 5, none⟩ = some (.map (some bI)) := by rw [cell_of h.tab.cells]; rfl
  have hTl : T < w.heap.size := lt_of h.tab.cells
  have hmk := mkmap 46 9 43 32 Tryz.underlying46
  have hmk2 := mkmap0 47
  have hG' := Lib.hid hG
  obtain ⟨i0, hi, hI0, hI1, hI2⟩ := info_parts Tryz.info43
  have hW0 := h.newS w.heap.size rfl (hG _ (Nat.le_refl _))
  have HK00 : Keeps G w ((w.alloc (.map #[] 0)).setCell ⟨T, 3, none⟩ (.map (some w.heap.size))) := ((Keeps.refl G w).alloc _).setCell h.gT _
  rw [past _ _ _ hTl] at hW0 HK00
  have hW := Lib.hid hW0
  have HK0 := Lib.hid HK00
  clear h hG f5 z4 z5 hW0 HK00
  go_enter Tryz.func28, Tryz.ntmps28
  go_wp2_with (first
    | (at_mapUpdate; refine wpList_upd rfl (.tmp 42) (.tmp 43) (.tmp 44) 46 rfl _ _ _ rfl rfl rfl (fun w' => MapC w' (w.heap.size) KeyS (put cs (.string s) (NUM b)) ∧ Keeps (fun j => j = w.heap.size) _ w' ∧ w'.heap.size = _) (upd46 hW.out.mapS s _) ?_; rintro w1 ⟨hm1, hk1, hz1⟩
       have h1 := hW.out.setS hm1 hk1
       have kk1 := HK0.out.trans hk1 (fun k _ e => by have e' : k = w.heap.size := e; rw [e']; exact h1.gS _ rfl)
       have p4 : w1.cell? ⟨T, 4, none⟩ = some (.slice (some ⟨g, 0, none⟩) ks.length c) := by rw [cell_of h1.tab.cells]; rfl
       have p5 : w1.cell? ⟨T, 5, none⟩ = some (.map (some (bI))) := by rw [cell_of h1.tab.cells]; rfl
       have h1' := Lib.hid h1
       have HK1 := Lib.hid kk1
       obtain ⟨ci, hI⟩ := h1.mapI
       obtain ⟨zz, rr, hl⟩ : ∃ zz rr, (Instr.lookup 47 (.map (some (bI))) (STR s) true).run Tryz.prog w1 = .ok (.tuple #[zz, .bool rr]) w1 := ⟨_, _, look47 hI (STR s) (Or.inl ⟨s, rfl⟩)⟩
       have hI' := Lib.hid hI
       clear h1 kk1 hm1 hk1 hz1 hI)
    | (at_lookup; refine wpList_look rfl (.tmp 50) (.tmp 52) 47 true rfl _ _ _ rfl rfl hl ?_; clear hl))
  · obtain ⟨w2, hU, hm2, hk2, hz2⟩ := upd47 (w := w1.drew) hI'.out (STR s) (Or.inl ⟨s, rfl⟩) (.int .i64 ks.length)
    have h2 := TabF.setI h1'.out.drew hm2 hk2
    have HK2 := Lib.hid ((HK1.out.trans (Keeps.drew (Keeps.refl (fun _ => False) w1)) (fun _ _ e => e.elim)).trans hk2 (fun k _ e => by have e' : k = bI := e; rw [e']; exact h1'.out.gI _ rfl))
    have q4 : w2.cell? ⟨T, 4, none⟩ = some (.slice (some ⟨g, 0, none⟩) ks.length c) := by rw [cell_of h2.tab.cells]; rfl
    have q5 : w2.cell? ⟨T, 5, none⟩ = some (.map (some (bI))) := by rw [cell_of h2.tab.cells]; rfl
    have rK := h2.tab.keys
    have h2' := Lib.hid h2
    clear h2 hm2 hk2 hz2 f3 f4
    go_region_held3 (fun w' => w'.cell? ⟨T, 4, none⟩ = some (.slice (some ⟨g, 0, none⟩) ks.length c) ∧ w'.cell? ⟨T, 5, none⟩ = some (.map (some (bI)))) (go_keep) (fail)
    go_wp2_with (at_builtin; refine wpList_append_lies _ rfl (.tmp 73) (.tmp 76) 44 rfl 0 43 i0 .nilIface 1 16 Tryz.underlying44 hi hI0 hI1 hI2 rfl (by decide) _ _ _ rfl (rK.alloc _) ⟨w2.heap.size, 0, none⟩ 1 1 [STR s] rfl rfl (cell_one_new _ _ _) (by intro u hu; simp at hu; subst hu; rfl) (by decide) (by unfold maxLen; first | omega | simp) (by first | omega | simp) (Nat.zero_le _) _ rfl ?_; intro g3 c3 w3 hown3 hgrow3 hat3 hlt3
                 have hsz : w.heap.size ≤ w2.heap.size := HK2.out.size
                 have h3 := h2'.out.pushK (by simp) hown3 (by simp) hgrow3 hat3 (fun k hk => hG'.out k (by omega))
                 have kk3 := HK2.out.trans (keeps_grown (S := G) (fun k e => h2'.out.gK k e) hgrow3) (fun _ _ h => h)
                 have hT3 := (keeps_grown (S := fun k => Value.ownBlock (.slice (some ⟨g, 0, none⟩) ks.length c) = some k) (fun k e => e) hgrow3).block T (lt_of h2'.out.tab.cells) (fun e => h2'.out.tab.offT.2.1 T e rfl)
                 have q6 : w3.cell? ⟨T, 4, none⟩ = some (.slice (some ⟨g, 0, none⟩) ks.length c) := by rw [cell_of (hT3.trans h2'.out.tab.cells)]; rfl
                 have z6 : w3.frozen? ⟨T, 4, none⟩ = false := free_of (hT3.trans h2'.out.tab.cells)
                 have h3' := Lib.hid h3
                 have HK3 := Lib.hid (kk3.setCell (p := ⟨T, 4, none⟩) h2'.out.gT (.slice (some ⟨g3, 0, none⟩) (ks.length + 1) c3))
                 clear h3 kk3 hT3 hown3 hgrow3 hat3 hlt3 rK)
    go_end0
    exact ⟨rfl, HK3.out, _, _, _, _, h3'.out, by simp⟩
  · go_end0
    exact ⟨rfl, HK1.out, _, _, _, _, h1'.out, by omega⟩
theorem rss_C {bS : Nat} (h : TabF w T G av dv (.map (some bS)) (.slice none 0 0) (iv) xs cd cs ks) (hG : ∀ k, w.heap.size ≤ k → G k) (s : ByteArray) (b : Nat) (hn : ks.length ≤ 1048576) :
    Calls Tryz.prog 28 #[.pointer (some ⟨T, 0, none⟩), .string s, NUM b] w fun e w' => e = .returned (.tuple #[]) ∧ Keeps G w w' ∧ ∃ sv' kv' iv' ks', TabF w' T G av dv sv' kv' iv' xs cd (put cs (.string s) (NUM b)) ks' ∧ ks'.length ≤ ks.length + 1 := by
  have f3 : w.cell? ⟨T, 3, none⟩ = some (.map (some bS)) := by rw [cell_of h.tab.cells]; rfl
  have f4 : w.cell? ⟨T, 4, none⟩ = some (.slice none 0 0) := by rw [cell_of h.tab.cells]; rfl
  have z3 : w.frozen? ⟨T, 3, none⟩ = false := free_of h.tab.cells
  have z4 : w.frozen? ⟨T, 4, none⟩ = false := free_of h.tab.cells
  have z5 : w.frozen? ⟨T, 5, none⟩ = false := free_of h.tab.cells
  have f5 : w.cell? ⟨T, 5, none⟩ = some (iv) := by rw [cell_of h.tab.cells]; rfl
  have hTl : T < w.heap.size := lt_of h.tab.cells
  have hmk := mkmap 46 9 43 32 Tryz.underlying46
  have hmk2 := mkmap0 47
  have hG' := Lib.hid hG
  obtain ⟨i0, hi, hI0, hI1, hI2⟩ := info_parts Tryz.info43
  obtain ⟨hks, hW1⟩ := h.newK w.heap.size rfl (hG _ (Nat.le_refl _))
  have HK00 : Keeps G w ((((w.alloc (.cells #[] 43)).setCell ⟨T, 4, none⟩ (.slice (some ⟨w.heap.size, 0, none⟩) 0 0)).alloc (.map #[] 0)).setCell ⟨T, 5, none⟩ (.map (some (w.heap.size + 1)))) := ((((Keeps.refl G w).alloc _).setCell h.gT _).alloc _).setCell h.gT _
  have hW0 := hW1.mono (G' := G) (fun k e => by rcases e with e | e; exact e; exact hG k (by omega))
  rw [past _ _ _ hTl, past2 _ _ _ _ (by rw [size_set]; exact hTl)] at hW0 HK00
  subst hks
  have hW := Lib.hid hW0
  have HK0 := Lib.hid HK00
  clear h hG z3 hW0 HK00 hW1 hmk
  go_enter Tryz.func28, Tryz.ntmps28
  go_wp2_with (first
    | (at_mapUpdate; refine wpList_upd rfl (.tmp 42) (.tmp 43) (.tmp 44) 46 rfl _ _ _ rfl rfl rfl (fun w' => MapC w' (bS) KeyS (put cs (.string s) (NUM b)) ∧ Keeps (fun j => j = bS) _ w' ∧ w'.heap.size = _) (upd46 hW.out.mapS s _) ?_; rintro w1 ⟨hm1, hk1, hz1⟩
       have h1 := hW.out.setS hm1 hk1
       have kk1 := HK0.out.trans hk1 (fun k _ e => by have e' : k = bS := e; rw [e']; exact h1.gS _ rfl)
       have p4 : w1.cell? ⟨T, 4, none⟩ = some (.slice (some ⟨w.heap.size, 0, none⟩) 0 0) := by rw [cell_of h1.tab.cells]; rfl
       have p5 : w1.cell? ⟨T, 5, none⟩ = some (.map (some (w.heap.size + 1))) := by rw [cell_of h1.tab.cells]; rfl
       have h1' := Lib.hid h1
       have HK1 := Lib.hid kk1
       obtain ⟨ci, hI⟩ := h1.mapI
       obtain ⟨zz, rr, hl⟩ : ∃ zz rr, (Instr.lookup 47 (.map (some (w.heap.size + 1))) (STR s) true).run Tryz.prog w1 = .ok (.tuple #[zz, .bool rr]) w1 := ⟨_, _, look47 hI (STR s) (Or.inl ⟨s, rfl⟩)⟩
       have hI' := Lib.hid hI
       clear h1 kk1 hm1 hk1 hz1 hI)
    | (at_lookup; refine wpList_look rfl (.tmp 50) (.tmp 52) 47 true rfl _ _ _ rfl rfl hl ?_; clear hl))
  · obtain ⟨w2, hU, hm2, hk2, hz2⟩ := upd47 (w := w1.drew) hI'.out (STR s) (Or.inl ⟨s, rfl⟩) (.int .i64 0)
    have h2 := TabF.setI h1'.out.drew hm2 hk2
    have HK2 := Lib.hid ((HK1.out.trans (Keeps.drew (Keeps.refl (fun _ => False) w1)) (fun _ _ e => e.elim)).trans hk2 (fun k _ e => by have e' : k = w.heap.size + 1 := e; rw [e']; exact h1'.out.gI _ rfl))
    have q4 : w2.cell? ⟨T, 4, none⟩ = some (.slice (some ⟨w.heap.size, 0, none⟩) 0 0) := by rw [cell_of h2.tab.cells]; rfl
    have q5 : w2.cell? ⟨T, 5, none⟩ = some (.map (some (w.heap.size + 1))) := by rw [cell_of h2.tab.cells]; rfl
    have rK := h2.tab.keys
    have h2' := Lib.hid h2
    clear h2 hm2 hk2 hz2 f3 f4
    go_region_held3 (fun w' => w'.cell? ⟨T, 4, none⟩ = some (.slice (some ⟨w.heap.size, 0, none⟩) 0 0) ∧ w'.cell? ⟨T, 5, none⟩ = some (.map (some (w.heap.size + 1)))) (go_keep) (fail)
    go_wp2_with (at_builtin; refine wpList_append_lies _ rfl (.tmp 73) (.tmp 76) 44 rfl 0 43 i0 .nilIface 1 16 Tryz.underlying44 hi hI0 hI1 hI2 rfl (by decide) _ _ _ rfl (rK.alloc _) ⟨w2.heap.size, 0, none⟩ 1 1 [STR s] rfl rfl (cell_one_new _ _ _) (by intro u hu; simp at hu; subst hu; rfl) (by decide) (by unfold maxLen; first | omega | simp) (by first | omega | simp) (Nat.zero_le _) _ rfl ?_; intro g3 c3 w3 hown3 hgrow3 hat3 hlt3
                 have hsz : w.heap.size ≤ w2.heap.size := HK2.out.size
                 have h3 := h2'.out.pushK (by simp) hown3 (by simp) hgrow3 hat3 (fun k hk => hG'.out k (by omega))
                 have kk3 := HK2.out.trans (keeps_grown (S := G) (fun k e => h2'.out.gK k e) hgrow3) (fun _ _ h => h)
                 have hT3 := (keeps_grown (S := fun k => Value.ownBlock (.slice (some ⟨w.heap.size, 0, none⟩) 0 0) = some k) (fun k e => e) hgrow3).block T (lt_of h2'.out.tab.cells) (fun e => h2'.out.tab.offT.2.1 T e rfl)
                 have q6 : w3.cell? ⟨T, 4, none⟩ = some (.slice (some ⟨w.heap.size, 0, none⟩) 0 0) := by rw [cell_of (hT3.trans h2'.out.tab.cells)]; rfl
                 have z6 : w3.frozen? ⟨T, 4, none⟩ = false := free_of (hT3.trans h2'.out.tab.cells)
                 have h3' := Lib.hid h3
                 have HK3 := Lib.hid (kk3.setCell (p := ⟨T, 4, none⟩) h2'.out.gT (.slice (some ⟨g3, 0, none⟩) (0 + 1) c3))
                 clear h3 kk3 hT3 hown3 hgrow3 hat3 hlt3 rK)
    go_end0
    exact ⟨rfl, HK3.out, _, _, _, _, h3'.out, by simp⟩
  · go_end0
    exact ⟨rfl, HK1.out, _, _, _, _, h1'.out, by simp⟩
set_option maxHeartbeats 2000000 in
theorem rss_D (h : TabF w T G av dv (.map none) (.slice none 0 0) (iv) xs cd cs ks) (hG : ∀ k, w.heap.size ≤ k → G k) (s : ByteArray) (b : Nat) (hn : ks.length ≤ 1048576) :
    Calls Tryz.prog 28 #[.pointer (some ⟨T, 0, none⟩), .string s, NUM b] w fun e w' => e = .returned (.tuple #[]) ∧ Keeps G w w' ∧ ∃ sv' kv' iv' ks', TabF w' T G av dv sv' kv' iv' xs cd (put cs (.string s) (NUM b)) ks' ∧ ks'.length ≤ ks.length + 1 := by
  have f3 : w.cell? ⟨T, 3, none⟩ = some (.map none) := by rw [cell_of h.tab.cells]; rfl
  have f4 : w.cell? ⟨T, 4, none⟩ = some (.slice none 0 0) := by rw [cell_of h.tab.cells]; rfl
  have z3 : w.frozen? ⟨T, 3, none⟩ = false := free_of h.tab.cells
  have z4 : w.frozen? ⟨T, 4, none⟩ = false := free_of h.tab.cells
  have z5 : w.frozen? ⟨T, 5, none⟩ = false := free_of h.tab.cells
  have f5 : w.cell? ⟨T, 5, none⟩ = some (iv) := by rw [cell_of h.tab.cells]; rfl
  have hTl : T < w.heap.size := lt_of h.tab.cells
  have hmk := mkmap 46 9 43 32 Tryz.underlying46
  have hmk2 := mkmap0 47
  have hG' := Lib.hid hG
  obtain ⟨i0, hi, hI0, hI1, hI2⟩ := info_parts Tryz.info43
  have hA0 := h.newS w.heap.size rfl (hG _ (Nat.le_refl _))
  have HKA : Keeps G w ((w.alloc (.map #[] 0)).setCell ⟨T, 3, none⟩ (.map (some w.heap.size))) := ((Keeps.refl G w).alloc _).setCell h.gT _
  have hAs : ((w.alloc (.map #[] 0)).setCell ⟨T, 3, none⟩ (.map (some w.heap.size))).heap.size = w.heap.size + 1 := by rw [size_set]; simp
  rw [past _ _ _ hTl] at hA0 HKA hAs
  obtain ⟨hks, hW1⟩ := hA0.newK (w.heap.size + 1) hAs.symm (hG _ (by omega))
  have HK00 := (((HKA.alloc (.cells #[] 43)).setCell (p := ⟨T, 4, none⟩) h.gT (.slice (some ⟨w.heap.size + 1, 0, none⟩) 0 0)).alloc (.map #[] 0)).setCell (p := ⟨T, 5, none⟩) h.gT (.map (some (w.heap.size + 1 + 1)))
  have hW0 := hW1.mono (G' := G) (fun k e => by rcases e with e | e; exact e; exact hG k (by omega))
  rw [past2 _ _ _ _ (by rw [size_set]; exact hTl)] at hW0 HK00
  subst hks
  have hX : (((((w.setCell ⟨T, 3, none⟩ (.map (some w.heap.size))).setCell ⟨T, 4, none⟩ (.slice (some ⟨w.heap.size + 1, 0, none⟩) 0 0)).alloc (.map #[] 0)).alloc (.cells #[] 43)).alloc (.map #[] 0)).heap[T]? = some (.cells #[LNIL, av, dv, .map (some w.heap.size), .slice (some ⟨w.heap.size + 1, 0, none⟩) 0 0, iv] 49 (0, 0)) := by
    refine alloc_old _ (alloc_old _ (alloc_old _ ?_))
    rw [set_same _ (set_same _ h.tab.cells)]; rfl
  have x5 := cell_of (o := 5) hX
  have y5 := free_of (o := 5) hX
  have xx3 := cell_of (o := 3) hX
  simp only [List.getElem?_toArray, List.getElem?_cons_succ, List.getElem?_cons_zero] at x5 xx3
  have hW := Lib.hid hW0
  have HK0 := Lib.hid HK00
  clear h hG hW0 HK00 hW1 hA0 HKA hAs hX
  go_enter Tryz.func28, Tryz.ntmps28
  go_wp2_with (first
    | (at_mapUpdate; refine wpList_upd rfl (.tmp 42) (.tmp 43) (.tmp 44) 46 rfl _ _ _ rfl rfl rfl (fun w' => MapC w' (w.heap.size) KeyS (put cs (.string s) (NUM b)) ∧ Keeps (fun j => j = w.heap.size) _ w' ∧ w'.heap.size = _) (upd46 hW.out.mapS s _) ?_; rintro w1 ⟨hm1, hk1, hz1⟩
       have h1 := hW.out.setS hm1 hk1
       have kk1 := HK0.out.trans hk1 (fun k _ e => by have e' : k = w.heap.size := e; rw [e']; exact h1.gS _ rfl)
       have p4 : w1.cell? ⟨T, 4, none⟩ = some (.slice (some ⟨w.heap.size + 1, 0, none⟩) 0 0) := by rw [cell_of h1.tab.cells]; rfl
       have p5 : w1.cell? ⟨T, 5, none⟩ = some (.map (some (w.heap.size + 1 + 1))) := by rw [cell_of h1.tab.cells]; rfl
       have h1' := Lib.hid h1
       have HK1 := Lib.hid kk1
       obtain ⟨ci, hI⟩ := h1.mapI
       obtain ⟨zz, rr, hl⟩ : ∃ zz rr, (Instr.lookup 47 (.map (some (w.heap.size + 1 + 1))) (STR s) true).run Tryz.prog w1 = .ok (.tuple #[zz, .bool rr]) w1 := ⟨_, _, look47 hI (STR s) (Or.inl ⟨s, rfl⟩)⟩
       have hI' := Lib.hid hI
       clear h1 kk1 hm1 hk1 hz1 hI)
    | (at_lookup; refine wpList_look rfl (.tmp 50) (.tmp 52) 47 true rfl _ _ _ rfl rfl hl ?_; clear hl))
  · obtain ⟨w2, hU, hm2, hk2, hz2⟩ := upd47 (w := w1.drew) hI'.out (STR s) (Or.inl ⟨s, rfl⟩) (.int .i64 0)
    have h2 := TabF.setI h1'.out.drew hm2 hk2
    have HK2 := Lib.hid ((HK1.out.trans (Keeps.drew (Keeps.refl (fun _ => False) w1)) (fun _ _ e => e.elim)).trans hk2 (fun k _ e => by have e' : k = w.heap.size + 1 + 1 := e; rw [e']; exact h1'.out.gI _ rfl))
    have q4 : w2.cell? ⟨T, 4, none⟩ = some (.slice (some ⟨w.heap.size + 1, 0, none⟩) 0 0) := by rw [cell_of h2.tab.cells]; rfl
    have q5 : w2.cell? ⟨T, 5, none⟩ = some (.map (some (w.heap.size + 1 + 1))) := by rw [cell_of h2.tab.cells]; rfl
    have rK := h2.tab.keys
    have h2' := Lib.hid h2
    clear h2 hm2 hk2 hz2 f3 f4
    go_region_held3 (fun w' => w'.cell? ⟨T, 4, none⟩ = some (.slice (some ⟨w.heap.size + 1, 0, none⟩) 0 0) ∧ w'.cell? ⟨T, 5, none⟩ = some (.map (some (w.heap.size + 1 + 1)))) (go_keep) (fail)
    go_wp2_with (at_builtin; refine wpList_append_lies _ rfl (.tmp 73) (.tmp 76) 44 rfl 0 43 i0 .nilIface 1 16 Tryz.underlying44 hi hI0 hI1 hI2 rfl (by decide) _ _ _ rfl (rK.alloc _) ⟨w2.heap.size, 0, none⟩ 1 1 [STR s] rfl rfl (cell_one_new _ _ _) (by intro u hu; simp at hu; subst hu; rfl) (by decide) (by unfold maxLen; first | omega | simp) (by first | omega | simp) (Nat.zero_le _) _ rfl ?_; intro g3 c3 w3 hown3 hgrow3 hat3 hlt3
                 have hsz : w.heap.size ≤ w2.heap.size := HK2.out.size
                 have h3 := h2'.out.pushK (by simp) hown3 (by simp) hgrow3 hat3 (fun k hk => hG'.out k (by omega))
                 have kk3 := HK2.out.trans (keeps_grown (S := G) (fun k e => h2'.out.gK k e) hgrow3) (fun _ _ h => h)
                 have hT3 := (keeps_grown (S := fun k => Value.ownBlock (.slice (some ⟨w.heap.size + 1, 0, none⟩) 0 0) = some k) (fun k e => e) hgrow3).block T (lt_of h2'.out.tab.cells) (fun e => h2'.out.tab.offT.2.1 T e rfl)
                 have q6 : w3.cell? ⟨T, 4, none⟩ = some (.slice (some ⟨w.heap.size + 1, 0, none⟩) 0 0) := by rw [cell_of (hT3.trans h2'.out.tab.cells)]; rfl
                 have z6 : w3.frozen? ⟨T, 4, none⟩ = false := free_of (hT3.trans h2'.out.tab.cells)
                 have h3' := Lib.hid h3
                 have HK3 := Lib.hid (kk3.setCell (p := ⟨T, 4, none⟩) h2'.out.gT (.slice (some ⟨g3, 0, none⟩) (0 + 1) c3))
                 clear h3 kk3 hT3 hown3 hgrow3 hat3 hlt3 rK)
    go_end0
    exact ⟨rfl, HK3.out, _, _, _, _, h3'.out, by simp⟩
  · go_end0
    exact ⟨rfl, HK1.out, _, _, _, _, h1'.out, by simp⟩

/-- RawSetString with a number. -/
theorem rss_any (h : TabF w T G av dv sv kv iv xs cd cs ks) (hG : ∀ k, w.heap.size ≤ k → G k) (s : ByteArray) (b : Nat) (hn : ks.length ≤ 1048576) :
    Calls Tryz.prog 28 #[.pointer (some ⟨T, 0, none⟩), .string s, NUM b] w fun e w' => e = .returned (.tuple #[]) ∧ Keeps G w w' ∧ ∃ sv' kv' iv' ks', TabF w' T G av dv sv' kv' iv' xs cd (put cs (.string s) (NUM b)) ks' ∧ ks'.length ≤ ks.length + 1 := by
  have hS : sv = .map none ∨ ∃ bS, sv = .map (some bS) := by
    rcases h.tab.sd with ⟨e, _⟩ | ⟨b', e, _⟩
    · exact Or.inl e
    · exact Or.inr ⟨b', e⟩
  have hK : kv = .slice none 0 0 ∨ ∃ g c bI, kv = .slice (some ⟨g, 0, none⟩) ks.length c ∧ iv = .map (some bI) := by
    rcases h.tab.both with e | ⟨bI, e⟩
    · exact Or.inl e
    · rcases owns_form h.tab.keys with ⟨e2, _⟩ | ⟨g, c, e2⟩
      · exact Or.inl e2
      · exact Or.inr ⟨g, c, bI, e2, e⟩
  rcases hS with rfl | ⟨bS, rfl⟩ <;> rcases hK with rfl | ⟨g, c, bI, rfl, rfl⟩
  · exact rss_D h hG s b hn
  · exact rss_B h hG s b hn
  · exact rss_C h hG s b hn
  · exact rss_full h hG s b hn
end
end Go.Proofs.YtbgolkdhcgjfkaaGreatDoor
