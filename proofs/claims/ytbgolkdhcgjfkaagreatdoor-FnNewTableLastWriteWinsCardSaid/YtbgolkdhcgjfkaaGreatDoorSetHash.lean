/-
  RawSetH and RawSetInt with a number: what they leave of the table.
-/
import Derived.Test.YtbgolkdhcgjfkaaGreatDoorSetInt
namespace Go.Proofs.YtbgolkdhcgjfkaaGreatDoor
open Go.RowKit
set_option maxRecDepth 100000
set_option maxHeartbeats 400000
attribute [local go_sem] sl_nil sl_some m45_nil m45_some m46_nil m46_some i_nn i_bn j_nn j_bn assert_num_s

section
variable {w w' : World} {T : Nat} {G : Nat → Prop} {av dv sv kv iv : Value} {xs : List Value} {cd cs : Value → Option Value} {ks : List Value}
theorem len_map {b : Nat} {kp : Value → Prop} {c : Value → Option Value} (h : MapC w b kp c) : ∃ n : Nat, (Builtin.len_ #[46] 3 #[.map (some b)]).run Tryz.prog w = .ok (.int .i64 n) w := by
  obtain ⟨es, clock, h1, _⟩ := h
  exact ⟨es.size, by simp [Builtin.len_, run_underlying Tryz.underlying46, MapKept.run_getObj_map h1, goInt]⟩

theorem rsh_full {bD g c bI : Nat} (h : TabF w T G av (.map (some bD)) (sv) ((.slice (some ⟨g, 0, none⟩) ks.length c)) (.map (some bI)) xs cd cs ks) (hG : ∀ k, w.heap.size ≤ k → G k) (y b : Nat) (hy : KeyI (NUM y)) (hn : ks.length ≤ 1048576) :
    Calls Tryz.prog 35 #[.pointer (some ⟨T, 0, none⟩), NUM y, NUM b] w fun e w' => e = .returned (.tuple #[]) ∧ Keeps G w w' ∧ ∃ dv' kv' iv' ks', TabF w' T G av dv' (sv) kv' iv' xs (put cd (NUM y) (NUM b)) cs ks' ∧ ks'.length ≤ ks.length + 1 := by
  have f2 : w.cell? ⟨T, 2, none⟩ = some (.map (some bD)) := by rw [cell_of h.tab.cells]; rfl
  have f3 : w.cell? ⟨T, 3, none⟩ = some (sv) := by rw [cell_of h.tab.cells]; rfl
  have f4 : w.cell? ⟨T, 4, none⟩ = some ((.slice (some ⟨g, 0, none⟩) ks.length c)) := by rw [cell_of h.tab.cells]; rfl
  have f5 : w.cell? ⟨T, 5, none⟩ = some (.map (some bI)) := by rw [cell_of h.tab.cells]; rfl
  have z2 : w.frozen? ⟨T, 2, none⟩ = false := free_of h.tab.cells
  have z4 : w.frozen? ⟨T, 4, none⟩ = false := free_of h.tab.cells
  have z5 : w.frozen? ⟨T, 5, none⟩ = false := free_of h.tab.cells
  have hTl : T < w.heap.size := lt_of h.tab.cells
  have hmk : ∀ (n : Int) (W : World), _ := fun n => mkmap 45 43 43 n Tryz.underlying45
  have hmk2 := mkmap0 47
  have hG' := Lib.hid hG
  obtain ⟨i0, hi, hI0, hI1, hI2⟩ := info_parts Tryz.info43
  have hW := Lib.hid h
  have HK0 := Lib.hid (Keeps.refl G w)
  clear h hG f3 f5 hmk hmk2 z2 z4 z5
  go_enter Tryz.func35, Tryz.ntmps35
  go_wp2_with (first
    | (at_mapUpdate; refine wpList_upd rfl (.tmp 58) (.tmp 59) (.tmp 60) 45 rfl _ _ _ rfl rfl rfl (fun w' => MapC w' (bD) KeyI (put cd (NUM y) (NUM b)) ∧ Keeps (fun j => j = bD) _ w' ∧ w'.heap.size = _) (upd45 hW.out.mapD (NUM y) hy _) ?_; rintro w1 ⟨hm1, hk1, hz1⟩
       have h1 := hW.out.setD hm1 hk1
       have kk1 := HK0.out.trans hk1 (fun k _ e => by have e' : k = bD := e; rw [e']; exact h1.gD _ rfl)
       have p4 : w1.cell? ⟨T, 4, none⟩ = some (.slice (some ⟨g, 0, none⟩) ks.length c) := by rw [cell_of h1.tab.cells]; rfl
       have p5 : w1.cell? ⟨T, 5, none⟩ = some (.map (some (bI))) := by rw [cell_of h1.tab.cells]; rfl
       have h1' := Lib.hid h1
       have HK1 := Lib.hid kk1
       obtain ⟨ci, hI⟩ := h1.mapI
       obtain ⟨zz, rr, hl⟩ : ∃ zz rr, (Instr.lookup 47 (.map (some (bI))) (NUM y) true).run Tryz.prog w1 = .ok (.tuple #[zz, .bool rr]) w1 := ⟨_, _, look47 hI (NUM y) hy⟩
       have hI' := Lib.hid hI
       clear h1 kk1 hm1 hk1 hz1 hI)
    | (at_lookup; refine wpList_look rfl (.tmp 65) (.tmp 66) 47 true rfl _ _ _ rfl rfl hl ?_; clear hl))
  · obtain ⟨w2, hU, hm2, hk2, hz2⟩ := upd47 (w := w1.drew) hI'.out (NUM y) hy (.int .i64 ks.length)
    have h2 := TabF.setI h1'.out.drew hm2 hk2
    have HK2 := Lib.hid ((HK1.out.trans (Keeps.drew (Keeps.refl (fun _ => False) w1)) (fun _ _ e => e.elim)).trans hk2 (fun k _ e => by have e' : k = bI := e; rw [e']; exact h1'.out.gI _ rfl))
    have q4 : w2.cell? ⟨T, 4, none⟩ = some (.slice (some ⟨g, 0, none⟩) ks.length c) := by rw [cell_of h2.tab.cells]; rfl
    have q5 : w2.cell? ⟨T, 5, none⟩ = some (.map (some (bI))) := by rw [cell_of h2.tab.cells]; rfl
    have rK := h2.tab.keys
    have h2' := Lib.hid h2
    clear h2 hm2 hk2 hz2 f2 f4
    go_region_held3 (fun w' => w'.cell? ⟨T, 4, none⟩ = some (.slice (some ⟨g, 0, none⟩) ks.length c) ∧ w'.cell? ⟨T, 5, none⟩ = some (.map (some (bI)))) (go_keep) (fail)
    go_wp2_with (at_builtin; refine wpList_append_lies _ rfl (.tmp 86) (.tmp 88) 44 rfl 0 43 i0 .nilIface 1 16 Tryz.underlying44 hi hI0 hI1 hI2 rfl (by decide) _ _ _ rfl (rK.alloc _) ⟨w2.heap.size, 0, none⟩ 1 1 [NUM y] rfl rfl (cell_one_new _ _ _) (by intro u hu; simp at hu; subst hu; rfl) (by decide) (by unfold maxLen; first | omega | simp) (by first | omega | simp) (Nat.zero_le _) _ rfl ?_; intro g3 c3 w3 hown3 hgrow3 hat3 hlt3
                 have hsz : w.heap.size ≤ w2.heap.size := HK2.out.size
                 have h3 := h2'.out.pushK (by simp) hown3 (by simp) hgrow3 hat3 (fun k hk => hG'.out k (by omega))
                 have kk3 := HK2.out.trans (keeps_grown (S := G) (fun k e => h2'.out.gK k e) hgrow3) (fun _ _ h => h)
                 have hT3 := (keeps_grown (S := fun k => Value.ownBlock (.slice (some ⟨g, 0, none⟩) ks.length c) = some k) (fun k e => e) hgrow3).block T (lt_of h2'.out.tab.cells) (fun e => h2'.out.tab.offT.2.1 T e rfl)
                 have q6 : w3.cell? ⟨T, 4, none⟩ = some (.slice (some ⟨g, 0, none⟩) ks.length c) := by rw [cell_of (hT3.trans h2'.out.tab.cells)]; rfl
                 have z6 : w3.frozen? ⟨T, 4, none⟩ = false := free_of (hT3.trans h2'.out.tab.cells)
                 have h3' := Lib.hid h3
                 have HK3 := Lib.hid (kk3.setCell (p := ⟨T, 4, none⟩) h2'.out.gT (.slice (some ⟨g3, 0, none⟩) (ks.length + 1) c3))
                 clear h3 kk3 hT3 hown3 hgrow3 hat3 hlt3 rK)
    go_end0
    exact ⟨rfl, HK3.out, _, _, _, _, h3'.out, by simp⟩
  · go_end0
    exact ⟨rfl, HK1.out, _, _, _, _, h1'.out, by omega⟩
theorem rsh_B0 {g c bI : Nat} (h : TabF w T G av (.map none) (.map none) ((.slice (some ⟨g, 0, none⟩) ks.length c)) (.map (some bI)) xs cd cs ks) (hG : ∀ k, w.heap.size ≤ k → G k) (y b : Nat) (hy : KeyI (NUM y)) (hn : ks.length ≤ 1048576) :
    Calls Tryz.prog 35 #[.pointer (some ⟨T, 0, none⟩), NUM y, NUM b] w fun e w' => e = .returned (.tuple #[]) ∧ Keeps G w w' ∧ ∃ dv' kv' iv' ks', TabF w' T G av dv' (.map none) kv' iv' xs (put cd (NUM y) (NUM b)) cs ks' ∧ ks'.length ≤ ks.length + 1 := by
  have f2 : w.cell? ⟨T, 2, none⟩ = some (.map none) := by rw [cell_of h.tab.cells]; rfl
  have f3 : w.cell? ⟨T, 3, none⟩ = some (.map none) := by rw [cell_of h.tab.cells]; rfl
  have f4 : w.cell? ⟨T, 4, none⟩ = some ((.slice (some ⟨g, 0, none⟩) ks.length c)) := by rw [cell_of h.tab.cells]; rfl
  have f5 : w.cell? ⟨T, 5, none⟩ = some (.map (some bI)) := by rw [cell_of h.tab.cells]; rfl
  have z2 : w.frozen? ⟨T, 2, none⟩ = false := free_of h.tab.cells
  have z4 : w.frozen? ⟨T, 4, none⟩ = false := free_of h.tab.cells
  have z5 : w.frozen? ⟨T, 5, none⟩ = false := free_of h.tab.cells
  have hTl : T < w.heap.size := lt_of h.tab.cells
  have hmk : ∀ (n : Int) (W : World), _ := fun n => mkmap 45 43 43 n Tryz.underlying45
  have hmk2 := mkmap0 47
  have hG' := Lib.hid hG
  obtain ⟨i0, hi, hI0, hI1, hI2⟩ := info_parts Tryz.info43
  have hW0 := h.newD w.heap.size rfl (hG _ (Nat.le_refl _))
  have HK00 : Keeps G w ((w.alloc (.map #[] 0)).setCell ⟨T, 2, none⟩ (.map (some w.heap.size))) := ((Keeps.refl G w).alloc _).setCell h.gT _
  rw [past _ _ _ hTl] at hW0 HK00
  have hW := Lib.hid hW0
  have HK0 := Lib.hid HK00
  clear h hG f5 z4 z5 hW0 HK00 hmk2
  go_enter Tryz.func35, Tryz.ntmps35
  go_wp2_with (first
    | (at_mapUpdate; refine wpList_upd rfl (.tmp 58) (.tmp 59) (.tmp 60) 45 rfl _ _ _ rfl rfl rfl (fun w' => MapC w' (w.heap.size) KeyI (put cd (NUM y) (NUM b)) ∧ Keeps (fun j => j = w.heap.size) _ w' ∧ w'.heap.size = _) (upd45 hW.out.mapD (NUM y) hy _) ?_; rintro w1 ⟨hm1, hk1, hz1⟩
       have h1 := hW.out.setD hm1 hk1
       have kk1 := HK0.out.trans hk1 (fun k _ e => by have e' : k = w.heap.size := e; rw [e']; exact h1.gD _ rfl)
       have p4 : w1.cell? ⟨T, 4, none⟩ = some (.slice (some ⟨g, 0, none⟩) ks.length c) := by rw [cell_of h1.tab.cells]; rfl
       have p5 : w1.cell? ⟨T, 5, none⟩ = some (.map (some (bI))) := by rw [cell_of h1.tab.cells]; rfl
       have h1' := Lib.hid h1
       have HK1 := Lib.hid kk1
       obtain ⟨ci, hI⟩ := h1.mapI
       obtain ⟨zz, rr, hl⟩ : ∃ zz rr, (Instr.lookup 47 (.map (some (bI))) (NUM y) true).run Tryz.prog w1 = .ok (.tuple #[zz, .bool rr]) w1 := ⟨_, _, look47 hI (NUM y) hy⟩
       have hI' := Lib.hid hI
       clear h1 kk1 hm1 hk1 hz1 hI)
    | (at_lookup; refine wpList_look rfl (.tmp 65) (.tmp 66) 47 true rfl _ _ _ rfl rfl hl ?_; clear hl))
  · obtain ⟨w2, hU, hm2, hk2, hz2⟩ := upd47 (w := w1.drew) hI'.out (NUM y) hy (.int .i64 ks.length)
    have h2 := TabF.setI h1'.out.drew hm2 hk2
    have HK2 := Lib.hid ((HK1.out.trans (Keeps.drew (Keeps.refl (fun _ => False) w1)) (fun _ _ e => e.elim)).trans hk2 (fun k _ e => by have e' : k = bI := e; rw [e']; exact h1'.out.gI _ rfl))
    have q4 : w2.cell? ⟨T, 4, none⟩ = some (.slice (some ⟨g, 0, none⟩) ks.length c) := by rw [cell_of h2.tab.cells]; rfl
    have q5 : w2.cell? ⟨T, 5, none⟩ = some (.map (some (bI))) := by rw [cell_of h2.tab.cells]; rfl
    have rK := h2.tab.keys
    have h2' := Lib.hid h2
    clear h2 hm2 hk2 hz2 f2 f4
    go_region_held3 (fun w' => w'.cell? ⟨T, 4, none⟩ = some (.slice (some ⟨g, 0, none⟩) ks.length c) ∧ w'.cell? ⟨T, 5, none⟩ = some (.map (some (bI)))) (go_keep) (fail)
    go_wp2_with (at_builtin; refine wpList_append_lies _ rfl (.tmp 86) (.tmp 88) 44 rfl 0 43 i0 .nilIface 1 16 Tryz.underlying44 hi hI0 hI1 hI2 rfl (by decide) _ _ _ rfl (rK.alloc _) ⟨w2.heap.size, 0, none⟩ 1 1 [NUM y] rfl rfl (cell_one_new _ _ _) (by intro u hu; simp at hu; subst hu; rfl) (by decide) (by unfold maxLen; first | omega | simp) (by first | omega | simp) (Nat.zero_le _) _ rfl ?_; intro g3 c3 w3 hown3 hgrow3 hat3 hlt3
                 have hsz : w.heap.size ≤ w2.heap.size := HK2.out.size
                 have h3 := h2'.out.pushK (by simp) hown3 (by simp) hgrow3 hat3 (fun k hk => hG'.out k (by omega))
                 have kk3 := HK2.out.trans (keeps_grown (S := G) (fun k e => h2'.out.gK k e) hgrow3) (fun _ _ h => h)
                 have hT3 := (keeps_grown (S := fun k => Value.ownBlock (.slice (some ⟨g, 0, none⟩) ks.length c) = some k) (fun k e => e) hgrow3).block T (lt_of h2'.out.tab.cells) (fun e => h2'.out.tab.offT.2.1 T e rfl)
                 have q6 : w3.cell? ⟨T, 4, none⟩ = some (.slice (some ⟨g, 0, none⟩) ks.length c) := by rw [cell_of (hT3.trans h2'.out.tab.cells)]; rfl
                 have z6 : w3.frozen? ⟨T, 4, none⟩ = false := free_of (hT3.trans h2'.out.tab.cells)
                 have h3' := Lib.hid h3
                 have HK3 := Lib.hid (kk3.setCell (p := ⟨T, 4, none⟩) h2'.out.gT (.slice (some ⟨g3, 0, none⟩) (ks.length + 1) c3))
                 clear h3 kk3 hT3 hown3 hgrow3 hat3 hlt3 rK)
    go_end0
    exact ⟨rfl, HK3.out, _, _, _, _, h3'.out, by simp⟩
  · go_end0
    exact ⟨rfl, HK1.out, _, _, _, _, h1'.out, by omega⟩
theorem rsh_B1 {bS g c bI : Nat} (h : TabF w T G av (.map none) (.map (some bS)) ((.slice (some ⟨g, 0, none⟩) ks.length c)) (.map (some bI)) xs cd cs ks) (hG : ∀ k, w.heap.size ≤ k → G k) (y b : Nat) (hy : KeyI (NUM y)) (hn : ks.length ≤ 1048576) :
    Calls Tryz.prog 35 #[.pointer (some ⟨T, 0, none⟩), NUM y, NUM b] w fun e w' => e = .returned (.tuple #[]) ∧ Keeps G w w' ∧ ∃ dv' kv' iv' ks', TabF w' T G av dv' (.map (some bS)) kv' iv' xs (put cd (NUM y) (NUM b)) cs ks' ∧ ks'.length ≤ ks.length + 1 := by
  have f2 : w.cell? ⟨T, 2, none⟩ = some (.map none) := by rw [cell_of h.tab.cells]; rfl
  have f3 : w.cell? ⟨T, 3, none⟩ = some (.map (some bS)) := by rw [cell_of h.tab.cells]; rfl
  have f4 : w.cell? ⟨T, 4, none⟩ = some ((.slice (some ⟨g, 0, none⟩) ks.length c)) := by rw [cell_of h.tab.cells]; rfl
  have f5 : w.cell? ⟨T, 5, none⟩ = some (.map (some bI)) := by rw [cell_of h.tab.cells]; rfl
  have z2 : w.frozen? ⟨T, 2, none⟩ = false := free_of h.tab.cells
  have z4 : w.frozen? ⟨T, 4, none⟩ = false := free_of h.tab.cells
  have z5 : w.frozen? ⟨T, 5, none⟩ = false := free_of h.tab.cells
  have hTl : T < w.heap.size := lt_of h.tab.cells
  have hmk : ∀ (n : Int) (W : World), _ := fun n => mkmap 45 43 43 n Tryz.underlying45
  have hmk2 := mkmap0 47
  have hG' := Lib.hid hG
  obtain ⟨i0, hi, hI0, hI1, hI2⟩ := info_parts Tryz.info43
  have hW0 := h.newD w.heap.size rfl (hG _ (Nat.le_refl _))
  have HK00 : Keeps G w ((w.alloc (.map #[] 0)).setCell ⟨T, 2, none⟩ (.map (some w.heap.size))) := ((Keeps.refl G w).alloc _).setCell h.gT _
  rw [past _ _ _ hTl] at hW0 HK00
  obtain ⟨nl, hln⟩ := len_map h.mapS
  have hW := Lib.hid hW0
  have HK0 := Lib.hid HK00
  clear h hG f5 z4 z5 hW0 HK00 hmk2
  go_enter Tryz.func35, Tryz.ntmps35
  go_wp2_with (first
    | (at_mapUpdate; refine wpList_upd rfl (.tmp 58) (.tmp 59) (.tmp 60) 45 rfl _ _ _ rfl rfl rfl (fun w' => MapC w' (w.heap.size) KeyI (put cd (NUM y) (NUM b)) ∧ Keeps (fun j => j = w.heap.size) _ w' ∧ w'.heap.size = _) (upd45 hW.out.mapD (NUM y) hy _) ?_; rintro w1 ⟨hm1, hk1, hz1⟩
       have h1 := hW.out.setD hm1 hk1
       have kk1 := HK0.out.trans hk1 (fun k _ e => by have e' : k = w.heap.size := e; rw [e']; exact h1.gD _ rfl)
       have p4 : w1.cell? ⟨T, 4, none⟩ = some (.slice (some ⟨g, 0, none⟩) ks.length c) := by rw [cell_of h1.tab.cells]; rfl
       have p5 : w1.cell? ⟨T, 5, none⟩ = some (.map (some (bI))) := by rw [cell_of h1.tab.cells]; rfl
       have h1' := Lib.hid h1
       have HK1 := Lib.hid kk1
       obtain ⟨ci, hI⟩ := h1.mapI
       obtain ⟨zz, rr, hl⟩ : ∃ zz rr, (Instr.lookup 47 (.map (some (bI))) (NUM y) true).run Tryz.prog w1 = .ok (.tuple #[zz, .bool rr]) w1 := ⟨_, _, look47 hI (NUM y) hy⟩
       have hI' := Lib.hid hI
       clear h1 kk1 hm1 hk1 hz1 hI)
    | (at_lookup; refine wpList_look rfl (.tmp 65) (.tmp 66) 47 true rfl _ _ _ rfl rfl hl ?_; clear hl))
  · obtain ⟨w2, hU, hm2, hk2, hz2⟩ := upd47 (w := w1.drew) hI'.out (NUM y) hy (.int .i64 ks.length)
    have h2 := TabF.setI h1'.out.drew hm2 hk2
    have HK2 := Lib.hid ((HK1.out.trans (Keeps.drew (Keeps.refl (fun _ => False) w1)) (fun _ _ e => e.elim)).trans hk2 (fun k _ e => by have e' : k = bI := e; rw [e']; exact h1'.out.gI _ rfl))
    have q4 : w2.cell? ⟨T, 4, none⟩ = some (.slice (some ⟨g, 0, none⟩) ks.length c) := by rw [cell_of h2.tab.cells]; rfl
    have q5 : w2.cell? ⟨T, 5, none⟩ = some (.map (some (bI))) := by rw [cell_of h2.tab.cells]; rfl
    have rK := h2.tab.keys
    have h2' := Lib.hid h2
    clear h2 hm2 hk2 hz2 f2 f4
    go_region_held3 (fun w' => w'.cell? ⟨T, 4, none⟩ = some (.slice (some ⟨g, 0, none⟩) ks.length c) ∧ w'.cell? ⟨T, 5, none⟩ = some (.map (some (bI)))) (go_keep) (fail)
    go_wp2_with (at_builtin; refine wpList_append_lies _ rfl (.tmp 86) (.tmp 88) 44 rfl 0 43 i0 .nilIface 1 16 Tryz.underlying44 hi hI0 hI1 hI2 rfl (by decide) _ _ _ rfl (rK.alloc _) ⟨w2.heap.size, 0, none⟩ 1 1 [NUM y] rfl rfl (cell_one_new _ _ _) (by intro u hu; simp at hu; subst hu; rfl) (by decide) (by unfold maxLen; first | omega | simp) (by first | omega | simp) (Nat.zero_le _) _ rfl ?_; intro g3 c3 w3 hown3 hgrow3 hat3 hlt3
                 have hsz : w.heap.size ≤ w2.heap.size := HK2.out.size
                 have h3 := h2'.out.pushK (by simp) hown3 (by simp) hgrow3 hat3 (fun k hk => hG'.out k (by omega))
                 have kk3 := HK2.out.trans (keeps_grown (S := G) (fun k e => h2'.out.gK k e) hgrow3) (fun _ _ h => h)
                 have hT3 := (keeps_grown (S := fun k => Value.ownBlock (.slice (some ⟨g, 0, none⟩) ks.length c) = some k) (fun k e => e) hgrow3).block T (lt_of h2'.out.tab.cells) (fun e => h2'.out.tab.offT.2.1 T e rfl)
                 have q6 : w3.cell? ⟨T, 4, none⟩ = some (.slice (some ⟨g, 0, none⟩) ks.length c) := by rw [cell_of (hT3.trans h2'.out.tab.cells)]; rfl
                 have z6 : w3.frozen? ⟨T, 4, none⟩ = false := free_of (hT3.trans h2'.out.tab.cells)
                 have h3' := Lib.hid h3
                 have HK3 := Lib.hid (kk3.setCell (p := ⟨T, 4, none⟩) h2'.out.gT (.slice (some ⟨g3, 0, none⟩) (ks.length + 1) c3))
                 clear h3 kk3 hT3 hown3 hgrow3 hat3 hlt3 rK)
    go_end0
    exact ⟨rfl, HK3.out, _, _, _, _, h3'.out, by simp⟩
  · go_end0
    exact ⟨rfl, HK1.out, _, _, _, _, h1'.out, by omega⟩
theorem rsh_C {bD : Nat} (h : TabF w T G av (.map (some bD)) (sv) (.slice none 0 0) (iv) xs cd cs ks) (hG : ∀ k, w.heap.size ≤ k → G k) (y b : Nat) (hy : KeyI (NUM y)) (hn : ks.length ≤ 1048576) :
    Calls Tryz.prog 35 #[.pointer (some ⟨T, 0, none⟩), NUM y, NUM b] w fun e w' => e = .returned (.tuple #[]) ∧ Keeps G w w' ∧ ∃ dv' kv' iv' ks', TabF w' T G av dv' (sv) kv' iv' xs (put cd (NUM y) (NUM b)) cs ks' ∧ ks'.length ≤ ks.length + 1 := by
  have f2 : w.cell? ⟨T, 2, none⟩ = some (.map (some bD)) := by rw [cell_of h.tab.cells]; rfl
  have f3 : w.cell? ⟨T, 3, none⟩ = some (sv) := by rw [cell_of h.tab.cells]; rfl
  have f4 : w.cell? ⟨T, 4, none⟩ = some (.slice none 0 0) := by rw [cell_of h.tab.cells]; rfl
  have f5 : w.cell? ⟨T, 5, none⟩ = some (iv) := by rw [cell_of h.tab.cells]; rfl
  have z2 : w.frozen? ⟨T, 2, none⟩ = false := free_of h.tab.cells
  have z4 : w.frozen? ⟨T, 4, none⟩ = false := free_of h.tab.cells
  have z5 : w.frozen? ⟨T, 5, none⟩ = false := free_of h.tab.cells
  have hTl : T < w.heap.size := lt_of h.tab.cells
  have hmk : ∀ (n : Int) (W : World), _ := fun n => mkmap 45 43 43 n Tryz.underlying45
  have hmk2 := mkmap0 47
  have hG' := Lib.hid hG
  obtain ⟨i0, hi, hI0, hI1, hI2⟩ := info_parts Tryz.info43
  obtain ⟨hks, hW1⟩ := h.newK w.heap.size rfl (hG _ (Nat.le_refl _))
  have HK00 : Keeps G w ((((w.alloc (.cells #[] 43)).setCell ⟨T, 4, none⟩ (.slice (some ⟨w.heap.size, 0, none⟩) 0 0)).alloc (.map #[] 0)).setCell ⟨T, 5, none⟩ (.map (some (w.heap.size + 1)))) := ((((Keeps.refl G w).alloc _).setCell h.gT _).alloc _).setCell h.gT _
  have hW0 := hW1.mono (G' := G) (fun k e => by rcases e with e | e; exact e; exact hG k (by omega))
  rw [past _ _ _ hTl, past2 _ _ _ _ (by rw [size_set]; exact hTl)] at hW0 HK00
  subst hks
  have hW := Lib.hid hW0
  have HK0 := Lib.hid HK00
  clear h hG z2 hW0 HK00 hW1 hmk f3
  go_enter Tryz.func35, Tryz.ntmps35
  go_wp2_with (first
    | (at_mapUpdate; refine wpList_upd rfl (.tmp 58) (.tmp 59) (.tmp 60) 45 rfl _ _ _ rfl rfl rfl (fun w' => MapC w' (bD) KeyI (put cd (NUM y) (NUM b)) ∧ Keeps (fun j => j = bD) _ w' ∧ w'.heap.size = _) (upd45 hW.out.mapD (NUM y) hy _) ?_; rintro w1 ⟨hm1, hk1, hz1⟩
       have h1 := hW.out.setD hm1 hk1
       have kk1 := HK0.out.trans hk1 (fun k _ e => by have e' : k = bD := e; rw [e']; exact h1.gD _ rfl)
       have p4 : w1.cell? ⟨T, 4, none⟩ = some (.slice (some ⟨w.heap.size, 0, none⟩) 0 0) := by rw [cell_of h1.tab.cells]; rfl
       have p5 : w1.cell? ⟨T, 5, none⟩ = some (.map (some (w.heap.size + 1))) := by rw [cell_of h1.tab.cells]; rfl
       have h1' := Lib.hid h1
       have HK1 := Lib.hid kk1
       obtain ⟨ci, hI⟩ := h1.mapI
       obtain ⟨zz, rr, hl⟩ : ∃ zz rr, (Instr.lookup 47 (.map (some (w.heap.size + 1))) (NUM y) true).run Tryz.prog w1 = .ok (.tuple #[zz, .bool rr]) w1 := ⟨_, _, look47 hI (NUM y) hy⟩
       have hI' := Lib.hid hI
       clear h1 kk1 hm1 hk1 hz1 hI)
    | (at_lookup; refine wpList_look rfl (.tmp 65) (.tmp 66) 47 true rfl _ _ _ rfl rfl hl ?_; clear hl))
  · obtain ⟨w2, hU, hm2, hk2, hz2⟩ := upd47 (w := w1.drew) hI'.out (NUM y) hy (.int .i64 0)
    have h2 := TabF.setI h1'.out.drew hm2 hk2
    have HK2 := Lib.hid ((HK1.out.trans (Keeps.drew (Keeps.refl (fun _ => False) w1)) (fun _ _ e => e.elim)).trans hk2 (fun k _ e => by have e' : k = w.heap.size + 1 := e; rw [e']; exact h1'.out.gI _ rfl))
    have q4 : w2.cell? ⟨T, 4, none⟩ = some (.slice (some ⟨w.heap.size, 0, none⟩) 0 0) := by rw [cell_of h2.tab.cells]; rfl
    have q5 : w2.cell? ⟨T, 5, none⟩ = some (.map (some (w.heap.size + 1))) := by rw [cell_of h2.tab.cells]; rfl
    have rK := h2.tab.keys
    have h2' := Lib.hid h2
    clear h2 hm2 hk2 hz2 f2 f4
    go_region_held3 (fun w' => w'.cell? ⟨T, 4, none⟩ = some (.slice (some ⟨w.heap.size, 0, none⟩) 0 0) ∧ w'.cell? ⟨T, 5, none⟩ = some (.map (some (w.heap.size + 1)))) (go_keep) (fail)
    go_wp2_with (at_builtin; refine wpList_append_lies _ rfl (.tmp 86) (.tmp 88) 44 rfl 0 43 i0 .nilIface 1 16 Tryz.underlying44 hi hI0 hI1 hI2 rfl (by decide) _ _ _ rfl (rK.alloc _) ⟨w2.heap.size, 0, none⟩ 1 1 [NUM y] rfl rfl (cell_one_new _ _ _) (by intro u hu; simp at hu; subst hu; rfl) (by decide) (by unfold maxLen; first | omega | simp) (by first | omega | simp) (Nat.zero_le _) _ rfl ?_; intro g3 c3 w3 hown3 hgrow3 hat3 hlt3
                 have hsz : w.heap.size ≤ w2.heap.size := HK2.out.size
                 have h3 := h2'.out.pushK (by simp) hown3 (by simp) hgrow3 hat3 (fun k hk => hG'.out k (by omega))
                 have kk3 := HK2.out.trans (keeps_grown (S := G) (fun k e => h2'.out.gK k e) hgrow3) (fun _ _ h => h)
                 have hT3 := (keeps_grown (S := fun k => Value.ownBlock (.slice (some ⟨w.heap.size, 0, none⟩) 0 0) = some k) (fun k e => e) hgrow3).block T (lt_of h2'.out.tab.cells) (fun e => h2'.out.tab.offT.2.1 T e rfl)
                 have q6 : w3.cell? ⟨T, 4, none⟩ = some (.slice (some ⟨w.heap.size, 0, none⟩) 0 0) := by rw [cell_of (hT3.trans h2'.out.tab.cells)]; rfl
                 have z6 : w3.frozen? ⟨T, 4, none⟩ = false := free_of (hT3.trans h2'.out.tab.cells)
                 have h3' := Lib.hid h3
                 have HK3 := Lib.hid (kk3.setCell (p := ⟨T, 4, none⟩) h2'.out.gT (.slice (some ⟨g3, 0, none⟩) (0 + 1) c3))
                 clear h3 kk3 hT3 hown3 hgrow3 hat3 hlt3 rK)
    go_end0
    exact ⟨rfl, HK3.out, _, _, _, _, h3'.out, by simp⟩
  · go_end0
    exact ⟨rfl, HK1.out, _, _, _, _, h1'.out, by simp⟩
set_option maxHeartbeats 2000000 in
theorem rsh_D0 (h : TabF w T G av (.map none) (.map none) (.slice none 0 0) (iv) xs cd cs ks) (hG : ∀ k, w.heap.size ≤ k → G k) (y b : Nat) (hy : KeyI (NUM y)) (hn : ks.length ≤ 1048576) :
    Calls Tryz.prog 35 #[.pointer (some ⟨T, 0, none⟩), NUM y, NUM b] w fun e w' => e = .returned (.tuple #[]) ∧ Keeps G w w' ∧ ∃ dv' kv' iv' ks', TabF w' T G av dv' (.map none) kv' iv' xs (put cd (NUM y) (NUM b)) cs ks' ∧ ks'.length ≤ ks.length + 1 := by
  have f2 : w.cell? ⟨T, 2, none⟩ = some (.map none) := by rw [cell_of h.tab.cells]; rfl
  have f3 : w.cell? ⟨T, 3, none⟩ = some (.map none) := by rw [cell_of h.tab.cells]; rfl
  have f4 : w.cell? ⟨T, 4, none⟩ = some (.slice none 0 0) := by rw [cell_of h.tab.cells]; rfl
  have f5 : w.cell? ⟨T, 5, none⟩ = some (iv) := by rw [cell_of h.tab.cells]; rfl
  have z2 : w.frozen? ⟨T, 2, none⟩ = false := free_of h.tab.cells
  have z4 : w.frozen? ⟨T, 4, none⟩ = false := free_of h.tab.cells
  have z5 : w.frozen? ⟨T, 5, none⟩ = false := free_of h.tab.cells
  have hTl : T < w.heap.size := lt_of h.tab.cells
  have hmk : ∀ (n : Int) (W : World), _ := fun n => mkmap 45 43 43 n Tryz.underlying45
  have hmk2 := mkmap0 47
  have hG' := Lib.hid hG
  obtain ⟨i0, hi, hI0, hI1, hI2⟩ := info_parts Tryz.info43
  have hA0 := h.newD w.heap.size rfl (hG _ (Nat.le_refl _))
  have HKA : Keeps G w ((w.alloc (.map #[] 0)).setCell ⟨T, 2, none⟩ (.map (some w.heap.size))) := ((Keeps.refl G w).alloc _).setCell h.gT _
  have hAs : ((w.alloc (.map #[] 0)).setCell ⟨T, 2, none⟩ (.map (some w.heap.size))).heap.size = w.heap.size + 1 := by rw [size_set]; simp
  rw [past _ _ _ hTl] at hA0 HKA hAs
  obtain ⟨hks, hW1⟩ := hA0.newK (w.heap.size + 1) hAs.symm (hG _ (by omega))
  have HK00 := (((HKA.alloc (.cells #[] 43)).setCell (p := ⟨T, 4, none⟩) h.gT (.slice (some ⟨w.heap.size + 1, 0, none⟩) 0 0)).alloc (.map #[] 0)).setCell (p := ⟨T, 5, none⟩) h.gT (.map (some (w.heap.size + 1 + 1)))
  have hW0 := hW1.mono (G' := G) (fun k e => by rcases e with e | e; exact e; exact hG k (by omega))
  rw [past2 _ _ _ _ (by rw [size_set]; exact hTl)] at hW0 HK00
  subst hks
  have hX : (((((w.setCell ⟨T, 2, none⟩ (.map (some w.heap.size))).setCell ⟨T, 4, none⟩ (.slice (some ⟨w.heap.size + 1, 0, none⟩) 0 0)).alloc (.map #[] 0)).alloc (.cells #[] 43)).alloc (.map #[] 0)).heap[T]? = some (.cells #[LNIL, av, .map (some w.heap.size), .map none, .slice (some ⟨w.heap.size + 1, 0, none⟩) 0 0, iv] 49 (0, 0)) := by
    refine alloc_old _ (alloc_old _ (alloc_old _ ?_))
    rw [set_same _ (set_same _ h.tab.cells)]; rfl
  have x5 := cell_of (o := 5) hX
  have y5 := free_of (o := 5) hX
  have xx2 := cell_of (o := 2) hX
  simp only [List.getElem?_toArray, List.getElem?_cons_succ, List.getElem?_cons_zero] at x5 xx2
  have hW := Lib.hid hW0
  have HK0 := Lib.hid HK00
  clear h hG hW0 HK00 hW1 hA0 HKA hAs hX
  go_enter Tryz.func35, Tryz.ntmps35
  go_wp2_with (first
    | (at_mapUpdate; refine wpList_upd rfl (.tmp 58) (.tmp 59) (.tmp 60) 45 rfl _ _ _ rfl rfl rfl (fun w' => MapC w' (w.heap.size) KeyI (put cd (NUM y) (NUM b)) ∧ Keeps (fun j => j = w.heap.size) _ w' ∧ w'.heap.size = _) (upd45 hW.out.mapD (NUM y) hy _) ?_; rintro w1 ⟨hm1, hk1, hz1⟩
       have h1 := hW.out.setD hm1 hk1
       have kk1 := HK0.out.trans hk1 (fun k _ e => by have e' : k = w.heap.size := e; rw [e']; exact h1.gD _ rfl)
       have p4 : w1.cell? ⟨T, 4, none⟩ = some (.slice (some ⟨w.heap.size + 1, 0, none⟩) 0 0) := by rw [cell_of h1.tab.cells]; rfl
       have p5 : w1.cell? ⟨T, 5, none⟩ = some (.map (some (w.heap.size + 1 + 1))) := by rw [cell_of h1.tab.cells]; rfl
       have h1' := Lib.hid h1
       have HK1 := Lib.hid kk1
       obtain ⟨ci, hI⟩ := h1.mapI
       obtain ⟨zz, rr, hl⟩ : ∃ zz rr, (Instr.lookup 47 (.map (some (w.heap.size + 1 + 1))) (NUM y) true).run Tryz.prog w1 = .ok (.tuple #[zz, .bool rr]) w1 := ⟨_, _, look47 hI (NUM y) hy⟩
       have hI' := Lib.hid hI
       clear h1 kk1 hm1 hk1 hz1 hI)
    | (at_lookup; refine wpList_look rfl (.tmp 65) (.tmp 66) 47 true rfl _ _ _ rfl rfl hl ?_; clear hl))
  · obtain ⟨w2, hU, hm2, hk2, hz2⟩ := upd47 (w := w1.drew) hI'.out (NUM y) hy (.int .i64 0)
    have h2 := TabF.setI h1'.out.drew hm2 hk2
    have HK2 := Lib.hid ((HK1.out.trans (Keeps.drew (Keeps.refl (fun _ => False) w1)) (fun _ _ e => e.elim)).trans hk2 (fun k _ e => by have e' : k = w.heap.size + 1 + 1 := e; rw [e']; exact h1'.out.gI _ rfl))
    have q4 : w2.cell? ⟨T, 4, none⟩ = some (.slice (some ⟨w.heap.size + 1, 0, none⟩) 0 0) := by rw [cell_of h2.tab.cells]; rfl
    have q5 : w2.cell? ⟨T, 5, none⟩ = some (.map (some (w.heap.size + 1 + 1))) := by rw [cell_of h2.tab.cells]; rfl
    have rK := h2.tab.keys
    have h2' := Lib.hid h2
    clear h2 hm2 hk2 hz2 f2 f4
    go_region_held3 (fun w' => w'.cell? ⟨T, 4, none⟩ = some (.slice (some ⟨w.heap.size + 1, 0, none⟩) 0 0) ∧ w'.cell? ⟨T, 5, none⟩ = some (.map (some (w.heap.size + 1 + 1)))) (go_keep) (fail)
    go_wp2_with (at_builtin; refine wpList_append_lies _ rfl (.tmp 86) (.tmp 88) 44 rfl 0 43 i0 .nilIface 1 16 Tryz.underlying44 hi hI0 hI1 hI2 rfl (by decide) _ _ _ rfl (rK.alloc _) ⟨w2.heap.size, 0, none⟩ 1 1 [NUM y] rfl rfl (cell_one_new _ _ _) (by intro u hu; simp at hu; subst hu; rfl) (by decide) (by unfold maxLen; first | omega | simp) (by first | omega | simp) (Nat.zero_le _) _ rfl ?_; intro g3 c3 w3 hown3 hgrow3 hat3 hlt3
                 have hsz : w.heap.size ≤ w2.heap.size := HK2.out.size
                 have h3 := h2'.out.pushK (by simp) hown3 (by simp) hgrow3 hat3 (fun k hk => hG'.out k (by omega))
                 have kk3 := HK2.out.trans (keeps_grown (S := G) (fun k e => h2'.out.gK k e) hgrow3) (fun _ _ h => h)
                 have hT3 := (keeps_grown (S := fun k => Value.ownBlock (.slice (some ⟨w.heap.size + 1, 0, none⟩) 0 0) = some k) (fun k e => e) hgrow3).block T (lt_of h2'.out.tab.cells) (fun e => h2'.out.tab.offT.2.1 T e rfl)
                 have q6 : w3.cell? ⟨T, 4, none⟩ = some (.slice (some ⟨w.heap.size + 1, 0, none⟩) 0 0) := by rw [cell_of (hT3.trans h2'.out.tab.cells)]; rfl
                 have z6 : w3.frozen? ⟨T, 4, none⟩ = false := free_of (hT3.trans h2'.out.tab.cells)
                 have h3' := Lib.hid h3
                 have HK3 := Lib.hid (kk3.setCell (p := ⟨T, 4, none⟩) h2'.out.gT (.slice (some ⟨g3, 0, none⟩) (0 + 1) c3))
                 clear h3 kk3 hT3 hown3 hgrow3 hat3 hlt3 rK)
    go_end0
    exact ⟨rfl, HK3.out, _, _, _, _, h3'.out, by simp⟩
  · go_end0
    exact ⟨rfl, HK1.out, _, _, _, _, h1'.out, by simp⟩
set_option maxHeartbeats 2000000 in
theorem rsh_D1 {bS : Nat} (h : TabF w T G av (.map none) (.map (some bS)) (.slice none 0 0) (iv) xs cd cs ks) (hG : ∀ k, w.heap.size ≤ k → G k) (y b : Nat) (hy : KeyI (NUM y)) (hn : ks.length ≤ 1048576) :
    Calls Tryz.prog 35 #[.pointer (some ⟨T, 0, none⟩), NUM y, NUM b] w fun e w' => e = .returned (.tuple #[]) ∧ Keeps G w w' ∧ ∃ dv' kv' iv' ks', TabF w' T G av dv' (.map (some bS)) kv' iv' xs (put cd (NUM y) (NUM b)) cs ks' ∧ ks'.length ≤ ks.length + 1 := by
  have f2 : w.cell? ⟨T, 2, none⟩ = some (.map none) := by rw [cell_of h.tab.cells]; rfl
  have f3 : w.cell? ⟨T, 3, none⟩ = some (.map (some bS)) := by rw [cell_of h.tab.cells]; rfl
  have f4 : w.cell? ⟨T, 4, none⟩ = some (.slice none 0 0) := by rw [cell_of h.tab.cells]; rfl
  have f5 : w.cell? ⟨T, 5, none⟩ = some (iv) := by rw [cell_of h.tab.cells]; rfl
  have z2 : w.frozen? ⟨T, 2, none⟩ = false := free_of h.tab.cells
  have z4 : w.frozen? ⟨T, 4, none⟩ = false := free_of h.tab.cells
  have z5 : w.frozen? ⟨T, 5, none⟩ = false := free_of h.tab.cells
  have hTl : T < w.heap.size := lt_of h.tab.cells
  have hmk : ∀ (n : Int) (W : World), _ := fun n => mkmap 45 43 43 n Tryz.underlying45
  have hmk2 := mkmap0 47
  have hG' := Lib.hid hG
  obtain ⟨i0, hi, hI0, hI1, hI2⟩ := info_parts Tryz.info43
  have hA0 := h.newD w.heap.size rfl (hG _ (Nat.le_refl _))
  have HKA : Keeps G w ((w.alloc (.map #[] 0)).setCell ⟨T, 2, none⟩ (.map (some w.heap.size))) := ((Keeps.refl G w).alloc _).setCell h.gT _
  have hAs : ((w.alloc (.map #[] 0)).setCell ⟨T, 2, none⟩ (.map (some w.heap.size))).heap.size = w.heap.size + 1 := by rw [size_set]; simp
  rw [past _ _ _ hTl] at hA0 HKA hAs
  obtain ⟨hks, hW1⟩ := hA0.newK (w.heap.size + 1) hAs.symm (hG _ (by omega))
  have HK00 := (((HKA.alloc (.cells #[] 43)).setCell (p := ⟨T, 4, none⟩) h.gT (.slice (some ⟨w.heap.size + 1, 0, none⟩) 0 0)).alloc (.map #[] 0)).setCell (p := ⟨T, 5, none⟩) h.gT (.map (some (w.heap.size + 1 + 1)))
  have hW0 := hW1.mono (G' := G) (fun k e => by rcases e with e | e; exact e; exact hG k (by omega))
  rw [past2 _ _ _ _ (by rw [size_set]; exact hTl)] at hW0 HK00
  subst hks
  have hX : (((((w.setCell ⟨T, 2, none⟩ (.map (some w.heap.size))).setCell ⟨T, 4, none⟩ (.slice (some ⟨w.heap.size + 1, 0, none⟩) 0 0)).alloc (.map #[] 0)).alloc (.cells #[] 43)).alloc (.map #[] 0)).heap[T]? = some (.cells #[LNIL, av, .map (some w.heap.size), .map (some bS), .slice (some ⟨w.heap.size + 1, 0, none⟩) 0 0, iv] 49 (0, 0)) := by
    refine alloc_old _ (alloc_old _ (alloc_old _ ?_))
    rw [set_same _ (set_same _ h.tab.cells)]; rfl
  have x5 := cell_of (o := 5) hX
  have y5 := free_of (o := 5) hX
  have xx2 := cell_of (o := 2) hX
  simp only [List.getElem?_toArray, List.getElem?_cons_succ, List.getElem?_cons_zero] at x5 xx2
  obtain ⟨nl, hln⟩ := len_map h.mapS
  have hW := Lib.hid hW0
  have HK0 := Lib.hid HK00
  clear h hG hW0 HK00 hW1 hA0 HKA hAs hX
  go_enter Tryz.func35, Tryz.ntmps35
  go_wp2_with (first
    | (at_mapUpdate; refine wpList_upd rfl (.tmp 58) (.tmp 59) (.tmp 60) 45 rfl _ _ _ rfl rfl rfl (fun w' => MapC w' (w.heap.size) KeyI (put cd (NUM y) (NUM b)) ∧ Keeps (fun j => j = w.heap.size) _ w' ∧ w'.heap.size = _) (upd45 hW.out.mapD (NUM y) hy _) ?_; rintro w1 ⟨hm1, hk1, hz1⟩
       have h1 := hW.out.setD hm1 hk1
       have kk1 := HK0.out.trans hk1 (fun k _ e => by have e' : k = w.heap.size := e; rw [e']; exact h1.gD _ rfl)
       have p4 : w1.cell? ⟨T, 4, none⟩ = some (.slice (some ⟨w.heap.size + 1, 0, none⟩) 0 0) := by rw [cell_of h1.tab.cells]; rfl
       have p5 : w1.cell? ⟨T, 5, none⟩ = some (.map (some (w.heap.size + 1 + 1))) := by rw [cell_of h1.tab.cells]; rfl
       have h1' := Lib.hid h1
       have HK1 := Lib.hid kk1
       obtain ⟨ci, hI⟩ := h1.mapI
       obtain ⟨zz, rr, hl⟩ : ∃ zz rr, (Instr.lookup 47 (.map (some (w.heap.size + 1 + 1))) (NUM y) true).run Tryz.prog w1 = .ok (.tuple #[zz, .bool rr]) w1 := ⟨_, _, look47 hI (NUM y) hy⟩
       have hI' := Lib.hid hI
       clear h1 kk1 hm1 hk1 hz1 hI)
    | (at_lookup; refine wpList_look rfl (.tmp 65) (.tmp 66) 47 true rfl _ _ _ rfl rfl hl ?_; clear hl))
  · obtain ⟨w2, hU, hm2, hk2, hz2⟩ := upd47 (w := w1.drew) hI'.out (NUM y) hy (.int .i64 0)
    have h2 := TabF.setI h1'.out.drew hm2 hk2
    have HK2 := Lib.hid ((HK1.out.trans (Keeps.drew (Keeps.refl (fun _ => False) w1)) (fun _ _ e => e.elim)).trans hk2 (fun k _ e => by have e' : k = w.heap.size + 1 + 1 := e; rw [e']; exact h1'.out.gI _ rfl))
    have q4 : w2.cell? ⟨T, 4, none⟩ = some (.slice (some ⟨w.heap.size + 1, 0, none⟩) 0 0) := by rw [cell_of h2.tab.cells]; rfl
    have q5 : w2.cell? ⟨T, 5, none⟩ = some (.map (some (w.heap.size + 1 + 1))) := by rw [cell_of h2.tab.cells]; rfl
    have rK := h2.tab.keys
    have h2' := Lib.hid h2
    clear h2 hm2 hk2 hz2 f2 f4
    go_region_held3 (fun w' => w'.cell? ⟨T, 4, none⟩ = some (.slice (some ⟨w.heap.size + 1, 0, none⟩) 0 0) ∧ w'.cell? ⟨T, 5, none⟩ = some (.map (some (w.heap.size + 1 + 1)))) (go_keep) (fail)
    go_wp2_with (at_builtin; refine wpList_append_lies _ rfl (.tmp 86) (.tmp 88) 44 rfl 0 43 i0 .nilIface 1 16 Tryz.underlying44 hi hI0 hI1 hI2 rfl (by decide) _ _ _ rfl (rK.alloc _) ⟨w2.heap.size, 0, none⟩ 1 1 [NUM y] rfl rfl (cell_one_new _ _ _) (by intro u hu; simp at hu; subst hu; rfl) (by decide) (by unfold maxLen; first | omega | simp) (by first | omega | simp) (Nat.zero_le _) _ rfl ?_; intro g3 c3 w3 hown3 hgrow3 hat3 hlt3
                 have hsz : w.heap.size ≤ w2.heap.size := HK2.out.size
                 have h3 := h2'.out.pushK (by simp) hown3 (by simp) hgrow3 hat3 (fun k hk => hG'.out k (by omega))
                 have kk3 := HK2.out.trans (keeps_grown (S := G) (fun k e => h2'.out.gK k e) hgrow3) (fun _ _ h => h)
                 have hT3 := (keeps_grown (S := fun k => Value.ownBlock (.slice (some ⟨w.heap.size + 1, 0, none⟩) 0 0) = some k) (fun k e => e) hgrow3).block T (lt_of h2'.out.tab.cells) (fun e => h2'.out.tab.offT.2.1 T e rfl)
                 have q6 : w3.cell? ⟨T, 4, none⟩ = some (.slice (some ⟨w.heap.size + 1, 0, none⟩) 0 0) := by rw [cell_of (hT3.trans h2'.out.tab.cells)]; rfl
                 have z6 : w3.frozen? ⟨T, 4, none⟩ = false := free_of (hT3.trans h2'.out.tab.cells)
                 have h3' := Lib.hid h3
                 have HK3 := Lib.hid (kk3.setCell (p := ⟨T, 4, none⟩) h2'.out.gT (.slice (some ⟨g3, 0, none⟩) (0 + 1) c3))
                 clear h3 kk3 hT3 hown3 hgrow3 hat3 hlt3 rK)
    go_end0
    exact ⟨rfl, HK3.out, _, _, _, _, h3'.out, by simp⟩
  · go_end0
    exact ⟨rfl, HK1.out, _, _, _, _, h1'.out, by simp⟩

/-- RawSetH with a number, at a whole-number key. -/
theorem rsh_any (h : TabF w T G av dv sv kv iv xs cd cs ks) (hG : ∀ k, w.heap.size ≤ k → G k) (y b : Nat) (hy : KeyI (NUM y)) (hn : ks.length ≤ 1048576) :
    Calls Tryz.prog 35 #[.pointer (some ⟨T, 0, none⟩), NUM y, NUM b] w fun e w' => e = .returned (.tuple #[]) ∧ Keeps G w w' ∧ ∃ dv' kv' iv' ks', TabF w' T G av dv' sv kv' iv' xs (put cd (NUM y) (NUM b)) cs ks' ∧ ks'.length ≤ ks.length + 1 := by
  have hS : sv = .map none ∨ ∃ bS, sv = .map (some bS) := by
    rcases h.tab.sd with ⟨e, _⟩ | ⟨b', e, _⟩
    · exact Or.inl e
    · exact Or.inr ⟨b', e⟩
  have hD : dv = .map none ∨ ∃ bD, dv = .map (some bD) := by
    rcases h.tab.di with ⟨e, _⟩ | ⟨b', e, _⟩
    · exact Or.inl e
    · exact Or.inr ⟨b', e⟩
  have hK : kv = .slice none 0 0 ∨ ∃ g c bI, kv = .slice (some ⟨g, 0, none⟩) ks.length c ∧ iv = .map (some bI) := by
    rcases h.tab.both with e | ⟨bI, e⟩
    · exact Or.inl e
    · rcases owns_form h.tab.keys with ⟨e2, _⟩ | ⟨g, c, e2⟩
      · exact Or.inl e2
      · exact Or.inr ⟨g, c, bI, e2, e⟩
  rcases hD with rfl | ⟨bD, rfl⟩
  · rcases hS with rfl | ⟨bS, rfl⟩ <;> rcases hK with rfl | ⟨g, c, bI, rfl, rfl⟩
    · exact rsh_D0 h hG y b hy hn
    · exact rsh_B0 h hG y b hy hn
    · exact rsh_D1 h hG y b hy hn
    · exact rsh_B1 h hG y b hy hn
  · rcases hK with rfl | ⟨g, c, bI, rfl, rfl⟩
    · exact rsh_C h hG y b hy hn
    · exact rsh_full h hG y b hy hn

theorem rsi_neg (h : TabF w T G av dv sv kv iv xs cd cs ks) (hG : ∀ k, w.heap.size ≤ k → G k) (b : Nat) (key : Int) (h1 : key < 1) (h2 : -9007199254740992 ≤ key) (hn : ks.length ≤ 1048576) :
    Calls Tryz.prog 29 #[.pointer (some ⟨T, 0, none⟩), .int .i64 key, NUM b] w fun e w' => e = .returned (.tuple #[]) ∧ Keeps G w w' ∧ ∃ dv' kv' iv' ks', TabF w' T G av dv' sv kv' iv' xs (put cd (NUM (floatOfInt .f64 key)) (NUM b)) cs ks' ∧ ks'.length ≤ ks.length + 1 := by
  have H := Lib.hid (rsh_any h hG (floatOfInt .f64 key) b (Or.inr ⟨key, h2, by omega, rfl⟩) hn)
  clear h hG hn
  go_enter Tryz.func29, Tryz.ntmps29
  go_wp2_with fail
  refine H.out.mono ?_
  rintro e w' ⟨rfl, hk, hres⟩
  go_wp2_with fail
  refine bodyPost_ret (results_none rfl _ _ _) rfl ?_
  exact ⟨rfl, hk, hres⟩

/-- What a write at an integer key makes of the array part, and of the hash. -/
def stepX (xs : List Value) (k : Int) (v : Value) : List Value := if 1 ≤ k then setV xs (k - 1).toNat v else xs
noncomputable def stepD (cd : Value → Option Value) (k : Int) (v : Value) : Value → Option Value := if 1 ≤ k then cd else put cd (NUM (floatOfInt .f64 k)) v

/-- RawSetInt with a number. -/
theorem rset_int (h : TabF w T G av dv sv kv iv xs cd cs ks) (hG : ∀ k, w.heap.size ≤ k → G k) (b : Nat) (key : Int) (h1 : -65536 ≤ key) (h2 : key ≤ 65536) (hn : ks.length ≤ 1048576) :
    Calls Tryz.prog 29 #[.pointer (some ⟨T, 0, none⟩), .int .i64 key, NUM b] w fun e w' => e = .returned (.tuple #[]) ∧ Keeps G w w' ∧ ∃ av' dv' kv' iv' ks', TabF w' T G av' dv' sv kv' iv' (stepX xs key (NUM b)) (stepD cd key (NUM b)) cs ks' ∧ ks'.length ≤ ks.length + 1 := by
  unfold stepX stepD
  by_cases hp : 1 ≤ key
  · rw [if_pos hp, if_pos hp]
    refine (rsi_any h hG b (key - 1).toNat key (by omega) (by omega)).mono ?_
    rintro e w' ⟨he, hk, av', h'⟩
    exact ⟨he, hk, av', dv, kv, iv, ks, h', by omega⟩
  · rw [if_neg hp, if_neg hp]
    refine (rsi_neg h hG b key (by omega) (by omega) hn).mono ?_
    rintro e w' ⟨he, hk, dv', kv', iv', ks', h', hl⟩
    exact ⟨he, hk, av, dv', kv', iv', ks', h', hl⟩
end
end Go.Proofs.YtbgolkdhcgjfkaaGreatDoor
