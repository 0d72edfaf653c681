/-
  What each store into the table leaves of it (TabF): new maps, a new list of keys, a store into a map, an element appended, an element turned.
-/
import Derived.Test.YtbgolkdhcgjfkaaGreatDoorReads
namespace Go.Proofs.YtbgolkdhcgjfkaaGreatDoor
open Go.RowKit
set_option maxRecDepth 100000
set_option maxHeartbeats 400000

theorem own_inj {g n c b : Nat} (h : (Value.slice (some ⟨g, 0, none⟩) n c).ownBlock = some b) : b = g := by cases h; rfl

theorem MapV.keep {S : Nat → Prop} {w w' : World} {v : Value} {kp : Value → Prop} {c : Value → Option Value} (h : MapV w v kp c) (hk : Keeps S w w') (hS : ∀ b, mapBlock v = some b → ¬ S b) : MapV w' v kp c := by
  rcases h with h | ⟨b, rfl, h⟩
  · exact Or.inl h
  · exact Or.inr ⟨b, rfl, h.keep hk (hS b rfl)⟩

theorem owns_keep {S : Nat → Prop} {w w' : World} {B : Nat} {e : TypeId} {v : Value} {n : Nat} {xs : List Value} (h : w.ownsRow B e 1 v n xs) (hk : Keeps S w w') (hS : ∀ b, v.ownBlock = some b → ¬ S b) : w'.ownsRow B e 1 v n xs := by
  obtain ⟨h0, h2⟩ := h
  rcases h2 with h2 | ⟨g, cap, cur, rfl, hb, hg, r⟩
  · exact ⟨h0, .inl h2⟩
  · exact ⟨h0, .inr ⟨g, cap, cur, rfl, hb, (hk.block g (lt_of hg) (hS g rfl)).trans hg, r⟩⟩

theorem owns_block {w : World} {B : Nat} {e : TypeId} {v : Value} {n : Nat} {xs : List Value} (h : w.ownsRow B e 1 v n xs) {b : Nat} (hb : v.ownBlock = some b) : ∃ cur, w.heap[b]? = some (.cells cur e (0, 0)) := by
  obtain ⟨h0, h2⟩ := h
  rcases h2 with ⟨rfl, _⟩ | ⟨g, cap, cur, rfl, _, hg, r⟩
  · cases hb
  · cases hb; exact ⟨cur, hg⟩

theorem map_block {w : World} {v : Value} {kp : Value → Prop} {c : Value → Option Value} (h : MapV w v kp c) {b : Nat} (hb : mapBlock v = some b) : ∃ es clock, w.heap[b]? = some (.map es clock) := by
  rcases h with ⟨rfl, _⟩ | ⟨b', rfl, es, clock, h1, _⟩
  · cases hb
  · cases hb; exact ⟨es, clock, h1⟩

/-- The table, its blocks among G, no two of them one. -/
structure TabF (w : World) (T : Nat) (G : Nat → Prop) (av dv sv kv iv : Value) (xs : List Value) (cd cs : Value → Option Value) (ks : List Value) : Prop where
  tab : TabV w T av dv sv kv iv xs cd cs ks
  gT : G T
  gA : ∀ k, av.ownBlock = some k → G k
  gK : ∀ k, kv.ownBlock = some k → G k
  gD : ∀ k, mapBlock dv = some k → G k
  gS : ∀ k, mapBlock sv = some k → G k
  gI : ∀ k, mapBlock iv = some k → G k
  ak : ∀ k, av.ownBlock = some k → kv.ownBlock ≠ some k
  ds : ∀ k, mapBlock dv = some k → mapBlock sv ≠ some k
  di : ∀ k, mapBlock dv = some k → mapBlock iv ≠ some k
  si : ∀ k, mapBlock sv = some k → mapBlock iv ≠ some k

section
variable {w w' : World} {T : Nat} {G : Nat → Prop} {av dv sv kv iv : Value} {xs : List Value} {cd cs : Value → Option Value} {ks : List Value}

theorem TabV.offT (h : TabV w T av dv sv kv iv xs cd cs ks) : (∀ b, av.ownBlock = some b → b ≠ T) ∧ (∀ b, kv.ownBlock = some b → b ≠ T) ∧ (∀ b, mapBlock dv = some b → b ≠ T) ∧ (∀ b, mapBlock sv = some b → b ≠ T) ∧ (∀ b, mapBlock iv = some b → b ≠ T) := by
  have hc := h.cells
  refine ⟨fun b hb e => ?_, fun b hb e => ?_, fun b hb e => ?_, fun b hb e => ?_, fun b hb e => ?_⟩
  · obtain ⟨cur, h1⟩ := owns_block h.arr hb; rw [e, hc] at h1; cases h1
  · obtain ⟨cur, h1⟩ := owns_block h.keys hb; rw [e, hc] at h1; cases h1
  · obtain ⟨es, cl, h1⟩ := map_block h.di hb; rw [e, hc] at h1; cases h1
  · obtain ⟨es, cl, h1⟩ := map_block h.sd hb; rw [e, hc] at h1; cases h1
  · obtain ⟨ci, h2⟩ := h.ki
    obtain ⟨es, cl, h1⟩ := map_block h2 hb; rw [e, hc] at h1; cases h1

/-- The rows lie in other blocks than the maps. -/
theorem TabV.offM (h : TabV w T av dv sv kv iv xs cd cs ks) {b : Nat} (hb : mapBlock dv = some b ∨ mapBlock sv = some b ∨ mapBlock iv = some b) : av.ownBlock ≠ some b ∧ kv.ownBlock ≠ some b := by
  have hm : ∃ es cl, w.heap[b]? = some (.map es cl) := by
    rcases hb with hb | hb | hb
    · exact map_block h.di hb
    · exact map_block h.sd hb
    · obtain ⟨ci, h2⟩ := h.ki; exact map_block h2 hb
  obtain ⟨es, cl, hm⟩ := hm
  refine ⟨fun e => ?_, fun e => ?_⟩
  · obtain ⟨cur, h1⟩ := owns_block h.arr e; rw [hm] at h1; cases h1
  · obtain ⟨cur, h1⟩ := owns_block h.keys e; rw [hm] at h1; cases h1

/-- Nothing of the table's turned. -/
theorem TabV.keep {S : Nat → Prop} (h : TabV w T av dv sv kv iv xs cd cs ks) (hk : Keeps S w w') (hT : ¬ S T) (hA : ∀ b, av.ownBlock = some b → ¬ S b) (hK : ∀ b, kv.ownBlock = some b → ¬ S b)
    (hD : ∀ b, mapBlock dv = some b → ¬ S b) (hS : ∀ b, mapBlock sv = some b → ¬ S b) (hI : ∀ b, mapBlock iv = some b → ¬ S b) : TabV w' T av dv sv kv iv xs cd cs ks :=
  ⟨(hk.block T (lt_of h.cells) hT).trans h.cells, owns_keep h.arr hk hA, owns_keep h.keys hk hK, h.di.keep hk hD, h.sd.keep hk hS, by obtain ⟨ci, h2⟩ := h.ki; exact ⟨ci, h2.keep hk hI⟩, h.both⟩

theorem TabF.keep {S : Nat → Prop} (h : TabF w T G av dv sv kv iv xs cd cs ks) (hk : Keeps S w w') (hS : ∀ b, S b → ¬ G b) : TabF w' T G av dv sv kv iv xs cd cs ks :=
  ⟨h.tab.keep hk (fun s => hS _ s h.gT) (fun b hb s => hS _ s (h.gA b hb)) (fun b hb s => hS _ s (h.gK b hb)) (fun b hb s => hS _ s (h.gD b hb)) (fun b hb s => hS _ s (h.gS b hb)) (fun b hb s => hS _ s (h.gI b hb)),
    h.gT, h.gA, h.gK, h.gD, h.gS, h.gI, h.ak, h.ds, h.di, h.si⟩

theorem TabV.lt (h : TabV w T av dv sv kv iv xs cd cs ks) : (∀ b, av.ownBlock = some b → b < w.heap.size) ∧ (∀ b, kv.ownBlock = some b → b < w.heap.size) ∧ (∀ b, mapBlock dv = some b → b < w.heap.size) ∧ (∀ b, mapBlock sv = some b → b < w.heap.size) ∧ (∀ b, mapBlock iv = some b → b < w.heap.size) ∧ T < w.heap.size := by
  refine ⟨fun b hb => ?_, fun b hb => ?_, fun b hb => ?_, fun b hb => ?_, fun b hb => ?_, lt_of h.cells⟩
  · obtain ⟨cur, h1⟩ := owns_block h.arr hb; exact lt_of h1
  · obtain ⟨cur, h1⟩ := owns_block h.keys hb; exact lt_of h1
  · obtain ⟨es, cl, h1⟩ := map_block h.di hb; exact lt_of h1
  · obtain ⟨es, cl, h1⟩ := map_block h.sd hb; exact lt_of h1
  · obtain ⟨ci, h2⟩ := h.ki
    obtain ⟨es, cl, h1⟩ := map_block h2 hb; exact lt_of h1

/-- A new string map laid into the table. -/
theorem TabF.newS (h : TabF w T G av dv (.map none) kv iv xs cd cs ks) (b : Nat) (hb : b = w.heap.size) (hG : G b) :
    TabF ((w.alloc (.map #[] 0)).setCell ⟨T, 3, none⟩ (.map (some b))) T G av dv (.map (some b)) kv iv xs cd cs ks := by
  subst hb
  obtain ⟨o1, o2, o3, o4, o5⟩ := h.tab.offT
  obtain ⟨l1, l2, l3, l4, l5, l6⟩ := h.tab.lt
  have hk : Keeps (fun k => k = T) w ((w.alloc (.map #[] 0)).setCell ⟨T, 3, none⟩ (.map (some w.heap.size))) := Keeps.setCell (S := fun k => k = T) ((Keeps.refl _ w).alloc _) rfl _
  have hcs : cs = fun _ => none := by rcases h.tab.sd with ⟨_, h⟩ | ⟨b, h, _⟩; exact h; cases h
  subst hcs
  refine ⟨⟨?_, owns_keep h.tab.arr hk o1, owns_keep h.tab.keys hk o2, h.tab.di.keep hk o3, Or.inr ⟨_, rfl, ?_⟩, ?_, h.tab.both⟩, h.gT, h.gA, h.gK, h.gD, fun k hk => ?_, h.gI, h.ak, fun k hk e => ?_, h.di, fun k hk e => ?_⟩
  · rw [set_same _ (alloc_old _ h.tab.cells)]; rfl
  · exact (MapC.made w KeyS).keep (Keeps.setCell (S := fun k => k = T) (Keeps.refl _ _) rfl _) (fun e => by omega)
  · obtain ⟨ci, h2⟩ := h.tab.ki; exact ⟨ci, h2.keep hk o5⟩
  · cases hk; exact hG
  · cases e; have := l3 _ hk; omega
  · cases hk; have := l5 _ e; omega

/-- A new map of Lua values laid into the table. -/
theorem TabF.newD (h : TabF w T G av (.map none) sv kv iv xs cd cs ks) (b : Nat) (hb : b = w.heap.size) (hG : G b) :
    TabF ((w.alloc (.map #[] 0)).setCell ⟨T, 2, none⟩ (.map (some b))) T G av (.map (some b)) sv kv iv xs cd cs ks := by
  subst hb
  obtain ⟨o1, o2, o3, o4, o5⟩ := h.tab.offT
  obtain ⟨l1, l2, l3, l4, l5, l6⟩ := h.tab.lt
  have hk : Keeps (fun k => k = T) w ((w.alloc (.map #[] 0)).setCell ⟨T, 2, none⟩ (.map (some w.heap.size))) := Keeps.setCell (S := fun k => k = T) ((Keeps.refl _ w).alloc _) rfl _
  have hcs : cd = fun _ => none := by rcases h.tab.di with ⟨_, h⟩ | ⟨b, h, _⟩; exact h; cases h
  subst hcs
  refine ⟨⟨?_, owns_keep h.tab.arr hk o1, owns_keep h.tab.keys hk o2, Or.inr ⟨_, rfl, ?_⟩, h.tab.sd.keep hk o4, ?_, h.tab.both⟩, h.gT, h.gA, h.gK, fun k hk => ?_, h.gS, h.gI, h.ak, fun k hk e => ?_, fun k hk e => ?_, h.si⟩
  · rw [set_same _ (alloc_old _ h.tab.cells)]; rfl
  · exact (MapC.made w KeyI).keep (Keeps.setCell (S := fun k => k = T) (Keeps.refl _ _) rfl _) (fun e => by omega)
  · obtain ⟨ci, h2⟩ := h.tab.ki; exact ⟨ci, h2.keep hk o5⟩
  · cases hk; exact hG
  · cases hk; have := l4 _ e; omega
  · cases hk; have := l5 _ e; omega

/-- The list of keys, made. -/
theorem TabF.newK (h : TabF w T G av dv sv (.slice none 0 0) iv xs cd cs ks) (b : Nat) (hb : b = w.heap.size) (hG : G b) :
    ks = [] ∧ TabF ((((w.alloc (.cells #[] 43)).setCell ⟨T, 4, none⟩ (.slice (some ⟨b, 0, none⟩) 0 0)).alloc (.map #[] 0)).setCell ⟨T, 5, none⟩ (.map (some (b + 1)))) T (fun k => G k ∨ k = b + 1) av dv sv (.slice (some ⟨b, 0, none⟩) 0 0) (.map (some (b + 1))) xs cd cs [] := by
  subst hb
  obtain ⟨o1, o2, o3, o4, o5⟩ := h.tab.offT
  obtain ⟨l1, l2, l3, l4, l5, l6⟩ := h.tab.lt
  have hks : ks = [] := by
    rcases owns_form h.tab.keys with ⟨_, h0⟩ | ⟨g, cap, hv⟩
    · exact List.eq_nil_of_length_eq_zero h0
    · cases hv
  have e1 : ((w.alloc (.cells #[] 43)).setCell ⟨T, 4, none⟩ (.slice (some ⟨w.heap.size, 0, none⟩) 0 0)).heap.size = w.heap.size + 1 := by simp [World.setCell]
  have k1 : Keeps (fun k => k = T) w ((w.alloc (.cells #[] 43)).setCell ⟨T, 4, none⟩ (.slice (some ⟨w.heap.size, 0, none⟩) 0 0)) := Keeps.setCell (S := fun k => k = T) ((Keeps.refl _ w).alloc _) rfl _
  have hc1 : ((w.alloc (.cells #[] 43)).setCell ⟨T, 4, none⟩ (.slice (some ⟨w.heap.size, 0, none⟩) 0 0)).heap[T]? = some (.cells #[LNIL, av, dv, sv, .slice (some ⟨w.heap.size, 0, none⟩) 0 0, iv] 49 (0, 0)) := by
    rw [set_same _ (alloc_old _ h.tab.cells)]; rfl
  have ho1 : ((w.alloc (.cells #[] 43)).setCell ⟨T, 4, none⟩ (.slice (some ⟨w.heap.size, 0, none⟩) 0 0)).ownsRow 0 43 1 (.slice (some ⟨w.heap.size, 0, none⟩) 0 0) 0 [] :=
    owns_keep (World.ownsRow_made (base := 0) (size := 1) w #[] 0 (Nat.zero_le _) (by unfold maxLen; omega) rfl) (Keeps.setCell (S := fun k => k = T) (Keeps.refl _ _) rfl _) (fun b hb e => by have e' : b = T := e; have := own_inj hb; omega)
  generalize ((w.alloc (.cells #[] 43)).setCell ⟨T, 4, none⟩ (.slice (some ⟨w.heap.size, 0, none⟩) 0 0)) = w1 at *
  have k2 : Keeps (fun k => k = T) w1 ((w1.alloc (.map #[] 0)).setCell ⟨T, 5, none⟩ (.map (some (w.heap.size + 1)))) := Keeps.setCell (S := fun k => k = T) ((Keeps.refl _ w1).alloc _) rfl _
  have k3 : Keeps (fun k => k = T) w ((w1.alloc (.map #[] 0)).setCell ⟨T, 5, none⟩ (.map (some (w.heap.size + 1)))) := k1.trans k2 (fun _ _ h => h)
  refine ⟨hks, ⟨⟨?_, owns_keep h.tab.arr k3 o1, owns_keep ho1 k2 (fun b hb e => by have e' : b = T := e; have := own_inj hb; omega), h.tab.di.keep k3 o3, h.tab.sd.keep k3 o4, ⟨fun _ => none, Or.inr ⟨_, rfl, ?_⟩⟩, Or.inr ⟨_, rfl⟩⟩, Or.inl h.gT, fun k hk => Or.inl (h.gA k hk), fun k hk => ?_, fun k hk => Or.inl (h.gD k hk), fun k hk => Or.inl (h.gS k hk), fun k hk => ?_, fun k hk e => ?_, h.ds, fun k hk e => ?_, fun k hk e => ?_⟩⟩
  · rw [set_same _ (alloc_old _ hc1)]; rfl
  · rw [← e1]
    exact (MapC.made w1 KeyI).keep (Keeps.setCell (S := fun k => k = T) (Keeps.refl _ _) rfl _) (fun e => by omega)
  · cases hk; exact Or.inl hG
  · cases hk; exact Or.inr rfl
  · have := own_inj e; have := l1 _ hk; omega
  · cases e; have := l3 _ hk; omega
  · cases e; have := l4 _ hk; omega

/-- A store into the string map. -/
theorem TabF.setS {b : Nat} {c' : Value → Option Value} (h : TabF w T G av dv (.map (some b)) kv iv xs cd cs ks) (hm : MapC w' b KeyS c') (hk : Keeps (fun j => j = b) w w') : TabF w' T G av dv (.map (some b)) kv iv xs cd c' ks := by
  obtain ⟨o1, o2, o3, o4, o5⟩ := h.tab.offT
  obtain ⟨r1, r2⟩ := h.tab.offM (b := b) (Or.inr (Or.inl rfl))
  refine ⟨⟨(hk.block T (lt_of h.tab.cells) (fun e => o4 b rfl e.symm)).trans h.tab.cells, owns_keep h.tab.arr hk (fun k hk e => r1 (by rw [hk, e])), owns_keep h.tab.keys hk (fun k hk e => r2 (by rw [hk, e])), h.tab.di.keep hk (fun k hk e => h.ds k hk (by rw [e]; rfl)), Or.inr ⟨b, rfl, hm⟩, ?_, h.tab.both⟩, h.gT, h.gA, h.gK, h.gD, h.gS, h.gI, h.ak, h.ds, h.di, h.si⟩
  obtain ⟨ci, h2⟩ := h.tab.ki
  exact ⟨ci, h2.keep hk (fun k hk e => h.si b rfl (by rw [hk, e]))⟩

theorem TabF.setD {b : Nat} {c' : Value → Option Value} (h : TabF w T G av (.map (some b)) sv kv iv xs cd cs ks) (hm : MapC w' b KeyI c') (hk : Keeps (fun j => j = b) w w') : TabF w' T G av (.map (some b)) sv kv iv xs c' cs ks := by
  obtain ⟨o1, o2, o3, o4, o5⟩ := h.tab.offT
  obtain ⟨r1, r2⟩ := h.tab.offM (b := b) (Or.inl rfl)
  refine ⟨⟨(hk.block T (lt_of h.tab.cells) (fun e => o3 b rfl e.symm)).trans h.tab.cells, owns_keep h.tab.arr hk (fun k hk e => r1 (by rw [hk, e])), owns_keep h.tab.keys hk (fun k hk e => r2 (by rw [hk, e])), Or.inr ⟨b, rfl, hm⟩, h.tab.sd.keep hk (fun k hk e => h.ds b rfl (by rw [hk, e])), ?_, h.tab.both⟩, h.gT, h.gA, h.gK, h.gD, h.gS, h.gI, h.ak, h.ds, h.di, h.si⟩
  obtain ⟨ci, h2⟩ := h.tab.ki
  exact ⟨ci, h2.keep hk (fun k hk e => h.di b rfl (by rw [hk, e]))⟩

theorem TabF.setI {b : Nat} {c' : Value → Option Value} (h : TabF w T G av dv sv kv (.map (some b)) xs cd cs ks) (hm : MapC w' b KeyI c') (hk : Keeps (fun j => j = b) w w') : TabF w' T G av dv sv kv (.map (some b)) xs cd cs ks := by
  obtain ⟨o1, o2, o3, o4, o5⟩ := h.tab.offT
  obtain ⟨r1, r2⟩ := h.tab.offM (b := b) (Or.inr (Or.inr rfl))
  exact ⟨⟨(hk.block T (lt_of h.tab.cells) (fun e => o5 b rfl e.symm)).trans h.tab.cells, owns_keep h.tab.arr hk (fun k hk e => r1 (by rw [hk, e])), owns_keep h.tab.keys hk (fun k hk e => r2 (by rw [hk, e])), h.tab.di.keep hk (fun k hk e => h.di k hk (by rw [e]; rfl)), h.tab.sd.keep hk (fun k hk e => h.si k hk (by rw [e]; rfl)), ⟨c', Or.inr ⟨b, rfl, hm⟩⟩, h.tab.both⟩, h.gT, h.gA, h.gK, h.gD, h.gS, h.gI, h.ak, h.ds, h.di, h.si⟩

theorem keeps_grown {S : Nat → Prop} {o : Obj} {r : Option Nat} (hS : ∀ k, r = some k → S k) (hg : (w.alloc o).grownBy w' r) : Keeps S w w' :=
  ⟨hg.os, hg.tape, hg.output, by have := hg.size; simp at this; omega, fun k hk hs => (hg.block k (by simp; omega) (fun e => hs (hS k e.symm))).trans (Below.heap_alloc _ _ _ hk)⟩

/-- A key appended to the list of keys. -/
theorem TabF.pushK {o : Obj} {g' n' c' : Nat} {ks' : List Value} (h : TabF w T G av dv sv kv iv xs cd cs ks) (hb : iv ≠ .map none)
    (hown : w'.ownsRow 0 43 1 (.slice (some ⟨g', 0, none⟩) n' c') n' ks') (hn : n' = ks'.length) (hg : (w.alloc o).grownBy w' kv.ownBlock) (hat : kv.ownBlock = some g' ∨ g' = (w.alloc o).heap.size) (hG : ∀ k, w.heap.size ≤ k → G k) :
    TabF (w'.setCell ⟨T, 4, none⟩ (.slice (some ⟨g', 0, none⟩) n' c')) T G av dv sv (.slice (some ⟨g', 0, none⟩) n' c') iv xs cd cs ks' := by
  subst hn
  obtain ⟨o1, o2, o3, o4, o5⟩ := h.tab.offT
  obtain ⟨l1, l2, l3, l4, l5, l6⟩ := h.tab.lt
  have k1 : Keeps (fun k => kv.ownBlock = some k) w w' := keeps_grown (fun k e => e) hg
  have hat' : kv.ownBlock = some g' ∨ w.heap.size < g' := by
    rcases hat with h | h
    · exact Or.inl h
    · right; simp at h; omega
  have hc1 : w'.heap[T]? = some (.cells #[LNIL, av, dv, sv, kv, iv] 49 (0, 0)) := (k1.block T l6 (fun e => o2 T e rfl)).trans h.tab.cells
  have hgT : g' ≠ T := by rcases hat' with e | e; exact o2 _ e; omega
  have k2 : Keeps (fun k => k = T) w' (w'.setCell ⟨T, 4, none⟩ (.slice (some ⟨g', 0, none⟩) ks'.length c')) := Keeps.setCell (S := fun k => k = T) (Keeps.refl _ _) rfl _
  have k3 : Keeps (fun k => kv.ownBlock = some k ∨ k = T) w (w'.setCell ⟨T, 4, none⟩ (.slice (some ⟨g', 0, none⟩) ks'.length c')) := (k1.mono (fun _ h => Or.inl h)).trans k2 (fun _ _ h => Or.inr h)
  have q : ∀ {b : Nat}, (mapBlock dv = some b ∨ mapBlock sv = some b ∨ mapBlock iv = some b) → b ≠ T → ¬ (kv.ownBlock = some b ∨ b = T) := fun hb hT e => by
    rcases e with e | e
    · exact (h.tab.offM hb).2 e
    · exact hT e
  refine ⟨⟨?_, owns_keep h.tab.arr k3 (fun b hb e => ?_), owns_keep hown k2 (fun b hb e => by cases hb; exact hgT e), h.tab.di.keep k3 (fun b hb => q (Or.inl hb) (o3 b hb)), h.tab.sd.keep k3 (fun b hb => q (Or.inr (Or.inl hb)) (o4 b hb)), ?_, ?_⟩,
    h.gT, h.gA, fun k hk => ?_, h.gD, h.gS, h.gI, fun k hk e => ?_, h.ds, h.di, h.si⟩
  · rw [set_same _ hc1]; rfl
  · rcases e with e | e
    · exact h.ak b hb e
    · exact o1 b hb e
  · obtain ⟨ci, h2⟩ := h.tab.ki
    exact ⟨ci, h2.keep k3 (fun b hb => q (Or.inr (Or.inr hb)) (o5 b hb))⟩
  · right
    obtain ⟨ci, h2⟩ := h.tab.ki
    rcases h2 with ⟨e, _⟩ | ⟨b, e, _⟩
    · exact absurd e hb
    · exact ⟨b, e⟩
  · obtain rfl := own_inj hk
    rcases hat' with e | e
    · exact h.gK _ e
    · exact hG _ (by omega)
  · obtain rfl := own_inj e
    rcases hat' with e | e
    · exact h.ak _ hk e
    · have := l1 _ hk; omega

/-- The array part grown (or turned). -/
theorem TabF.pushA {o : Obj} {g' n' c' : Nat} {xs' : List Value} (h : TabF w T G av dv sv kv iv xs cd cs ks)
    (hown : w'.ownsRow 0 43 1 (.slice (some ⟨g', 0, none⟩) n' c') n' xs') (hn : n' = xs'.length) (hg : (w.alloc o).grownBy w' av.ownBlock) (hat : av.ownBlock = some g' ∨ g' = (w.alloc o).heap.size) (hG : ∀ k, w.heap.size ≤ k → G k) :
    TabF (w'.setCell ⟨T, 1, none⟩ (.slice (some ⟨g', 0, none⟩) n' c')) T G (.slice (some ⟨g', 0, none⟩) n' c') dv sv kv iv xs' cd cs ks := by
  subst hn
  obtain ⟨o1, o2, o3, o4, o5⟩ := h.tab.offT
  obtain ⟨l1, l2, l3, l4, l5, l6⟩ := h.tab.lt
  have k1 : Keeps (fun k => av.ownBlock = some k) w w' := keeps_grown (fun k e => e) hg
  have hat' : av.ownBlock = some g' ∨ w.heap.size < g' := by
    rcases hat with h | h
    · exact Or.inl h
    · right; simp at h; omega
  have hc1 : w'.heap[T]? = some (.cells #[LNIL, av, dv, sv, kv, iv] 49 (0, 0)) := (k1.block T l6 (fun e => o1 T e rfl)).trans h.tab.cells
  have hgT : g' ≠ T := by rcases hat' with e | e; exact o1 _ e; omega
  have k2 : Keeps (fun k => k = T) w' (w'.setCell ⟨T, 1, none⟩ (.slice (some ⟨g', 0, none⟩) xs'.length c')) := Keeps.setCell (S := fun k => k = T) (Keeps.refl _ _) rfl _
  have k3 : Keeps (fun k => av.ownBlock = some k ∨ k = T) w (w'.setCell ⟨T, 1, none⟩ (.slice (some ⟨g', 0, none⟩) xs'.length c')) := (k1.mono (fun _ h => Or.inl h)).trans k2 (fun _ _ h => Or.inr h)
  have q : ∀ {b : Nat}, (mapBlock dv = some b ∨ mapBlock sv = some b ∨ mapBlock iv = some b) → b ≠ T → ¬ (av.ownBlock = some b ∨ b = T) := fun hb hT e => by
    rcases e with e | e
    · exact (h.tab.offM hb).1 e
    · exact hT e
  refine ⟨⟨?_, owns_keep hown k2 (fun b hb e => by cases hb; exact hgT e), owns_keep h.tab.keys k3 (fun b hb e => ?_), h.tab.di.keep k3 (fun b hb => q (Or.inl hb) (o3 b hb)), h.tab.sd.keep k3 (fun b hb => q (Or.inr (Or.inl hb)) (o4 b hb)), ?_, h.tab.both⟩,
    h.gT, fun k hk => ?_, h.gK, h.gD, h.gS, h.gI, fun k hk e => ?_, h.ds, h.di, h.si⟩
  · rw [set_same _ hc1]; rfl
  · rcases e with e | e
    · exact h.ak b e hb
    · exact o2 b hb e
  · obtain ⟨ci, h2⟩ := h.tab.ki
    exact ⟨ci, h2.keep k3 (fun b hb => q (Or.inr (Or.inr hb)) (o5 b hb))⟩
  · obtain rfl := own_inj hk
    rcases hat' with e | e
    · exact h.gA _ e
    · exact hG _ (by omega)
  · obtain rfl := own_inj hk
    rcases hat' with e' | e'
    · exact h.ak _ e' e
    · have := l2 _ e; omega

/-- An element of the array part turned. -/
theorem TabF.setA {g c i : Nat} {v : Value} (h : TabF w T G (.slice (some ⟨g, 0, none⟩) xs.length c) dv sv kv iv xs cd cs ks) :
    TabF (w.setCell ⟨g, i, none⟩ v) T G (.slice (some ⟨g, 0, none⟩) xs.length c) dv sv kv iv (xs.set i v) cd cs ks := by
  obtain ⟨o1, o2, o3, o4, o5⟩ := h.tab.offT
  have hs := h.tab.arr.stored i v
  have k3 : Keeps (fun k => k = g) w (w.setCell ⟨g, i, none⟩ v) := Keeps.setCell (S := fun k => k = g) (Keeps.refl _ _) rfl _
  have q : ∀ {b : Nat}, (mapBlock dv = some b ∨ mapBlock sv = some b ∨ mapBlock iv = some b) → ¬ b = g := fun hb e => (h.tab.offM hb).1 (by rw [e]; rfl)
  refine ⟨⟨(k3.block T (lt_of h.tab.cells) (fun e => o1 g rfl e.symm)).trans h.tab.cells, by simpa using hs.1, owns_keep h.tab.keys k3 (fun b hb e => h.ak g rfl (by rw [hb, e])), h.tab.di.keep k3 (fun b hb => q (Or.inl hb)), h.tab.sd.keep k3 (fun b hb => q (Or.inr (Or.inl hb))), ?_, h.tab.both⟩, h.gT, h.gA, h.gK, h.gD, h.gS, h.gI, h.ak, h.ds, h.di, h.si⟩
  obtain ⟨ci, h2⟩ := h.tab.ki
  exact ⟨ci, h2.keep k3 (fun b hb => q (Or.inr (Or.inr hb)))⟩
end
end Go.Proofs.YtbgolkdhcgjfkaaGreatDoor
