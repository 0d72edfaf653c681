/-
  newLTable: a new empty table, whatever the hints.
-/
import Derived.Test.YtbgolkdhcgjfkaaGreatDoorSetStr
import Derived.Test.YtbgolkdhcgjfkaaGreatDoorSetAt
namespace Go.Proofs.YtbgolkdhcgjfkaaGreatDoor
open Go.RowKit
set_option maxRecDepth 100000
set_option maxHeartbeats 400000
attribute [local go_sem] sl_nil sl_some m45_nil m45_some m46_nil m46_some i_nn i_bn j_nn j_bn

/-- A new table: no entry anywhere. -/
def NewT (w w' : World) (T : Nat) : Prop :=
  ∃ av sv, TabF w' T (fun k => w.heap.size ≤ k) av (.map none) sv (.slice none 0 0) (.map none) [] (fun _ => none) (fun _ => none) []

theorem NewT.mk {w w' : World} {av sv : Value} (hc : w'.heap[w.heap.size]? = some (.cells #[LNIL, av, .map none, sv, .slice none 0 0, .map none] 49 (0, 0)))
    (ha : w'.ownsRow 0 43 1 av 0 []) (hs : MapV w' sv KeyS (fun _ => none)) (gA : ∀ k, av.ownBlock = some k → w.heap.size ≤ k) (gS : ∀ k, mapBlock sv = some k → w.heap.size ≤ k) : NewT w w' w.heap.size :=
  ⟨av, sv, ⟨⟨hc, ha, World.ownsRow_nil _ _ _ _, Or.inl ⟨rfl, rfl⟩, hs, ⟨_, Or.inl ⟨rfl, rfl⟩⟩, Or.inl rfl⟩, Nat.le_refl _, gA, fun k h => (by cases h), fun k h => (by cases h), gS, fun k h => (by cases h), fun k _ h => (by cases h), fun k h => (by cases h), fun k h => (by cases h), fun k _ h => (by cases h)⟩⟩

theorem row_new (w : World) (o : Obj) (M : Array Value) (n b : Nat) (hb : b = (w.alloc o).heap.size) (hM : M.size = n) (hn : n ≤ 65536) : ((w.alloc o).alloc (.cells M 43)).ownsRow 0 43 1 (.slice (some ⟨b, 0, none⟩) 0 n) 0 [] := by
  subst hb
  exact World.ownsRow_made _ M n (Nat.zero_le _) (by unfold maxLen; omega) (by omega)

theorem map_new (w : World) (b : Nat) (hb : b = w.heap.size) : MapV (w.alloc (.map #[] 0)) (.map (some b)) KeyS (fun _ => none) := by
  subst hb
  exact Or.inr ⟨_, rfl, MapC.made w KeyS⟩

theorem newtab (acap hcap : Int) (w : World) (ha : acap ≤ 65536) :
    Calls Tryz.prog 23 #[.int .i64 acap, .int .i64 hcap] w fun e w' => e = .returned (.pointer (some ⟨w.heap.size, 0, none⟩)) ∧ NewT w w' w.heap.size ∧ Below w.heap.size w w' := by
  by_cases h1 : acap ≤ 0
  · by_cases h2 : hcap ≤ 0
    · go_enter Tryz.func23, Tryz.ntmps23
      go_wp2
      all_goals
        go_ret
        exact ⟨rfl, NewT.mk (heap_alloc_new w _) (World.ownsRow_nil _ _ _ _) (Or.inl ⟨rfl, rfl⟩) (fun k h => (by cases h)) (fun k h => (by cases h)), (Below.refl _ w).alloc (Nat.le_refl _) _⟩
    · have hmm := mkmap 46 9 43 hcap Tryz.underlying46
      have h2' : 0 < hcap := by omega
      clear h2
      go_enter Tryz.func23, Tryz.ntmps23
      go_wp2
      all_goals
        go_ret
        exact ⟨rfl, NewT.mk (alloc_old _ (heap_alloc_new w _)) (World.ownsRow_nil _ _ _ _) (map_new _ _ (by simp)) (fun k h => (by cases h)) (fun k h => by cases h; omega), ((Below.refl _ w).alloc (Nat.le_refl _) _).alloc (by simp) _⟩
  · obtain ⟨n, rfl⟩ := Int.eq_ofNat_of_zero_le (show 0 ≤ acap by omega)
    have hmk := hmk44 n (by omega)
    have hn : 0 < n := by omega
    obtain ⟨M, hM⟩ : ∃ M, M = (List.replicate n Value.nilIface).toArray := ⟨_, rfl⟩
    rw [← hM] at hmk
    have hMs := Lib.hid (show M.size = n by rw [hM]; simp)
    clear hM h1
    have ha' := Lib.hid ha
    clear ha
    by_cases h2 : hcap ≤ 0
    · go_enter Tryz.func23, Tryz.ntmps23
      go_wp2
      all_goals
        go_ret
        have ha'' := ha'.out
        exact ⟨rfl, NewT.mk (alloc_old _ (heap_alloc_new w _)) (row_new _ _ _ _ _ (by simp) hMs.out (by omega)) (Or.inl ⟨rfl, rfl⟩) (fun k h => by have := own_inj h; omega) (fun k h => (by cases h)), ((Below.refl _ w).alloc (Nat.le_refl _) _).alloc (by simp) _⟩
    · have hmm := mkmap 46 9 43 hcap Tryz.underlying46
      have h2' : 0 < hcap := by omega
      clear h2
      go_enter Tryz.func23, Tryz.ntmps23
      go_wp2
      all_goals
        go_ret
        have ha'' := ha'.out
        exact ⟨rfl, NewT.mk (alloc_old _ (alloc_old _ (heap_alloc_new w _))) ((row_new _ _ _ _ _ (by simp) hMs.out (by omega)).alloc _) (map_new _ _ (by simp)) (fun k h => by have := own_inj h; omega) (fun k h => by cases h; omega), (((Below.refl _ w).alloc (Nat.le_refl _) _).alloc (by simp) _).alloc (by simp; omega) _⟩
end Go.Proofs.YtbgolkdhcgjfkaaGreatDoor
