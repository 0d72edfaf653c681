/-
  FnRegistryScriptMatchesModel: its guards; and the registry beside two rows that the call owns.
-/
import Derived.Test.YtdnomaafjmfdkaaGreatDoorTopcap
import Derived.Test.YtdnomaafjmfdkaaGreatDoorTrip
import Derived.WalkSmall
import Derived.Deep.AppendLies
import Derived.Laws.OwnMore
namespace Go.Proofs.YtdnomaafjmfdkaaGreatDoor
open Go.RowKit
set_option maxRecDepth 100000
set_option maxHeartbeats 400000

theorem bytes22_yes (n g m : Int) (a : Option Addr) (len cap : Nat) (w : World) (h : len ≤ 1048576) :
    Calls Tryz.prog 22 #[.int .i64 n, .int .i64 g, .int .i64 m, .slice a len cap] w fun e w' => e = .returned (.bool true) ∧ w = w' := by
  have h1 : decide (1048576 < len) = false := by simp; omega
  have h2 : decide ((1048576 : Int) < (len : Int)) = false := by simp; omega
  go_enter Tryz.func22, Tryz.ntmps22
  go_wp2
  go_ret
  exact ⟨rfl, rfl⟩

theorem bytes22_no (n g m : Int) (a : Option Addr) (len cap : Nat) (w : World) (h : 1048576 < len) :
    Calls Tryz.prog 22 #[.int .i64 n, .int .i64 g, .int .i64 m, .slice a len cap] w fun e w' => e = .returned (.bool false) ∧ w = w' := by
  have h2 : (1048576 : Int) < (len : Int) := by omega
  go_enter Tryz.func22, Tryz.ntmps22
  go_wp2
  go_ret
  exact ⟨rfl, rfl⟩

theorem script_out (n g m : Int) (a : Option Addr) (len cap : Nat) (w : World) (h : ¬ Good4 n g m len) :
    Calls Tryz.prog 7 #[.int .i64 n, .int .i64 g, .int .i64 m, .slice a len cap] w fun e w' => e = .returned (.bool true) ∧ w = w' := by
  by_cases h0 : 1048576 < len
  · have HC := Lib.hid (bytes22_no n g m a len cap w h0)
    clear h0 h
    go_enter Tryz.func7, Tryz.ntmps7
    go_wp2_with (go_at_call 22; refine HC.out.mono ?_; rintro e w' ⟨rfl, rfl⟩)
    go_ret
    exact ⟨rfl, rfl⟩
  · have HC := Lib.hid (bytes22_yes n g m a len cap w (by omega))
    by_cases h1 : 65536 < len
    · have h1' : (65536 : Int) < (len : Int) := by omega
      clear h0 h
      go_enter Tryz.func7, Tryz.ntmps7
      go_wp2_with (go_at_call 22; refine HC.out.mono ?_; rintro e w' ⟨rfl, rfl⟩)
      go_ret
      exact ⟨rfl, rfl⟩
    · have h1' : ¬ (65536 : Int) < (len : Int) := by omega
      clear h0
      by_cases h2 : n < 0
      · clear h
        go_enter Tryz.func7, Tryz.ntmps7
        go_wp2_with (go_at_call 22; refine HC.out.mono ?_; rintro e w' ⟨rfl, rfl⟩)
        go_ret
        exact ⟨rfl, rfl⟩
      · skip
        by_cases h3 : 65536 < n
        · clear h
          go_enter Tryz.func7, Tryz.ntmps7
          go_wp2_with (go_at_call 22; refine HC.out.mono ?_; rintro e w' ⟨rfl, rfl⟩)
          go_ret
          exact ⟨rfl, rfl⟩
        · skip
          by_cases h4 : g < 0
          · clear h
            go_enter Tryz.func7, Tryz.ntmps7
            go_wp2_with (go_at_call 22; refine HC.out.mono ?_; rintro e w' ⟨rfl, rfl⟩)
            go_ret
            exact ⟨rfl, rfl⟩
          · skip
            by_cases h5 : 1073741824 < g
            · clear h
              go_enter Tryz.func7, Tryz.ntmps7
              go_wp2_with (go_at_call 22; refine HC.out.mono ?_; rintro e w' ⟨rfl, rfl⟩)
              go_ret
              exact ⟨rfl, rfl⟩
            · skip
              by_cases h6 : m < 4096 + (len : Int)
              · clear h
                go_enter Tryz.func7, Tryz.ntmps7
                go_wp2_with (go_at_call 22; refine HC.out.mono ?_; rintro e w' ⟨rfl, rfl⟩)
                go_ret
                exact ⟨rfl, rfl⟩
              · skip
                have h7 : 1048576 < m := by unfold Good4 at h; omega
                clear h
                go_enter Tryz.func7, Tryz.ntmps7
                go_wp2_with (go_at_call 22; refine HC.out.mono ?_; rintro e w' ⟨rfl, rfl⟩)
                go_ret
                exact ⟨rfl, rfl⟩

/-! ## The two rows that the call owns -/
theorem owns_keeps {S : Nat → Prop} {w w' : World} {B : Nat} {e : TypeId} {G n c : Nat} {xs : List Value} (h : w.ownsRow B e 1 (.slice (some ⟨G, 0, none⟩) n c) n xs) (hk : Keeps S w w') (hS : ¬ S G) :
    w'.ownsRow B e 1 (.slice (some ⟨G, 0, none⟩) n c) n xs := by
  obtain ⟨h0, h2⟩ := h
  rcases h2 with ⟨h', _⟩ | ⟨g', cap', cur, hv, hb, hg, r⟩
  · cases h'
  · cases hv
    exact ⟨h0, .inr ⟨G, c, cur, rfl, hb, (hk.block G (lt_of hg) hS).trans hg, r⟩⟩

theorem owns_lt {w : World} {B : Nat} {e : TypeId} {G n c : Nat} {xs : List Value} (h : w.ownsRow B e 1 (.slice (some ⟨G, 0, none⟩) n c) n xs) : B ≤ G ∧ G < w.heap.size := by
  obtain ⟨h0, h2⟩ := h
  rcases h2 with ⟨h', _⟩ | ⟨g', cap', cur, hv, hb, hg, r⟩
  · cases h'
  · cases hv
    exact ⟨hb, lt_of hg⟩

theorem owns_cut {w : World} {B : Nat} {e : TypeId} {G n c : Nat} {xs : List Value} (h : w.ownsRow B e 1 (.slice (some ⟨G, 0, none⟩) n c) n xs) (k : Nat) (hk : k ≤ n) :
    w.ownsRow B e 1 (.slice (some ⟨G, 0, none⟩) k c) k (xs.take k) := by
  obtain ⟨h0, h2⟩ := h
  rcases h2 with ⟨h', _⟩ | ⟨g', cap', cur, hv, hb, hg, h3, h4, h5, h6⟩
  · cases h'
  · cases hv
    refine ⟨by simp; omega, .inr ⟨G, c, cur, rfl, hb, hg, by omega, h4, h5, ?_⟩⟩
    rw [← h6, List.take_take]
    congr 1
    omega

def fl (v : Value) : Value := .float .f64 (numOf v)
def cl (v : Value) : Value := .int .i64 (cls v)

/-- The registry holds st; the rows at Gm and Gc hold M and C. -/
structure ScR (w wr : World) (B R A cap : Nat) (zs : List Int) (len g m : Nat) (st : List Value) (Gm cm : Nat) (M : List Value) (Gc cc : Nat) (C : List Value) : Prop where
  st : StC w wr R A cap zs len g m st
  base : w.heap.size ≤ B
  baseC : 0 < len → w.heap.size < B
  rowM : wr.ownsRow B 28 1 (.slice (some ⟨Gm, 0, none⟩) M.length cm) M.length M
  rowC : wr.ownsRow B 3 1 (.slice (some ⟨Gc, 0, none⟩) C.length cc) C.length C
  mc : Gm ≠ Gc
  mR : Gm ≠ R
  mA : Gm ≠ A
  cR : Gc ≠ R
  cA : Gc ≠ A

section
variable {w wr w' : World} {B R A cap : Nat} {zs : List Int} {len g m : Nat} {st st' : List Value} {Gm cm : Nat} {M : List Value} {Gc cc : Nat} {C : List Value}

theorem ScR.reg (h : ScR w wr B R A cap zs len g m st Gm cm M Gc cc C) (hn : Next R A st' cap g m wr w') :
    ∃ A' cap', ScR w w' B R A' cap' zs len g m st' Gm cm M Gc cc C ∧ cap ≤ cap' ∧ cap' ≤ max cap m := by
  obtain ⟨⟨hr, hA, hR, hC, hb⟩, b1, b2, rM, rC, n1, n2, n3, n4, n5⟩ := h
  obtain ⟨A', cap', h1, h2, h3, h4, h5⟩ := hn
  have hs := hr.size
  have l1 := owns_lt rM
  have l2 := owns_lt rC
  refine ⟨A', cap', ⟨⟨h1, by omega, hR, fun h => ?_, Keeps.below_of hb h4 (by omega) (fun n hn ht => by rcases ht with e | e <;> omega)⟩, b1, b2,
    owns_keeps rM h4 (fun ht => by rcases ht with e | e <;> omega), owns_keeps rC h4 (fun ht => by rcases ht with e | e <;> omega), n1, n2, by omega, n4, by omega⟩, h2, h3⟩
  obtain ⟨c1, c2, c3⟩ := hC h
  exact ⟨by omega, c2, (h4.block _ (by omega) (fun ht => by rcases ht with e | e <;> omega)).trans c3⟩

theorem StC.keep {S : Nat → Prop} (h : StC w wr R A cap zs len g m st) (hk : Keeps S wr w') (h1 : ¬ S R) (h2 : ¬ S A) (h3 : 0 < len → ¬ S w.heap.size) (h4 : ∀ n, n < w.heap.size → ¬ S n) : StC w w' R A cap zs len g m st := by
  obtain ⟨hr, hA, hR, hC, hb⟩ := h
  have hs := hr.size
  refine ⟨hr.kept hk h1 h2, hA, hR, fun h => ?_, Keeps.below_of hb hk (by omega) h4⟩
  obtain ⟨c1, c2, c3⟩ := hC h
  exact ⟨c1, c2, (hk.block _ (by omega) (h3 h)).trans c3⟩

theorem keeps_grown {S : Nat → Prop} {o : Obj} {G : Nat} (hS : S G) (hg : (wr.alloc o).grownBy w' (some G)) : Keeps S wr w' :=
  ⟨hg.os, hg.tape, hg.output, by have := hg.size; simp at this; omega, fun k hk hs => (hg.block k (by simp; omega) (fun e => hs (by cases e; exact hS))).trans (Below.heap_alloc _ _ _ hk)⟩

theorem ScR.appM {o : Obj} {G' c' : Nat} {x : Value} (h : ScR w wr B R A cap zs len g m st Gm cm M Gc cc C)
    (hown : w'.ownsRow B 28 1 (.slice (some ⟨G', 0, none⟩) (M.length + 1) c') (M.length + 1) (M ++ [x])) (hg : (wr.alloc o).grownBy w' (some Gm)) (hat : (some Gm : Option Nat) = some G' ∨ G' = (wr.alloc o).heap.size) :
    ScR w w' B R A cap zs len g m st G' c' (M ++ [x]) Gc cc C := by
  obtain ⟨s, b1, b2, rM, rC, n1, n2, n3, n4, n5⟩ := h
  have hk : Keeps (fun k => k = Gm) wr w' := keeps_grown rfl hg
  have l1 := owns_lt rM
  have l2 := owns_lt rC
  have l3 := s.1.size
  have hat' : Gm = G' ∨ wr.heap.size < G' := by
    rcases hat with h | h
    · exact Or.inl (Option.some.inj h)
    · right; simp at h; omega
  refine ⟨s.keep hk (fun e => n2 e.symm) (fun e => n3 e.symm) (fun hl e => by have := b2 hl; have : w.heap.size = Gm := e; omega) (fun n hn e => by have : n = Gm := e; omega), b1, b2, by simpa using hown, owns_keeps rC hk (fun e => n1 e.symm), by omega, by omega, by omega, n4, n5⟩

theorem ScR.appC {o : Obj} {G' c' : Nat} {x : Value} (h : ScR w wr B R A cap zs len g m st Gm cm M Gc cc C)
    (hown : w'.ownsRow B 3 1 (.slice (some ⟨G', 0, none⟩) (C.length + 1) c') (C.length + 1) (C ++ [x])) (hg : (wr.alloc o).grownBy w' (some Gc)) (hat : (some Gc : Option Nat) = some G' ∨ G' = (wr.alloc o).heap.size) :
    ScR w w' B R A cap zs len g m st Gm cm M G' c' (C ++ [x]) := by
  obtain ⟨s, b1, b2, rM, rC, n1, n2, n3, n4, n5⟩ := h
  have hk : Keeps (fun k => k = Gc) wr w' := keeps_grown rfl hg
  have l1 := owns_lt rM
  have l2 := owns_lt rC
  have l3 := s.1.size
  have hat' : Gc = G' ∨ wr.heap.size < G' := by
    rcases hat with h | h
    · exact Or.inl (Option.some.inj h)
    · right; simp at h; omega
  refine ⟨s.keep hk (fun e => n4 e.symm) (fun e => n5 e.symm) (fun hl e => by have := b2 hl; have : w.heap.size = Gc := e; omega) (fun n hn e => by have : n = Gc := e; omega), b1, b2, owns_keeps rM hk n1, by simpa using hown, by omega, n2, n3, by omega, by omega⟩

theorem ScR.cut (h : ScR w wr B R A cap zs len g m st Gm cm M Gc cc C) (k : Nat) (h1 : k ≤ M.length) (h2 : k ≤ C.length) :
    ScR w wr B R A cap zs len g m st Gm cm (M.take k) Gc cc (C.take k) := by
  obtain ⟨s, b1, b2, rM, rC, n1, n2, n3, n4, n5⟩ := h
  have e1 : (M.take k).length = k := by simp; omega
  have e2 : (C.take k).length = k := by simp; omega
  exact ⟨s, b1, b2, by rw [e1]; exact owns_cut rM k h1, by rw [e2]; exact owns_cut rC k h2, n1, n2, n3, n4, n5⟩

theorem ScR.start {w1 w2 : World} {n : Nat} {ao : Option Addr} (hr : RegS w2 (w1.heap.size + 1) w1.heap.size [] n g m) (hb2 : Below w1.heap.size w1 w2)
    (hc : 0 < len → ao = some ⟨w.heap.size, 0, none⟩ ∧ w1.heap[w.heap.size]? = some (.cells ((zs.take len).map (Value.int .i32)).toArray 21 (0, 0))) (hb1 : Below w.heap.size w w1) :
    ScR w ((w2.alloc (.cells #[] 28)).alloc (.cells #[] 3)) w1.heap.size (w1.heap.size + 1) w1.heap.size n zs len g m [] w2.heap.size 0 [] (w2.heap.size + 1) 0 [] := by
  have hs := hb1.size
  have l := hr.size
  have hS := StC.start hr hb2 hc hb1
  have hk : Keeps (fun _ => False) w2 ((w2.alloc (.cells #[] 28)).alloc (.cells #[] 3)) := ((Keeps.refl _ _).alloc _).alloc _
  refine ⟨hS.keep hk id id (fun _ => id) (fun _ _ => id), hs, fun h => lt_of (hc h).2, ?_, ?_, by omega, by omega, by omega, by omega, by omega⟩
  · exact owns_keeps (World.ownsRow_made (size := 1) w2 #[] 0 (by omega) (by unfold maxLen; omega) rfl) ((Keeps.refl (fun _ => False) _).alloc _) id
  · have := World.ownsRow_made (base := w1.heap.size) (e := 3) (size := 1) (w2.alloc (.cells #[] 28)) #[] 0 (by simp; omega) (by unfold maxLen; omega) rfl
    simpa using this
end
end Go.Proofs.YtdnomaafjmfdkaaGreatDoor
