/-
  Contracts of Pop, Top, the array length, Push of a number, and the pop into a box: conditions: sizes up to 2^20.
-/
import Derived.Test.YtdnomaafjmfdkaaGreatDoorReg
import Derived.Deep.RegionWith
namespace Go.Proofs.YtdnomaafjmfdkaaGreatDoor
open Go.RowKit
set_option maxRecDepth 100000
set_option maxHeartbeats 400000

abbrev LNIL : Value := .iface 63 (.int .u8 0)

theorem pop_raw (R A top g m : Nat) (xs : List Value) (x : Value) (w : World) (ht : top < xs.length) (hx : xs.length ≤ 1048576) (hxt : xs[top]? = some x)
    (h : Reg w R A xs (top + 1) g m) :
    Calls Tryz.prog 32 #[.pointer (some ⟨R, 0, none⟩)] w fun e w' => e = .returned x ∧ w' = ((w.setCell ⟨A, top, none⟩ LNIL).setCell ⟨R, 1, none⟩ (.int .i64 top)).drew.drew := by
  obtain ⟨hR, hA, hne, h1⟩ := h
  have f0 : w.cell? ⟨R, 0, none⟩ = some (.slice (some ⟨A, 0, none⟩) xs.length xs.length) := cell_of hR
  have f1 : w.cell? ⟨R, 1, none⟩ = some (.int .i64 ((top + 1 : Nat) : Int)) := cell_of hR
  rw [show ((top + 1 : Nat) : Int) = (top : Int) + 1 from by omega] at f1
  have z0 : w.frozen? ⟨R, 1, none⟩ = false := free_of hR
  have za : w.frozen? ⟨A, top, none⟩ = false := free_of hA
  have ca : w.cell? ⟨A, top, none⟩ = some x := by rw [cell_of hA]; simpa using hxt
  generalize xs.length = len at *
  clear hR hA h1 hxt
  go_enter Tryz.func32, Tryz.ntmps32
  go_wp2
  go_region
  all_goals go_wp2
  all_goals go_region
  all_goals go_wp2
  all_goals go_ret
  all_goals exact ⟨rfl, rfl⟩

def Popped (R A : Nat) (xs : List Value) (top g m : Nat) (w w' : World) : Prop :=
  Reg w' R A (xs.set top LNIL) top g m ∧ Keeps (fun k => k = R ∨ k = A) w w'

theorem pop_any (R A top g m : Nat) (xs : List Value) (x : Value) (w : World) (ht : top < xs.length) (hx : xs.length ≤ 1048576) (hxt : xs[top]? = some x)
    (h : Reg w R A xs (top + 1) g m) :
    Calls Tryz.prog 32 #[.pointer (some ⟨R, 0, none⟩)] w fun e w' => e = .returned x ∧ Popped R A xs top g m w w' := by
  refine (pop_raw R A top g m xs x w ht hx hxt h).mono ?_
  rintro e w' ⟨rfl, rfl⟩
  exact ⟨rfl, ((h.slot top _ rfl).top top).drew.drew, ((((Keeps.refl _ _).setCell (Or.inr rfl) _).setCell (Or.inl rfl) _).drew).drew⟩

/-- 'rg.Top()' -/
theorem top_any (R A top g m : Nat) (xs : List Value) (w : World) (h : Reg w R A xs top g m) :
    Calls Tryz.prog 25 #[.pointer (some ⟨R, 0, none⟩)] w fun e w' => e = .returned (.int .i64 top) ∧ w = w' := by
  have f1 : w.cell? ⟨R, 1, none⟩ = some (.int .i64 top) := cell_of h.1
  clear h
  go_enter Tryz.func25, Tryz.ntmps25
  go_wp2
  go_ret
  exact ⟨rfl, rfl⟩

theorem ztop_any (R A top g m : Nat) (xs : List Value) (w : World) (h : Reg w R A xs top g m) :
    Calls Tryz.prog 12 #[.pointer (some ⟨R, 0, none⟩)] w fun e w' => e = .returned (.int .i64 top) ∧ w = w' := by
  have HC := Lib.hid (top_any R A top g m xs w h)
  clear h
  go_enter Tryz.func12, Tryz.ntmps12
  go_wp2_with (go_at_call 25; refine HC.out.mono ?_; rintro e w' ⟨rfl, rfl⟩)
  go_ret
  exact ⟨rfl, rfl⟩

theorem zlen_any (R A top g m : Nat) (xs : List Value) (w : World) (h : Reg w R A xs top g m) :
    Calls Tryz.prog 14 #[.pointer (some ⟨R, 0, none⟩)] w fun e w' => e = .returned (.int .i64 xs.length) ∧ w = w' := by
  have f0 : w.cell? ⟨R, 0, none⟩ = some (.slice (some ⟨A, 0, none⟩) xs.length xs.length) := cell_of h.1
  clear h
  generalize xs.length = len at *
  go_enter Tryz.func14, Tryz.ntmps14
  go_wp2
  go_ret
  exact ⟨rfl, rfl⟩

/-- 'rg.Push(LNumber(x))' -/
theorem zpush_any (R A top g m : Nat) (xs : List Value) (b : Nat) (w : World) (ht : top ≤ xs.length) (hx : xs.length ≤ 1048576) (hg : g ≤ 1073741824) (hm : m ≤ 1048576) (htm : top < xs.length ∨ top + 1 ≤ m)
    (h : Reg w R A xs top g m) :
    Calls Tryz.prog 11 #[.pointer (some ⟨R, 0, none⟩), .float .f64 b] w fun e w' => e = .returned (.tuple #[]) ∧ Pushed R A xs top g m (.iface 44 (.float .f64 b)) w w' := by
  have HC := Lib.hid (push_any R A top g m xs (.float .f64 b) w ht hx hg hm htm h rfl)
  clear h ht hx hg hm htm
  go_enter Tryz.func11, Tryz.ntmps11
  go_wp2_with (go_at_call 24; refine HC.out.mono ?_; rintro e w' ⟨rfl, hp⟩)
  go_end0
  exact ⟨rfl, hp⟩

theorem Popped.undrew {R A : Nat} {xs : List Value} {top g m : Nat} {w w' : World} (h : Popped R A xs top g m w.drew w') : Popped R A xs top g m w w' :=
  ⟨h.1, h.2.os, h.2.tape, h.2.output, h.2.size, h.2.block⟩

def PoppedInto (R A B C : Nat) (xs : List Value) (top g m : Nat) (x : Value) (ys : List Value) (bt bg bm : Nat) (w w' : World) : Prop :=
  Reg w' R A (xs.set top LNIL) top g m ∧ Reg w' B C (ys.set 0 x) bt bg bm ∧ Keeps (fun k => k = R ∨ k = A ∨ k = C) w w'

theorem PoppedInto.mk {R A B C : Nat} {xs : List Value} {top g m : Nat} {x : Value} {ys : List Value} {bt bg bm : Nat} {w w2 : World} (hp : Popped R A xs top g m w w2) (hb : Reg w2 B C ys bt bg bm) (hx1 : x.oneCell' = true)
    (n3 : C ≠ R) (n4 : C ≠ A) : PoppedInto R A B C xs top g m x ys bt bg bm w (w2.setCell ⟨C, 0, none⟩ x) := by
  obtain ⟨⟨hR, hA, hne, h1⟩, hk⟩ := hp
  refine ⟨⟨?_, ?_, hne, h1⟩, hb.slot 0 x hx1, (hk.mono (fun n hn => by rcases hn with h | h; exact Or.inl h; exact Or.inr (Or.inl h))).setCell (Or.inr (Or.inr rfl)) _⟩
  · rw [set_other _ (Ne.symm n3)]; exact hR
  · rw [set_other _ (Ne.symm n4)]; exact hA

theorem Reg.kept {S : Nat → Prop} {w w' : World} {B C : Nat} {ys : List Value} {bt bg bm : Nat} (hb : Reg w B C ys bt bg bm) (hk : Keeps S w w') (h1 : ¬ S B) (h2 : ¬ S C) : Reg w' B C ys bt bg bm :=
  ⟨(hk.block B (lt_of hb.1) h1).trans hb.1, (hk.block C (lt_of hb.2.1) h2).trans hb.2.1, hb.2.2⟩

/-- The box's slot 0 takes what Pop gives. -/
theorem popInto_any (R A top g m : Nat) (xs : List Value) (x : Value) (B C : Nat) (ys : List Value) (bt bg bm : Nat) (w : World) (ht : top < xs.length) (hx : xs.length ≤ 1048576) (hxt : xs[top]? = some x) (hx1 : ∃ t v, x = .iface t v)
    (h : Reg w R A xs (top + 1) g m) (hb : Reg w B C ys bt bg bm) (hy : 0 < ys.length) (n1 : B ≠ R) (n2 : B ≠ A) (n3 : C ≠ R) (n4 : C ≠ A) :
    Calls Tryz.prog 26 #[.pointer (some ⟨R, 0, none⟩), .pointer (some ⟨B, 0, none⟩)] w fun e w' => e = .returned (.tuple #[]) ∧ PoppedInto R A B C xs top g m x ys bt bg bm w w' := by
  obtain ⟨t, v, rfl⟩ := hx1
  have hone := h.2.2.2 _ (List.mem_of_getElem? hxt)
  have HC := fun W (hW : Reg W R A xs (top + 1) g m) => pop_any R A top g m xs _ W ht hx hxt hW
  have c0 : w.cell? ⟨B, 0, none⟩ = some (.slice (some ⟨C, 0, none⟩) ys.length ys.length) := cell_of hb.1
  have HB := fun w2 (hp : Popped R A xs top g m w w2) => hb.kept hp.2 (fun e => by rcases e with e | e <;> omega) (fun e => by rcases e with e | e <;> omega)
  have HC' := Lib.hid HC
  have HB' := Lib.hid HB
  have hh := Lib.hid h
  have ho := Lib.hid hone
  generalize hL : ys.length = L at *
  have hL' := Lib.hid hL
  have hy' : (0 : Int) < (L : Int) := by omega
  clear HC HB h hone hL hxt hb ht hx
  go_enter Tryz.func26, Tryz.ntmps26
  go_wp2
  go_region_with (go_at_call 32; refine (HC'.out _ (by exact hh.out)).mono ?_; rintro e w2 ⟨rfl, hp'⟩; have hp := hp'.undrew; clear hp'; have hb2 := HB'.out w2 hp; have b0 : w2.cell? ⟨B, 0, none⟩ = some (.slice (some ⟨C, 0, none⟩) L L) := (by rw [← hL'.out]; exact cell_of hb2.1); obtain ⟨u, b1⟩ : ∃ u, w2.cell? ⟨C, 0, none⟩ = some u := ⟨_, by rw [cell_of hb2.2.1]; simp [hL'.out, hy]; rfl⟩; have b2 : w2.frozen? ⟨C, 0, none⟩ = false := free_of hb2.2.1; have hb3 := Lib.hid hb2; have hp3 := Lib.hid hp; clear hb2 hp)
  all_goals go_wp2
  all_goals go_end0
  all_goals exact ⟨rfl, PoppedInto.mk hp3.out hb3.out ho.out n3 n4⟩

end Go.Proofs.YtdnomaafjmfdkaaGreatDoor
