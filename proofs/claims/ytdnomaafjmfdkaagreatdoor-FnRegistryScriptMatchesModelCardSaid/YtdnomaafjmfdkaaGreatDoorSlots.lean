/-
  Contracts of zzSlot at each kind of slot (Go nil, LNil, a number), of newRegistry and of zzPop: conditions: sizes up to 2^20.
-/
import Derived.Test.YtdnomaafjmfdkaaGreatDoorOps
namespace Go.Proofs.YtdnomaafjmfdkaaGreatDoor
open Go.RowKit
set_option maxRecDepth 100000
set_option maxHeartbeats 400000

abbrev NUM (b : Nat) : Value := .iface 44 (.float .f64 b)

theorem method_nil (w : World) : (method 293 63 (.int .u8 0) "Type").run Tryz.prog w = .ok (123, .int .u8 0) w := by kernel_rfl
theorem method_num (b : Nat) (w : World) : (method 293 44 (.float .f64 b) "Type").run Tryz.prog w = .ok (119, .float .f64 b) w := by kernel_rfl

theorem assert_num (b : Nat) (w : World) : (Instr.typeAssert (NUM b) 58 44 true).run Tryz.prog w = .ok (.tuple #[.float .f64 b, .bool true]) w := by kernel_rfl

theorem slot_nil (R A top g m i : Nat) (xs : List Value) (w : World) (hi : i < xs.length) (h : Reg w R A xs top g m) (hv : xs[i]? = some .nilIface) :
    Calls Tryz.prog 15 #[.pointer (some ⟨R, 0, none⟩), .int .i64 i] w fun e w' => e = .returned (.tuple #[.int .i64 0, .float .f64 0]) ∧ w = w' := by
  have f0 : w.cell? ⟨R, 0, none⟩ = some (.slice (some ⟨A, 0, none⟩) xs.length xs.length) := cell_of h.1
  have fa : w.cell? ⟨A, i, none⟩ = some .nilIface := by rw [cell_of h.2.1]; simpa using hv
  clear h hv
  generalize xs.length = len at *
  go_enter Tryz.func15, Tryz.ntmps15
  go_wp2
  go_ret2
  exact ⟨rfl, rfl⟩

theorem slot_lnil (R A top g m i : Nat) (xs : List Value) (w : World) (hi : i < xs.length) (h : Reg w R A xs top g m) (hv : xs[i]? = some LNIL) :
    Calls Tryz.prog 15 #[.pointer (some ⟨R, 0, none⟩), .int .i64 i] w fun e w' => e = .returned (.tuple #[.int .i64 1, .float .f64 0]) ∧ w = w' := by
  have f0 : w.cell? ⟨R, 0, none⟩ = some (.slice (some ⟨A, 0, none⟩) xs.length xs.length) := cell_of h.1
  have fa : w.cell? ⟨A, i, none⟩ = some LNIL := by rw [cell_of h.2.1]; simpa using hv
  have hm := method_nil
  clear h hv
  generalize xs.length = len at *
  go_enter Tryz.func15, Tryz.ntmps15
  go_wp2
  go_ret2
  exact ⟨rfl, rfl⟩

theorem slot_num (R A top g m i b : Nat) (xs : List Value) (w : World) (hi : i < xs.length) (h : Reg w R A xs top g m) (hv : xs[i]? = some (NUM b)) :
    Calls Tryz.prog 15 #[.pointer (some ⟨R, 0, none⟩), .int .i64 i] w fun e w' => e = .returned (.tuple #[.int .i64 2, .float .f64 b]) ∧ w = w' := by
  have f0 : w.cell? ⟨R, 0, none⟩ = some (.slice (some ⟨A, 0, none⟩) xs.length xs.length) := cell_of h.1
  have fa : w.cell? ⟨A, i, none⟩ = some (NUM b) := by rw [cell_of h.2.1]; simpa using hv
  have hm := method_num
  have ha := assert_num
  clear h hv
  generalize xs.length = len at *
  go_enter Tryz.func15, Tryz.ntmps15
  go_wp2
  go_ret2
  exact ⟨rfl, rfl⟩

/-- What a slot of these registries may hold. -/
def IsSlot (v : Value) : Prop := v = .nilIface ∨ v = LNIL ∨ ∃ b, v = NUM b
def cls : Value → Nat
  | .nilIface => 0
  | .iface t _ => if t = 63 then 1 else 2
  | _ => 3
def numOf : Value → Nat
  | .iface _ (.float _ b) => b
  | _ => 0

theorem slot_any (R A top g m i : Nat) (xs : List Value) (v : Value) (w : World) (hi : i < xs.length) (h : Reg w R A xs top g m) (hv : xs[i]? = some v) (hs : IsSlot v) :
    Calls Tryz.prog 15 #[.pointer (some ⟨R, 0, none⟩), .int .i64 i] w fun e w' => e = .returned (.tuple #[.int .i64 (cls v), .float .f64 (numOf v)]) ∧ w = w' := by
  rcases hs with rfl | rfl | ⟨b, rfl⟩
  · exact slot_nil R A top g m i xs w hi h hv
  · exact slot_lnil R A top g m i xs w hi h hv
  · exact slot_num R A top g m i b xs w hi h hv

theorem new_raw (n : Nat) (g m : Int) (w : World) (hn : n ≤ 65536) :
    Calls Tryz.prog 23 #[.nilIface, .int .i64 n, .int .i64 g, .int .i64 m, .pointer none] w fun e w' => e = .returned (.pointer (some ⟨w.heap.size + 1, 0, none⟩)) ∧
      w' = (w.alloc (.cells (List.replicate n Value.nilIface).toArray 58)).alloc (.cells #[.slice (some ⟨w.heap.size, 0, none⟩) n n, .int .i64 0, .int .i64 g, .int .i64 m, .pointer none, .nilIface] 52) := by
  have h1 := hmk n (by omega)
  generalize (List.replicate n Value.nilIface).toArray = M at *
  go_enter Tryz.func23, Tryz.ntmps23
  go_wp2
  go_ret
  exact ⟨rfl, rfl⟩

def Newed (n g m : Nat) (w w' : World) : Prop :=
  Reg w' (w.heap.size + 1) w.heap.size (List.replicate n Value.nilIface) 0 g m ∧ Below w.heap.size w w'

theorem znew_any (n g m : Nat) (w : World) (hn : n ≤ 65536) :
    Calls Tryz.prog 10 #[.int .i64 n, .int .i64 g, .int .i64 m] w fun e w' => e = .returned (.pointer (some ⟨w.heap.size + 1, 0, none⟩)) ∧ Newed n g m w w' := by
  have HC := Lib.hid (new_raw n g m w hn)
  clear hn
  go_enter Tryz.func10, Tryz.ntmps10
  go_wp2_with (go_at_call 23; refine HC.out.mono ?_; rintro e w' ⟨rfl, hw⟩; have hw' := Lib.hid hw; clear hw)
  go_ret
  refine ⟨rfl, ?_⟩
  have hw := hw'.out
  subst hw
  refine ⟨⟨?_, ?_, by omega, fun v hv => by rw [(List.mem_replicate.1 hv).2]; rfl⟩, ?_⟩
  · have e : (w.alloc (.cells (List.replicate n Value.nilIface).toArray 58)).heap.size = w.heap.size + 1 := by simp
    have := heap_alloc_new (w.alloc (.cells (List.replicate n Value.nilIface).toArray 58)) (.cells #[.slice (some ⟨w.heap.size, 0, none⟩) n n, .int .i64 0, .int .i64 g, .int .i64 m, .pointer none, .nilIface] 52)
    rw [e] at this
    rw [this]
    simp
  · exact alloc_old _ (heap_alloc_new w _)
  · exact ((Below.refl _ _).alloc (Nat.le_refl _) _).alloc (by simp) _

def ZPopped (R A : Nat) (xs : List Value) (top g m : Nat) (w w' : World) : Prop :=
  Reg w' R A (xs.set top LNIL) top g m ∧ Keeps (fun k => k = R ∨ k = A) w w'

theorem ZPopped.mk {R A B C : Nat} {xs : List Value} {top g m : Nat} {x : Value} {ys : List Value} {bt bg bm : Nat} {w w1 w2 : World} (hp : PoppedInto R A B C xs top g m x ys bt bg bm w1 w2) (hb : Below w.heap.size w w1) (hC : w.heap.size ≤ C) : ZPopped R A xs top g m w w2 :=
  ⟨hp.1, (Keeps.of_below hb).trans hp.2.2 (fun n hn ht => by rcases ht with h | h | h; exact Or.inl h; exact Or.inr h; omega)⟩

theorem zpop_any (R A top g m : Nat) (xs : List Value) (x : Value) (w : World) (ht : top < xs.length) (hx : xs.length ≤ 1048576) (hxt : xs[top]? = some x) (hx1 : x = LNIL ∨ ∃ b, x = NUM b)
    (h : Reg w R A xs (top + 1) g m) :
    Calls Tryz.prog 13 #[.pointer (some ⟨R, 0, none⟩)] w fun e w' => e = .returned (.tuple #[.int .i64 (cls x), .float .f64 (numOf x)]) ∧ ZPopped R A xs top g m w w' := by
  have H1 := Lib.hid (znew_any 1 0 1 w (by omega))
  have hxi : ∃ t v, x = .iface t v := by rcases hx1 with rfl | ⟨b, rfl⟩ <;> exact ⟨_, _, rfl⟩
  have hsl : IsSlot x := Or.inr hx1
  have h2 := h.size
  have H2 := fun w1 (hn : Newed 1 0 1 w w1) => popInto_any R A top g m xs x (w.heap.size + 1) w.heap.size [.nilIface] 0 0 1 w1 ht hx hxt hxi (h.kept (Keeps.of_below (S := fun _ => False) hn.2) id id) hn.1 (by simp) (by omega) (by omega) (by omega) (by omega)
  have H2' := Lib.hid H2
  have H3 := fun w1 w2 (_ : Newed 1 0 1 w w1) (hp : PoppedInto R A (w.heap.size + 1) w.heap.size xs top g m x [.nilIface] 0 0 1 w1 w2) => slot_any (w.heap.size + 1) w.heap.size 0 0 1 0 _ x w2 (by simp) hp.2.1 (by simp) hsl
  have H3' := Lib.hid H3
  clear H2 H3 ht hx hxt hx1 hxi hsl h h2
  go_enter Tryz.func13, Tryz.ntmps13
  go_wp2_with fail
  refine H1.out.mono ?_
  rintro e w1 ⟨rfl, hn⟩
  go_wp2_with fail
  refine (H2'.out w1 hn).mono ?_
  rintro e w2 ⟨rfl, hp⟩
  go_wp2_with fail
  refine (H3'.out w1 w2 hn hp).mono ?_
  rintro e w3 ⟨rfl, rfl⟩
  go_wp2
  go_ret2
  exact ⟨rfl, ZPopped.mk hp hn.2 (by omega)⟩
end Go.Proofs.YtdnomaafjmfdkaaGreatDoor
