/-
  FnNewTableIsEmptyAndFresh: for every argument (as the law itself bounds them; no condition of ours) the law returns true, each argument reads behind the call as before it: the row and its tied card.
-/
import Derived.Test.YtbgolkdhcgjfkaaGreatDoorCards
import Derived.Test.YtbgolkdhcgjfkaaGreatDoorTie
import Derived.Test.YtbgolkdhcgjfkaaGreatDoorLaid
import Derived.Test.YtbgolkdhcgjfkaaGreatDoorLone
import Derived.ProofKit
import Derived.OpenShut
import Derived.ShutString
import Derived.ChangeOld
import Derived.Below
import Derived.Deep.DeepHandedRow
import Derived.Deep.DeepWitnessRowRef
namespace Go.Proofs.YtbgolkdhcgjfkaaGreatDoor.Lone
open Go.ChangeShapes Go.WideShapes Go.ChangeAt Go.RowKit
open Go.ChangeMaps (open_string shut_string)

theorem witness_row (os : Os) {H : Type} (enc : TypeId × Value → H) :
    (OpenSpec.ofChange Rows.fnNewTableIsEmptyAndFreshSpec).preRow enc Tryz.prog Tryz.f3 Rows.fnNewTableIsEmptyAndFreshRow.domain false Rows.fnNewTableIsEmptyAndFreshRow.laid
      ((laidWorld os).forCall (fun _ _ => 0) ⟨#[], #[.int .i64 0, .string ⟨#[]⟩], []⟩).memory #[.int .i64 0, .string ⟨#[]⟩] := by
  have hw : (DataW.whole enc Tryz.prog ((laidWorld os).forCall (fun _ _ => 0) ⟨#[], #[.int .i64 0, .string ⟨#[]⟩], []⟩).memory Tryz.f3.params.toList Rows.fnNewTableIsEmptyAndFreshSpec.vars false #[Value.int .i64 0, .string ⟨#[]⟩].toList 8).map (fun x => (x.1, x.2.1)) =
      some ([.lit (.int .i64 0), .lit (.string [])], []) := by kernel_rfl
  obtain ⟨⟨x1, x2, x3⟩, hx, hx1⟩ := Option.map_eq_some_iff.1 hw
  simp only [Prod.mk.injEq] at hx1
  obtain ⟨rfl, rfl⟩ := hx1
  exact OpenSpec.preRow_of_cond 8 hx (by kernel_rfl) (fun k hk => by cases hk) (by kernel_rfl) (laid_met os _)

set_option maxRecDepth 100000 in
set_option maxHeartbeats 2000000 in
theorem contract (H : Type) (enc : TypeId × Value → H) (W : World) (base : Nat) (args : Array Value) (ds gs : List (DataW H)) (before : List MemPlace)
    (hval : ∀ (j : Nat) t v, Tryz.f3.params[j]? = some t → args[j]? = some v → Value.okWide Tryz.prog W .any base t v)
    (hW : DataW.Whole enc Tryz.prog Tryz.f3.params.toList Rows.fnNewTableIsEmptyAndFreshSpec.vars false W args.toList ds gs before) :
    Calls Tryz.prog 3 args W fun e W' => ∃ v, e = .returned v ∧ Rows.fnNewTableIsEmptyAndFreshSpec.post enc Tryz.prog Tryz.f3 false true false false W args v W' := by
  have hW' := hW
  obtain ⟨p, q, hA0, hV, rfl, hfz, hnd⟩ := hW
  have hA : DataW.TrodAll enc Tryz.prog W 0 (fun _ => true) true Tryz.f3.params.toList args.toList ds p := hA0
  rw [Tryz.params3] at hA hval
  obtain ⟨v0, vs0, d0, ds0, p0, q0, hargs, rfl, rfl, h0, r0⟩ := trodAll_cons hA
  obtain ⟨v1, vs1, d1, ds1, p1, q1, rfl, rfl, rfl, h1, r1⟩ := trodAll_cons r0
  obtain ⟨rfl, rfl, rfl⟩ := trodAll_nil r1
  obtain rfl : args = #[v0, v1] := by cases args; simp_all
  obtain ⟨rfl, rfl⟩ := trodVars_none hV
  obtain ⟨a0, rfl, rfl, rfl, w0⟩ := open_int Tryz.underlying3 (hval 0 3 v0 rfl rfl) h0
  obtain ⟨a1, rfl, rfl, rfl, w1⟩ := open_string Tryz.underlying9 (hval 1 9 v1 rfl rfl) h1
  clear hA0
  refine (lone_any a0 a1 W w1).mono fun e W' ⟨he, bel⟩ => ?_
  subst he
  exact ⟨_, rfl, _, _, _, [], _, [], hW', trodAll_mk1 (shut_bool Tryz.underlying4 _), (trodAll_cons_mk (shut_int Tryz.underlying3 w0) (trodAll_cons_mk (shut_string Tryz.underlying9 w1) trodAll_mk0)), rfl, bel.frame _, fun h => by cases h⟩

set_option maxRecDepth 100000 in
theorem lifted (os : Os) (started : os.Started) (H : Type) (enc : TypeId × Value → H) (F : Stop.Interp) :
    ReturnsInHanded {} Tryz.checked os 3 .any ((OpenSpec.ofChange Rows.fnNewTableIsEmptyAndFreshSpec).preRow enc Tryz.prog Tryz.f3 Rows.fnNewTableIsEmptyAndFreshRow.domain false Rows.fnNewTableIsEmptyAndFreshRow.laid) (((OpenSpec.ofChange Rows.fnNewTableIsEmptyAndFreshSpec).at F).post enc Tryz.prog Tryz.f3 false true false false) := by
  refine returnsInHanded_of_row (C := Tryz.checked) (s := OpenSpec.ofChange Rows.fnNewTableIsEmptyAndFreshSpec) own started (by kernel_rfl) Tryz.func3
    (witness_row_atRef (enc := enc) (C := Tryz.checked) false (laidWorld os) #[.int .i64 0, .string ⟨#[]⟩] rfl (vars_ref os _) (rest_ref os _) (by kernel_rfl) (witness_row os enc)) ?_
  intro W base args ds gs before hval hW _ _ _ _ _ _
  exact contract H enc W base args ds gs before hval hW

theorem said : Rows.FnNewTableIsEmptyAndFreshSaid :=
  OpenClaim.holds_of_cond 3 Tryz.f3 rfl rfl rfl rfl rfl rfl rfl ⟨rfl, rfl, rfl, rfl, rfl⟩ rfl rfl rfl rfl rfl (by kernel_rfl) Tryz.func3 (by kernel_rfl)
    (of_decide_eq_true (by kernel_rfl)) (by unfold Func.isWrapper; rw [if_neg (of_decide_eq_false (by kernel_rfl))]; exact ⟨rfl, rfl⟩)
    (fun os started H enc _ F => by rw [OpenClaim.pre_eq_preRow]; exact lifted os started H enc F)

theorem plain (f : FuncId) (fn : Func) (hf : Tryz.pinned.checked.prog.funcNamed "github.com/yuin/gopher-lua/n005_92.FnNewTableIsEmptyAndFresh" = some f) (hfn : Tryz.pinned.checked.prog.funcs[f]? = some fn) :
    true = Tryz.pinned.checked.prog.looks [] ∧ ∀ (j : Nat) t, fn.params[j]? = some t → Tryz.pinned.checked.prog.wantsStandIn t = false := by
  obtain rfl : f = 3 := Option.some.inj ((show Tryz.prog.funcNamed "github.com/yuin/gopher-lua/n005_92.FnNewTableIsEmptyAndFresh" = some 3 by kernel_rfl).symm.trans hf) |>.symm
  obtain rfl : fn = Tryz.f3 := (Option.some.inj (Tryz.func3.symm.trans hfn)).symm
  refine ⟨by kernel_rfl, fun j t ht => ?_⟩
  rw [Tryz.params3] at ht
  have hm := Array.mem_of_getElem? ht
  have g3 : Tryz.prog.wantsStandIn 3 = false := by kernel_rfl
  have g9 : Tryz.prog.wantsStandIn 9 = false := by kernel_rfl
  simp only [List.mem_toArray, List.mem_cons, List.not_mem_nil, or_false] at hm
  rcases hm with rfl | rfl
  · exact g3
  · exact g9
end Go.Proofs.YtbgolkdhcgjfkaaGreatDoor.Lone

namespace Go.Proofs.YtbgolkdhcgjfkaaGreatDoor
/-- THE STATEMENT: FnNewTableIsEmptyAndFresh's tied card. -/
theorem lone_card : Rows.FnNewTableIsEmptyAndFreshCardSaid :=
  Claim7.holds_tied_plain_at .later [] _ _ _ _ Lone.said (fun _ h => by cases h) (by kernel_rfl) (fun _ h => by cases h) fnNewTableIsEmptyAndFresh_row_tie rfl ⟨rfl, rfl⟩ (by kernel_rfl) rfl Lone.plain (by kernel_rfl)
#print axioms lone_card
end Go.Proofs.YtbgolkdhcgjfkaaGreatDoor
