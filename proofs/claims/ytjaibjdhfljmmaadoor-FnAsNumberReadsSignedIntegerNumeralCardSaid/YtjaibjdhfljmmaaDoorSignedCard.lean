/-
  FnAsNumberReadsSignedIntegerNumeral: for every argument (as the law itself bounds them; no condition of ours) the law returns true, each argument reads behind the call as before it: the row and its tied card.
-/
import Derived.Test.YtjaibjdhfljmmaaDoorCards
import Derived.Test.YtjaibjdhfljmmaaDoorTie
import Derived.Test.YtjaibjdhfljmmaaDoorLaid
import Derived.Test.YtjaibjdhfljmmaaDoorSigned
import Derived.ProofKit
import Derived.OpenShut
import Derived.ShutString
import Derived.ChangeOld
import Derived.Below
import Derived.Deep.DeepHandedRow
import Derived.Deep.DeepWitnessRowRef
namespace Go.Proofs.YtjaibjdhfljmmaaDoor.Signed
open Go.ChangeShapes Go.WideShapes Go.ChangeAt Go.RowKit
open Go.ChangeMaps (open_string shut_string)

theorem witness_row (os : Os) {H : Type} (enc : TypeId × Value → H) :
    (OpenSpec.ofChange Rows.fnAsNumberReadsSignedIntegerNumeralSpec).preRow enc Tryd.prog Tryd.f4 Rows.fnAsNumberReadsSignedIntegerNumeralRow.domain false Rows.fnAsNumberReadsSignedIntegerNumeralRow.laid
      ((laidWorld os).forCall (fun _ _ => 0) ⟨#[], #[.int .i64 0, .bool false, .string ⟨#[]⟩, .string ⟨#[]⟩], []⟩).memory #[.int .i64 0, .bool false, .string ⟨#[]⟩, .string ⟨#[]⟩] := by
  have hw : (DataW.whole enc Tryd.prog ((laidWorld os).forCall (fun _ _ => 0) ⟨#[], #[.int .i64 0, .bool false, .string ⟨#[]⟩, .string ⟨#[]⟩], []⟩).memory Tryd.f4.params.toList Rows.fnAsNumberReadsSignedIntegerNumeralSpec.vars false #[Value.int .i64 0, .bool false, .string ⟨#[]⟩, .string ⟨#[]⟩].toList 8).map (fun x => (x.1, x.2.1)) =
      some ([.lit (.int .i64 0), .lit (.bool false), .lit (.string []), .lit (.string [])], []) := by kernel_rfl
  obtain ⟨⟨x1, x2, x3⟩, hx, hx1⟩ := Option.map_eq_some_iff.1 hw
  simp only [Prod.mk.injEq] at hx1
  obtain ⟨rfl, rfl⟩ := hx1
  exact OpenSpec.preRow_of_cond 8 hx (by kernel_rfl) (fun k hk => by cases hk) (by kernel_rfl) (laid_met os _)

set_option maxRecDepth 100000 in
set_option maxHeartbeats 2000000 in
theorem contract (H : Type) (enc : TypeId × Value → H) (W : World) (base : Nat) (args : Array Value) (ds gs : List (DataW H)) (before : List MemPlace)
    (hval : ∀ (j : Nat) t v, Tryd.f4.params[j]? = some t → args[j]? = some v → Value.okWide Tryd.prog W .any base t v)
    (hW : DataW.Whole enc Tryd.prog Tryd.f4.params.toList Rows.fnAsNumberReadsSignedIntegerNumeralSpec.vars false W args.toList ds gs before) :
    Calls Tryd.prog 4 args W fun e W' => ∃ v, e = .returned v ∧ Rows.fnAsNumberReadsSignedIntegerNumeralSpec.post enc Tryd.prog Tryd.f4 false true false false W args v W' := by
  have hW' := hW
  obtain ⟨p, q, hA0, hV, rfl, hfz, hnd⟩ := hW
  have hA : DataW.TrodAll enc Tryd.prog W 0 (fun _ => true) true Tryd.f4.params.toList args.toList ds p := hA0
  rw [Tryd.params4] at hA hval
  obtain ⟨v0, vs0, d0, ds0, p0, q0, hargs, rfl, rfl, h0, r0⟩ := trodAll_cons hA
  obtain ⟨v1, vs1, d1, ds1, p1, q1, rfl, rfl, rfl, h1, r1⟩ := trodAll_cons r0
  obtain ⟨v2, vs2, d2, ds2, p2, q2, rfl, rfl, rfl, h2, r2⟩ := trodAll_cons r1
  obtain ⟨v3, vs3, d3, ds3, p3, q3, rfl, rfl, rfl, h3, r3⟩ := trodAll_cons r2
  obtain ⟨rfl, rfl, rfl⟩ := trodAll_nil r3
  obtain rfl : args = #[v0, v1, v2, v3] := by cases args; simp_all
  obtain ⟨rfl, rfl⟩ := trodVars_none hV
  obtain ⟨a0, rfl, rfl, rfl, w0⟩ := open_int Tryd.underlying2 (hval 0 2 v0 rfl rfl) h0
  obtain ⟨a1, rfl, rfl, rfl⟩ := open_bool Tryd.underlying4 (hval 1 4 v1 rfl rfl) h1
  obtain ⟨a2, rfl, rfl, rfl, w2⟩ := open_string Tryd.underlying9 (hval 2 9 v2 rfl rfl) h2
  obtain ⟨a3, rfl, rfl, rfl, w3⟩ := open_string Tryd.underlying9 (hval 3 9 v3 rfl rfl) h3
  clear hA0
  refine (signed_law a0 a1 a2 a3 W w0 w2 w3).mono fun e W' ⟨he, bel⟩ => ?_
  subst he
  exact ⟨_, rfl, _, _, _, [], _, [], hW', trodAll_mk1 (shut_bool Tryd.underlying4 _), (trodAll_cons_mk (shut_int Tryd.underlying2 w0) (trodAll_cons_mk (shut_bool Tryd.underlying4 _) (trodAll_cons_mk (shut_string Tryd.underlying9 w2) (trodAll_cons_mk (shut_string Tryd.underlying9 w3) trodAll_mk0)))), rfl, bel.frame _, fun h => by cases h⟩

set_option maxRecDepth 100000 in
theorem lifted (os : Os) (started : os.Started) (H : Type) (enc : TypeId × Value → H) (F : Stop.Interp) :
    ReturnsInHanded {} Tryd.checked os 4 .any ((OpenSpec.ofChange Rows.fnAsNumberReadsSignedIntegerNumeralSpec).preRow enc Tryd.prog Tryd.f4 Rows.fnAsNumberReadsSignedIntegerNumeralRow.domain false Rows.fnAsNumberReadsSignedIntegerNumeralRow.laid) (((OpenSpec.ofChange Rows.fnAsNumberReadsSignedIntegerNumeralSpec).at F).post enc Tryd.prog Tryd.f4 false true false false) := by
  refine returnsInHanded_of_row (C := Tryd.checked) (s := OpenSpec.ofChange Rows.fnAsNumberReadsSignedIntegerNumeralSpec) own started (by kernel_rfl) Tryd.func4
    (witness_row_atRef (enc := enc) (C := Tryd.checked) false (laidWorld os) #[.int .i64 0, .bool false, .string ⟨#[]⟩, .string ⟨#[]⟩] rfl (vars_ref os _) (rest_ref os _) (by kernel_rfl) (witness_row os enc)) ?_
  intro W base args ds gs before hval hW _ _ _ _ _ _
  exact contract H enc W base args ds gs before hval hW

theorem said : Rows.FnAsNumberReadsSignedIntegerNumeralSaid :=
  OpenClaim.holds_of_cond 4 Tryd.f4 rfl rfl rfl rfl rfl rfl rfl ⟨rfl, rfl, rfl, rfl, rfl⟩ rfl rfl rfl rfl rfl (by kernel_rfl) Tryd.func4 (by kernel_rfl)
    (of_decide_eq_true (by kernel_rfl)) (by unfold Func.isWrapper; rw [if_neg (of_decide_eq_false (by kernel_rfl))]; exact ⟨rfl, rfl⟩)
    (fun os started H enc _ F => by rw [OpenClaim.pre_eq_preRow]; exact lifted os started H enc F)

theorem plain (f : FuncId) (fn : Func) (hf : Tryd.pinned.checked.prog.funcNamed "github.com/yuin/gopher-lua/n005_114.FnAsNumberReadsSignedIntegerNumeral" = some f) (hfn : Tryd.pinned.checked.prog.funcs[f]? = some fn) :
    true = Tryd.pinned.checked.prog.looks [] ∧ ∀ (j : Nat) t, fn.params[j]? = some t → Tryd.pinned.checked.prog.wantsStandIn t = false := by
  obtain rfl : f = 4 := Option.some.inj ((show Tryd.prog.funcNamed "github.com/yuin/gopher-lua/n005_114.FnAsNumberReadsSignedIntegerNumeral" = some 4 by kernel_rfl).symm.trans hf) |>.symm
  obtain rfl : fn = Tryd.f4 := (Option.some.inj (Tryd.func4.symm.trans hfn)).symm
  refine ⟨by kernel_rfl, fun j t ht => ?_⟩
  rw [Tryd.params4] at ht
  have hm := Array.mem_of_getElem? ht
  have g2 : Tryd.prog.wantsStandIn 2 = false := by kernel_rfl
  have g4 : Tryd.prog.wantsStandIn 4 = false := by kernel_rfl
  have g9 : Tryd.prog.wantsStandIn 9 = false := by kernel_rfl
  simp only [List.mem_toArray, List.mem_cons, List.not_mem_nil, or_false] at hm
  rcases hm with rfl | rfl | rfl | rfl
  · exact g2
  · exact g4
  · exact g9
  · exact g9
end Go.Proofs.YtjaibjdhfljmmaaDoor.Signed

namespace Go.Proofs.YtjaibjdhfljmmaaDoor
/-- THE STATEMENT: FnAsNumberReadsSignedIntegerNumeral's tied card. -/
theorem signed_card : Rows.FnAsNumberReadsSignedIntegerNumeralCardSaid :=
  Claim7.holds_tied_plain_at .later [] _ _ _ _ Signed.said (fun _ h => by cases h) (by kernel_rfl) (fun _ h => by cases h) fnAsNumberReadsSignedIntegerNumeral_row_tie rfl ⟨rfl, rfl⟩ (by kernel_rfl) rfl Signed.plain (by kernel_rfl)
#print axioms signed_card
end Go.Proofs.YtjaibjdhfljmmaaDoor
