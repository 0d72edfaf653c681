/-
  What the listed package-level variables hold, out of the row's premise on them: the two sentinels hold an error each.
-/
import Derived.Test.YtjaibjdhfljmmaaDoorRows
import Derived.Test.YtjaibjdhfljmmaaDoorErr
import Derived.LaidLaws
import Derived.FnData
namespace Go.Proofs.YtjaibjdhfljmmaaDoor
open Go.RowKit
set_option maxRecDepth 100000

theorem laid_at {P : Program} {w : World} {n : String} {d : DataW Unit} : ∀ {l : List (String × DataW Unit)} {ps : List MemPlace}, DataW.LaidVars P w l ps → (n, d) ∈ l →
    ∃ g t cs f p, P.globalNamed n = some g ∧ (P.globals[g]?).map (·.type) = some t ∧ w.var? P n = some cs ∧ DataW.trod (fun _ => ()) P w 0 (fun _ => true) false f t cs.toList = some (d, p) ∧ ∀ x ∈ MemPlace.row ⟨g, 0, none⟩ cs.size ++ p, x ∈ ps
  | [], _, _, hm => by cases hm
  | (n', d') :: r, ps, h, hm => by
    obtain ⟨g, t, cs, f, p, q, hg, ht, hv, hd, hq, rfl⟩ := h
    rcases List.mem_cons.1 hm with e | hm
    · cases e
      exact ⟨g, t, cs, f, p, hg, ht, hv, hd, fun x hx => List.mem_append_left _ hx⟩
    · obtain ⟨g', t', cs', f', p', h1, h2, h3, h4, h5⟩ := laid_at hq hm
      exact ⟨g', t', cs', f', p', h1, h2, h3, h4, fun x hx => List.mem_append_right _ (h5 x hx)⟩

theorem Tryd.gSyn : Tryd.prog.globalNamed "strconv.ErrSyntax" = some 1 := by kernel_rfl
theorem Tryd.gRan : Tryd.prog.globalNamed "strconv.ErrRange" = some 2 := by kernel_rfl
theorem Tryd.tSyn : (Tryd.prog.globals[1]?).map (·.type) = some 37 := by kernel_rfl
theorem Tryd.tRan : (Tryd.prog.globals[2]?).map (·.type) = some 37 := by kernel_rfl

theorem errs_laid {W : World} {l : List (String × DataW Unit)} (hL : laidMet Tryd.prog l W) (h1 : ("strconv.ErrSyntax", Rows.laid_strconv_ErrSyntax) ∈ l) (h2 : ("strconv.ErrRange", Rows.laid_strconv_ErrRange) ∈ l) : Errs W := by
  obtain ⟨ps, hv, _, _⟩ := hL
  obtain ⟨g, t, cs, f, p, hg, ht, hvar, hd, _⟩ := laid_at hv h1
  obtain ⟨g', t', cs', f', p', hg', ht', hvar', hd', _⟩ := laid_at hv h2
  obtain rfl := Option.some.inj (Tryd.gSyn.symm.trans hg)
  obtain rfl := Option.some.inj (Tryd.gRan.symm.trans hg')
  obtain rfl := Option.some.inj (Tryd.tSyn.symm.trans ht)
  obtain rfl := Option.some.inj (Tryd.tRan.symm.trans ht')
  obtain ⟨_, u, v, hc, _⟩ := iface_of_trod Tryd.underlying37 hd
  obtain ⟨_, u', v', hc', _⟩ := iface_of_trod Tryd.underlying37 hd'
  refine ⟨⟨u, v, ?_⟩, u', v', ?_⟩
  · rw [World.var?_cell hg hvar 0]
    obtain ⟨c⟩ := cs
    have hc : c = [.iface u v] := hc
    subst hc
    rfl
  · rw [World.var?_cell hg' hvar' 0]
    obtain ⟨c⟩ := cs'
    have hc' : c = [.iface u' v'] := hc'
    subst hc'
    rfl

theorem errs_nan {W : World} (hL : laidMet Tryd.prog Rows.fnLnumberValueNonNumeralIsNaNRow.laid W) : Errs W := by
  refine errs_laid hL ?_ ?_
  all_goals (unfold Rows.fnLnumberValueNonNumeralIsNaNRow; repeat (first | exact List.mem_cons_self | apply List.mem_cons_of_mem))
theorem errs_dec {W : World} (hL : laidMet Tryd.prog Rows.fnLnumberValueDecimalIntegerRow.laid W) : Errs W := by
  refine errs_laid hL ?_ ?_
  all_goals (unfold Rows.fnLnumberValueDecimalIntegerRow; repeat (first | exact List.mem_cons_self | apply List.mem_cons_of_mem))
theorem errs_sgn {W : World} (hL : laidMet Tryd.prog Rows.fnAsNumberReadsSignedIntegerNumeralRow.laid W) : Errs W := by
  refine errs_laid hL ?_ ?_
  all_goals (unfold Rows.fnAsNumberReadsSignedIntegerNumeralRow; repeat (first | exact List.mem_cons_self | apply List.mem_cons_of_mem))
theorem errs_for {W : World} (hL : laidMet Tryd.prog Rows.fnAsNumberRefusesForeignByteRow.laid W) : Errs W := by
  refine errs_laid hL ?_ ?_
  all_goals (unfold Rows.fnAsNumberRefusesForeignByteRow; repeat (first | exact List.mem_cons_self | apply List.mem_cons_of_mem))
end Go.Proofs.YtjaibjdhfljmmaaDoor
