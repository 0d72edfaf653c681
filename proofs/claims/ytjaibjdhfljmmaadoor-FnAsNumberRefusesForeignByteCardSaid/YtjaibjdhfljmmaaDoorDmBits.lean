/-
  floatBits: it returns.
-/
import Derived.Test.YtjaibjdhfljmmaaDoorDmBitsE
namespace Go.Proofs.YtjaibjdhfljmmaaDoor
open Go.RowKit
set_option maxRecDepth 1000000
set_option maxHeartbeats 4000000

theorem fb_any (B nd : Nat) (dp : Int) (d : Nat → Int) (w : World) (hF : F64 w) (h5 : 11 < B) (hD : Dm w B nd dp d) (hL : 0 < nd → Lead d nd) (hC : Cheats B w) (hP : Pows B w) :
    Calls Tryd.prog 55 #[.pointer (some ⟨B, 0, none⟩), .pointer (some ⟨5, 0, none⟩)] w fun e w' => FbR B w e w' := by
  have c1 := hD.cnd
  have c2 := hD.cdp
  have hFh := Lib.hid hF
  have hDh := Lib.hid hD
  have hLh := Lib.hid hL
  have hCh := Lib.hid hC
  have hPh := Lib.hid hP
  obtain ⟨f0, f1, f2⟩ := hF
  clear hD hL hC hP
  go_enter Tryd.func55, Tryd.ntmps55
  go_wp2_with fail
  refine wp_scope_fwd (c := fbStmt 0) ?_
  conv => arg 2; whnf
  by_cases h0 : nd = 0
  · subst h0
    go_wp2_with fail
    go_step3
    exact fb_goto0 B w w hFh.out hDh.out.cng (Below.refl _ _) false _ _ _ _ _ _ _ _ _ _ _ _ _ _ _ _ _ _ _ _ _ _ _ _ _ _ _ _ _ _ _ _ _ _ _ _ _ _ _ _ _ _ _ _ _ _ _ _ _ _ _ _ _ _ _ _ _ _ _ _ _ _ _ _ _ _ _ _ _ _ _ _ _ _ _ _ _ _ _ _ _ _ _ _ _ _ _ _ _ _ _ _ _ _ _ _ _ _ _ _ _ _ _ _ _ _ _ _ _ _ _ _ _ _ _ _ _ _ _ _ _ _ _ _ _ _ _ _ _ _ _ _ _ _ _ _ _ _ _ _ _ _ _ _ _ _ _ _ _ _ _ _ _ _ _ _ _ _ _ _ _ _ _ _ _ _ _ _ _ _ _ _ _ _ _ _ _ _ _ _ _ _ _ _ _ _ _ _ _ _ _ _ _ _ _ _ _ _ _ _ _ _ _ _ _ _ _ _ _ _ _ _ _ _ _ _ _ _ _ _ _ _ _ _ _ _ _ _ _ _ _ _ _ _ _ _ _ _ _ _
  · have hn' : ((nd : Int) == 0) = false := by simp; omega
    by_cases hp1 : 310 < dp
    · go_wp2_with fail
      go_step3
      exact fb_goto1 B w w hFh.out hDh.out.cng (Below.refl _ _) _ _ _ _ _ _ _ _ _ _ _ _ _ _ _ _ _ _ _ _ _ _ _ _ _ _ _ _ _ _ _ _ _ _ _ _ _ _ _ _ _ _ _ _ _ _ _ _ _ _ _ _ _ _ _ _ _ _ _ _ _ _ _ _ _ _ _ _ _ _ _ _ _ _ _ _ _ _ _ _ _ _ _ _ _ _ _ _ _ _ _ _ _ _ _ _ _ _ _ _ _ _ _ _ _ _ _ _ _ _ _ _ _ _ _ _ _ _ _ _ _ _ _ _ _ _ _ _ _ _ _ _ _ _ _ _ _ _ _ _ _ _ _ _ _ _ _ _ _ _ _ _ _ _ _ _ _ _ _ _ _ _ _ _ _ _ _ _ _ _ _ _ _ _ _ _ _ _ _ _ _ _ _ _ _ _ _ _ _ _ _ _ _ _ _ _ _ _ _ _ _ _ _ _ _ _ _ _ _ _ _ _ _ _ _ _ _ _ _ _ _ _ _ _ _ _ _ _ _ _ _ _ _ _ _ _ _ _ _ _ _
    · by_cases hp2 : dp < -330
      · go_wp2_with fail
        go_step3
        exact fb_goto0 B w w hFh.out hDh.out.cng (Below.refl _ _) false _ _ _ _ _ _ _ _ _ _ _ _ _ _ _ _ _ _ _ _ _ _ _ _ _ _ _ _ _ _ _ _ _ _ _ _ _ _ _ _ _ _ _ _ _ _ _ _ _ _ _ _ _ _ _ _ _ _ _ _ _ _ _ _ _ _ _ _ _ _ _ _ _ _ _ _ _ _ _ _ _ _ _ _ _ _ _ _ _ _ _ _ _ _ _ _ _ _ _ _ _ _ _ _ _ _ _ _ _ _ _ _ _ _ _ _ _ _ _ _ _ _ _ _ _ _ _ _ _ _ _ _ _ _ _ _ _ _ _ _ _ _ _ _ _ _ _ _ _ _ _ _ _ _ _ _ _ _ _ _ _ _ _ _ _ _ _ _ _ _ _ _ _ _ _ _ _ _ _ _ _ _ _ _ _ _ _ _ _ _ _ _ _ _ _ _ _ _ _ _ _ _ _ _ _ _ _ _ _ _ _ _ _ _ _ _ _ _ _ _ _ _ _ _ _ _ _ _ _ _ _ _ _ _ _ _ _ _ _ _
      · go_upto_region 10 with fail
        go_cut [6] from 8 (fun e wx => e = .int .i64 0 ∧ Hid (w = wx))
        case first =>
          go_wp2_with fail
          go_meet
          case rel => exact ⟨rfl, Lib.hid rfl⟩
        case rest =>
          obtain ⟨rfl, hX⟩ := hcut
          have hX' := hX.out
          subst hX'
          rename_i K9 hk9
          apply hk9
          exact fb_high B nd dp d w w hFh.out h5 (by omega) hDh.out (hLh.out (by omega)) hCh.out (Below.refl _ _) hPh.out (by omega) _ _ _ _ _ _ _ _ _ _ _ _ _ _ _ _ _ _ _ _ _ _ _ _ _ _ _ _ _ _ _ _ _ _ _ _ _ _ _ _ _ _ _ _ _ _ _ _ _ _ _ _ _ _ _ _ _ _ _ _ _ _ _ _ _ _ _ _ _ _ _ _ _ _ _ _ _ _ _ _ _ _ _ _ _ _ _ _ _ _ _ _ _ _ _ _ _ _ _ _ _ _ _ _ _ _ _ _ _ _ _ _ _ _ _ _ _ _ _ _ _ _ _ _ _ _ _ _ _ _ _ _ _ _ _ _ _ _ _ _ _ _ _ _ _ _ _ _ _ _ _ _ _ _ _ _ _ _ _ _ _ _ _ _ _ _ _ _ _ _ _ _ _ _ _ _ _ _ _ _ _ _ _ _ _ _ _ _ _ _ _ _ _ _ _ _ _ _ _ _ _ _ _ _ _ _ _ _ _ _ _ _ _ _ _ _ _ _ _ _ _ _ _ _ _ _ _ _ _ _ _ _ _ _ _ _ _ _ _
end Go.Proofs.YtjaibjdhfljmmaaDoor
