/-
  The walk of FnNewTableLastWriteWins: for every argument the call returns true and turns nothing that was there.
-/
import Derived.Test.YtbgolkdhcgjfkaaGreatDoorAfter
namespace Go.Proofs.YtbgolkdhcgjfkaaGreatDoor
open Go.RowKit
set_option maxRecDepth 100000
set_option maxHeartbeats 400000

theorem last_any (a : Option Addr) (n cn : Nat) (ik : List Int) (b : Option Addr) (m cm : Nat) (iv : List Int) (c : Option Addr) (l cl : Nat) (ss : List ByteArray) (w : World)
    (h1 : IsRow .i32 w a n cn ik) (h2 : IsRow .i32 w b m cm iv) (h3 : IsTexts w c l cl ss) :
    Calls Tryz.prog 5 #[.slice a n cn, .slice b m cm, .slice c l cl] w fun e w' => e = .returned (.bool true) ∧ Below w.heap.size w w' := by
  have HB := Lib.hid (bytes13 a b c n m l cn cm cl ss w h3)
  have HS := Lib.hid (fun q1 q2 q3 q4 => script_bytes a b c n m l cn cm cl ss w h3 q1 q2 q3 q4)
  have HK := Lib.hid (fun q => keys_bound a n cn ik w h1 q)
  have H1 := Lib.hid h1
  have H2 := Lib.hid h2
  have H3 := Lib.hid h3
  clear h1 h2 h3
  go_enter Tryz.func5, Tryz.ntmps5
  go_wp2_with fail
  refine HB.out.mono ?_
  rintro e w' ⟨⟨r, rfl, hr⟩, rfl⟩
  cases r with
  | false =>
    clear hr
    go_wp2_with fail
    go_ret
    exact ⟨rfl, Below.refl _ _⟩
  | true =>
    obtain ⟨q1, q2, q3, q4⟩ := hr rfl
    have HS' := Lib.hid (HS.out q1 q2 q3 q4)
    have q4' := Lib.hid q4
    clear hr HS q4
    go_wp2_with fail
    refine HS'.out.mono ?_
    rintro e w' ⟨⟨z, rfl⟩, rfl⟩
    clear HS'
    by_cases hz : (1048576 : Int) < z
    · go_wp2_with fail
      go_ret
      exact ⟨rfl, Below.refl _ _⟩
    by_cases g1 : (4096 : Int) < n
    · go_wp2_with fail
      go_ret
      exact ⟨rfl, Below.refl _ _⟩
    by_cases g2 : (4096 : Int) < m
    · go_wp2_with fail
      go_ret
      exact ⟨rfl, Below.refl _ _⟩
    by_cases g3 : (4096 : Int) < l
    · go_wp2_with fail
      go_ret
      exact ⟨rfl, Below.refl _ _⟩
    have HK' := Lib.hid (HK.out (by omega))
    go_wp2_with fail
    refine HK'.out.mono ?_
    rintro e w' ⟨⟨r, rfl, hr⟩, rfl⟩
    clear HK HK'
    cases r with
    | false =>
      clear hr
      go_wp2_with fail
      go_ret
      exact ⟨rfl, Below.refl _ _⟩
    | true =>
      have hb := Lib.hid (keys_take H1.out.le (hr rfl))
      have hss := Lib.hid (texts_take H3.out.le q4'.out)
      have hC1 := Lib.hid (copy_any a n cn ik w (by omega) H1.out)
      clear hr
      go_wp2_with fail
      refine hC1.out.mono ?_
      rintro e w1 ⟨v1, rfl, hc1⟩
      have hC2 := Lib.hid (copy_any b m cm iv w1 (by omega) (H2.out.below (hc1.row H1.out.le).2.2))
      have hc1' := Lib.hid hc1
      clear hc1 hC1
      go_wp2_with fail
      refine hC2.out.mono ?_
      rintro e w2 ⟨v2, rfl, hc2⟩
      have hC3 := Lib.hid (copy_anyT c l cl ss w2 (by omega) ((H3.out.below (hc1'.out.row H1.out.le).2.2).below (hc2.row H2.out.le).2.2))
      have hc2' := Lib.hid hc2
      clear hc2 hC2
      go_wp2_with fail
      refine hC3.out.mono ?_
      rintro e w3 ⟨v3, rfl, hc3⟩
      have HR := Lib.hid (Rows.mk' hc1'.out hc2'.out hc3 H1.out.le H2.out.le H3.out.le)
      have hK : Hid ((ik.take n).length ≤ 4096) := Lib.hid (by simp; omega)
      have hV : Hid ((iv.take m).length ≤ 4096) := Lib.hid (by simp; omega)
      have hL : Hid ((ss.take l).length ≤ 4096) := Lib.hid (by simp; omega)
      have HN := Lib.hid (newtable none w3)
      clear hc1' hc2' hc3 hC3 H1 H2 H3
      go_wp2_with fail
      refine HN.out.mono ?_
      rintro e w4 ⟨rfl, hn4, hb4⟩
      have HA := Lib.hid (Rows.apply HR.out hb4 (Scripted.new hn4) (fun k hk => Nat.le_trans hb4.size hk) (fun k hk => hk) hK.out hV.out hL.out hb.out)
      clear hn4 hb4 HN
      go_wp2_with fail
      refine HA.out.mono ?_
      rintro e w5 ⟨rfl, hk5, hs5, hb5⟩
      have HM := Lib.hid (Rows.matches HR.out hb5 hs5 hK.out hV.out hL.out hb.out hss.out)
      have hb5' := Lib.hid (HR.out.below hb5).b
      clear HA hk5 hs5 hb5
      go_wp2_with fail
      refine HM.out.mono ?_
      rintro e w6 ⟨rfl, hb6⟩
      have hfin := Lib.hid (hb5'.out.trans (hb6.mono hb5'.out.size))
      clear HM hb6
      go_wp2_with fail
      go_ret
      exact ⟨rfl, hfin.out⟩
end Go.Proofs.YtbgolkdhcgjfkaaGreatDoor
