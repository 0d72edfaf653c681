/-
  The walk of FnCreateTableCapacityIsOnlyAHint: for every argument the call returns true and turns nothing that was there.
-/
import Derived.Test.YtbgolkdhcgjfkaaGreatDoorAfter
namespace Go.Proofs.YtbgolkdhcgjfkaaGreatDoor
open Go.RowKit
set_option maxRecDepth 100000
set_option maxHeartbeats 400000

theorem cap_any (ac hc : Int) (a : Option Addr) (n cn : Nat) (ik : List Int) (b : Option Addr) (m cm : Nat) (iv : List Int) (c : Option Addr) (l cl : Nat) (ss : List ByteArray) (w : World)
    (h1 : IsRow .i32 w a n cn ik) (h2 : IsRow .i32 w b m cm iv) (h3 : IsTexts w c l cl ss) :
    Calls Tryz.prog 6 #[.int .i64 ac, .int .i64 hc, .slice a n cn, .slice b m cm, .slice c l cl] w fun e w' => e = .returned (.bool true) ∧ Below w.heap.size w w' := by
  have HB := Lib.hid (bytes20 ac hc a b c n m l cn cm cl ss w h3)
  have HS := Lib.hid (fun q1 q2 q3 q4 => script_bytes a b c n m l cn cm cl ss w h3 q1 q2 q3 q4)
  have HK := Lib.hid (fun q => keys_bound a n cn ik w h1 q)
  have H1 := Lib.hid h1
  have H2 := Lib.hid h2
  have H3 := Lib.hid h3
  clear h1 h2 h3
  go_enter Tryz.func6, Tryz.ntmps6
  go_wp2_with fail
  refine HB.out.mono ?_
  rintro e w' ⟨⟨r, rfl, hr⟩, rfl⟩
  cases r with
  | false =>
    clear hr
    go_wp2_with fail
    go_ret
    exact ⟨rfl, Below.refl _ _⟩
  | true =>
    obtain ⟨q1, q2, q3, q4⟩ := hr rfl
    have HS' := Lib.hid (HS.out q1 q2 q3 q4)
    have q4' := Lib.hid q4
    clear hr HS q4
    go_wp2_with fail
    refine HS'.out.mono ?_
    rintro e w' ⟨⟨z, rfl⟩, rfl⟩
    clear HS'
    by_cases hz : (1048576 : Int) < z
    · go_wp2_with fail
      go_ret
      exact ⟨rfl, Below.refl _ _⟩
    by_cases g1 : (4096 : Int) < n
    · go_wp2_with fail
      go_ret
      exact ⟨rfl, Below.refl _ _⟩
    by_cases g2 : (4096 : Int) < m
    · go_wp2_with fail
      go_ret
      exact ⟨rfl, Below.refl _ _⟩
    by_cases g3 : (4096 : Int) < l
    · go_wp2_with fail
      go_ret
      exact ⟨rfl, Below.refl _ _⟩
    by_cases g4 : 65536 < ac
    · go_wp2_with fail
      go_ret
      exact ⟨rfl, Below.refl _ _⟩
    by_cases g5 : 65536 < hc
    · go_wp2_with fail
      go_ret
      exact ⟨rfl, Below.refl _ _⟩
    have HK' := Lib.hid (HK.out (by omega))
    go_wp2_with fail
    refine HK'.out.mono ?_
    rintro e w' ⟨⟨r, rfl, hr⟩, rfl⟩
    clear HK HK'
    cases r with
    | false =>
      clear hr
      go_wp2_with fail
      go_ret
      exact ⟨rfl, Below.refl _ _⟩
    | true =>
      have hb := Lib.hid (keys_take H1.out.le (hr rfl))
      have hss := Lib.hid (texts_take H3.out.le q4'.out)
      have hC1 := Lib.hid (copy_any a n cn ik w (by omega) H1.out)
      clear hr
      go_wp2_with fail
      refine hC1.out.mono ?_
      rintro e w1 ⟨v1, rfl, hc1⟩
      have hC2 := Lib.hid (copy_any b m cm iv w1 (by omega) (H2.out.below (hc1.row H1.out.le).2.2))
      have hc1' := Lib.hid hc1
      clear hc1 hC1
      go_wp2_with fail
      refine hC2.out.mono ?_
      rintro e w2 ⟨v2, rfl, hc2⟩
      have hC3 := Lib.hid (copy_anyT c l cl ss w2 (by omega) ((H3.out.below (hc1'.out.row H1.out.le).2.2).below (hc2.row H2.out.le).2.2))
      have hc2' := Lib.hid hc2
      clear hc2 hC2
      go_wp2_with fail
      refine hC3.out.mono ?_
      rintro e w3 ⟨v3, rfl, hc3⟩
      have HR := Lib.hid (Rows.mk' hc1'.out hc2'.out hc3 H1.out.le H2.out.le H3.out.le)
      have hK : Hid ((ik.take n).length ≤ 4096) := Lib.hid (by simp; omega)
      have hV : Hid ((iv.take m).length ≤ 4096) := Lib.hid (by simp; omega)
      have hL : Hid ((ss.take l).length ≤ 4096) := Lib.hid (by simp; omega)
      have HN := Lib.hid (createtable none ac hc w3 (by omega))
      have HO := Lib.hid (fun W : World => createtable none 0 0 W (by omega))
      clear hc1' hc2' hc3 hC3 H1 H2 H3
      go_wp2_with fail
      refine HN.out.mono ?_
      rintro e w4 ⟨rfl, hn4, hb4⟩
      clear HN
      go_wp2_with fail
      refine (HO.out w4).mono ?_
      rintro e w5 ⟨rfl, hn5, hb5⟩
      clear HO
      have z4 := hb4.size
      have z5 := hb5.size
      have t1 : Scripted w5 w3.heap.size (fun k => (w3.heap.size ≤ k ∧ k < w4.heap.size) ∨ w5.heap.size ≤ k) [] [] 0 :=
        (Scripted.new hn4).keep (S := fun _ => False) (Keeps.of_below hb5) (fun _ _ h => h.elim) (fun k h1 h2 => Or.inl ⟨h2, h1⟩)
      have t2 : Scripted w5 w4.heap.size (fun k => w4.heap.size ≤ k ∧ k < w5.heap.size) [] [] 0 :=
        (Scripted.new hn5).keep (S := fun _ => False) (Keeps.refl _ _) (fun _ _ h => h.elim) (fun k h1 h2 => ⟨h2, h1⟩)
      have hb35 := hb4.trans (hb5.mono z4)
      have HA := Lib.hid (Rows.apply HR.out hb35 t1 (fun k hk => Or.inr hk) (fun k hk => by rcases hk with hk | hk <;> omega) hK.out hV.out hL.out hb.out)
      have z5' := Lib.hid z5
      have z4' := Lib.hid z4
      have t2' := Lib.hid t2
      clear hn4 hb4 hn5 hb5 t1 hb35 z4 z5 t2
      go_wp2_with fail
      refine HA.out.mono ?_
      rintro e w6 ⟨rfl, hk6, hs6, hb6⟩
      have z6 := hk6.size
      have t2 : Scripted w6 w4.heap.size (fun k => (w4.heap.size ≤ k ∧ k < w5.heap.size) ∨ w6.heap.size ≤ k) [] [] 0 :=
        t2'.out.keep hk6 (fun k h1 h2 h3 => by have := z4'.out; rcases h2 with h2 | h2 <;> omega) (fun k h1 h2 => Or.inl h2)
      have HA2 := Lib.hid (Rows.apply HR.out hb6 t2 (fun k hk => Or.inr hk) (fun k hk => by have := z4'.out; have := z5'.out; rcases hk with hk | hk <;> omega) hK.out hV.out hL.out hb.out)
      have hs6' := Lib.hid hs6
      have z6' := Lib.hid z6
      clear HA hk6 hs6 hb6 z6 t2
      go_wp2_with fail
      refine HA2.out.mono ?_
      rintro e w7 ⟨rfl, hk7, hs7, hb7⟩
      have t1 : Scripted w7 w3.heap.size (fun _ => True) ((ik.take n).zip (iv.take m)) (ss.take l) 8192 :=
        hs6'.out.keep hk7 (fun k h1 h2 h3 => by have := z4'.out; have := z5'.out; rcases h2 with h2 | h2 <;> rcases h3 with h3 | h3 <;> omega) (fun _ _ _ => trivial)
      have HM := Lib.hid (Rows.matches HR.out hb7 t1 hK.out hV.out hL.out hb.out hss.out)
      have t1' := Lib.hid t1
      have hs7' := Lib.hid hs7
      have hb7' := Lib.hid hb7
      clear HA2 hs6' hk7 hs7 hb7 t1
      go_wp2_with fail
      refine HM.out.mono ?_
      rintro e w8 ⟨rfl, hb8⟩
      have k8 := Keeps.of_below (S := fun _ => False) hb8
      have t1 : Scripted w8 w3.heap.size (fun _ => True) ((ik.take n).zip (iv.take m)) (ss.take l) 8192 := t1'.out.keep k8 (fun _ _ h => h.elim) (fun _ _ h => h)
      have t2 : Scripted w8 w4.heap.size (fun _ => True) ((ik.take n).zip (iv.take m)) (ss.take l) 8192 := hs7'.out.keep k8 (fun _ _ h => h.elim) (fun _ _ _ => trivial)
      have hb38 := hb7'.out.trans (hb8.mono hb7'.out.size)
      have HM2 := Lib.hid (Rows.matches HR.out hb38 t2 hK.out hV.out hL.out hb.out hss.out)
      have t1'' := Lib.hid t1
      have t2'' := Lib.hid t2
      have hb38' := Lib.hid hb38
      clear HM t1' hs7' hb7' hb8 k8 t1 t2 hb38
      go_wp2_with fail
      refine HM2.out.mono ?_
      rintro e w9 ⟨rfl, hb9⟩
      have k9 := Keeps.of_below (S := fun _ => False) hb9
      have t1 : Scripted w9 w3.heap.size (fun _ => True) ((ik.take n).zip (iv.take m)) (ss.take l) 8192 := t1''.out.keep k9 (fun _ _ h => h.elim) (fun _ _ h => h)
      have t2 : Scripted w9 w4.heap.size (fun _ => True) ((ik.take n).zip (iv.take m)) (ss.take l) 8192 := t2''.out.keep k9 (fun _ _ h => h.elim) (fun _ _ _ => trivial)
      have hps : ∀ p ∈ (ik.take n).zip (iv.take m), p.1 ≤ 65536 := fun p hp => (hb.out p.1 (List.of_mem_zip hp).1).2
      have HL1 := Lib.hid (t1.len hps)
      have HL2 := Lib.hid (t2.len hps)
      have HX1 := Lib.hid (t1.maxn hps)
      have HX2 := Lib.hid (t2.maxn hps)
      have hfin := Lib.hid ((HR.out.below hb38'.out).b.trans (hb9.mono (HR.out.below hb38'.out).b.size))
      clear HM2 hb9 k9 t1 t2 hps t1'' t2'' hb38'
      go_wp2_with fail
      refine HL1.out.mono ?_
      rintro e w' ⟨rfl, rfl⟩
      clear HL1
      go_wp2_with fail
      refine HL2.out.mono ?_
      rintro e w' ⟨rfl, rfl⟩
      clear HL2
      go_wp2_with fail
      refine HX1.out.mono ?_
      rintro e w' ⟨rfl, rfl⟩
      clear HX1
      go_wp2_with fail
      refine HX2.out.mono ?_
      rintro e w' ⟨rfl, rfl⟩
      clear HX2
      go_wp2_with fail
      go_ret
      exact ⟨rfl, hfin.out⟩
end Go.Proofs.YtbgolkdhcgjfkaaGreatDoor
