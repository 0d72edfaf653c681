/-
  NewTable, CreateTable, emptyTable, freshPair.
-/
import Derived.Test.YtbgolkdhcgjfkaaGreatDoorNew
import Derived.LaidEqlPtr
namespace Go.Proofs.YtbgolkdhcgjfkaaGreatDoor
open Go.RowKit
set_option maxRecDepth 100000
set_option maxHeartbeats 400000
attribute [local go_sem] sl_nil sl_some m45_nil m45_some m46_nil m46_some i_nn i_bn j_nn j_bn

theorem newtable (p : Option Addr) (w : World) :
    Calls Tryz.prog 8 #[.pointer p] w fun e w' => e = .returned (.pointer (some ⟨w.heap.size, 0, none⟩)) ∧ NewT w w' w.heap.size ∧ Below w.heap.size w w' := by
  have H := Lib.hid (newtab 32 32 w (by omega))
  go_enter Tryz.func8, Tryz.ntmps8
  go_wp2_with fail
  refine H.out.mono ?_
  rintro e w' ⟨rfl, hn, hb⟩
  go_wp2_with fail
  go_ret
  exact ⟨rfl, hn, hb⟩

theorem createtable (p : Option Addr) (acap hcap : Int) (w : World) (ha : acap ≤ 65536) :
    Calls Tryz.prog 12 #[.pointer p, .int .i64 acap, .int .i64 hcap] w fun e w' => e = .returned (.pointer (some ⟨w.heap.size, 0, none⟩)) ∧ NewT w w' w.heap.size ∧ Below w.heap.size w w' := by
  have H := Lib.hid (newtab acap hcap w ha)
  go_enter Tryz.func12, Tryz.ntmps12
  go_wp2_with fail
  refine H.out.mono ?_
  rintro e w' ⟨rfl, hn, hb⟩
  go_wp2_with fail
  go_ret
  exact ⟨rfl, hn, hb⟩

section
variable {w w' : World} {T : Nat} {G : Nat → Prop} {av dv sv kv iv : Value} {xs : List Value} {cd cs : Value → Option Value} {ks : List Value}

theorem TabV.same (h : TabV w T av dv sv kv iv xs cd cs ks) (hs : SameW w w') : TabV w' T av dv sv kv iv xs cd cs ks :=
  h.keep (hs.keeps (S := fun _ => False)) id (fun _ _ => id) (fun _ _ => id) (fun _ _ => id) (fun _ _ => id) (fun _ _ => id)

theorem TabF.shrink (h : TabF w T G av dv sv kv iv xs cd cs ks) : TabF w T (fun k => G k ∧ k < w.heap.size) av dv sv kv iv xs cd cs ks := by
  obtain ⟨l1, l2, l3, l4, l5, l6⟩ := h.tab.lt
  exact ⟨h.tab, ⟨h.gT, l6⟩, fun k e => ⟨h.gA k e, l1 k e⟩, fun k e => ⟨h.gK k e, l2 k e⟩, fun k e => ⟨h.gD k e, l3 k e⟩, fun k e => ⟨h.gS k e, l4 k e⟩, fun k e => ⟨h.gI k e, l5 k e⟩, h.ak, h.ds, h.di, h.si⟩

/-- emptyTable: true at a new table. -/
theorem empty_yes (h : TabV w T av (.map none) sv kv iv [] cd (fun _ => none) ks) (k : Int) (s : ByteArray) :
    Calls Tryz.prog 9 #[.pointer (some ⟨T, 0, none⟩), .int .i64 k, .string s] w fun e w' => e = .returned (.bool true) ∧ SameW w w' := by
  have f0 : w.cell? ⟨T, 0, none⟩ = some LNIL := by rw [cell_of h.cells]; rfl
  have HI := Lib.hid (fun W : World => isnil_nil W)
  have HL := Lib.hid (len_any h (by simp) (by simp))
  have HM := Lib.hid (maxn_any h (by simp) (by simp))
  have HR := Lib.hid (rgint_empty h k)
  have HG := Lib.hid (getint_empty h k)
  have HS := Lib.hid (fun W hs => rgstr_any (w := W) (h.same hs) s)
  clear h
  go_enter Tryz.func9, Tryz.ntmps9
  go_wp2_with (first
    | (go_at_call 24; refine (HI.out _).mono ?_; rintro e w' ⟨rfl, rfl⟩)
    | (go_at_call 21; refine HL.out.mono ?_; rintro e w' ⟨rfl, rfl⟩)
    | (go_at_call 22; refine HM.out.mono ?_; rintro e w' ⟨rfl, rfl⟩)
    | (go_at_call 25; refine HR.out.mono ?_; rintro e w' ⟨rfl, rfl⟩)
    | (go_at_call 26; refine HG.out.mono ?_; rintro e w1 ⟨rfl, hs1⟩)
    | (go_at_call 27; refine (HS.out _ hs1).mono ?_; rintro e w' ⟨rfl, rfl⟩))
  go_ret
  exact ⟨rfl, hs1⟩

theorem c1 : (4607182418800017408 : Nat) = floatOfInt .f64 1 := by kernel_rfl
theorem c2 : (4611686018427387904 : Nat) = floatOfInt .f64 2 := by kernel_rfl
theorem numis1 (w : World) : Calls Tryz.prog 30 #[NUM 4607182418800017408, .int .i32 1] w fun e w' => e = .returned (.bool true) ∧ w = w' := by
  have := numis_yes 1 w
  rw [← c1] at this
  exact this
theorem numis2 (w : World) : Calls Tryz.prog 30 #[NUM 4611686018427387904, .int .i32 2] w fun e w' => e = .returned (.bool true) ∧ w = w' := by
  have := numis_yes 2 w
  rw [← c2] at this
  exact this
theorem put_same (c : Value → Option Value) (k v : Value) : put c k v k = some v := if_pos rfl

theorem Tryz.size49 : (Tryz.prog.info? 49).map (fun i => i.size) = some 6 := by kernel_rfl

/-- freshPair: true at two new tables that share no block. -/
theorem fresh_yes {Tb : Nat} {Ga Gb : Nat → Prop} {avb dvb svb kvb ivb : Value} {cdb : Value → Option Value} {ksb : List Value}
    (ha : TabF w T Ga av dv sv kv iv [] cd cs []) (hb : TabF w Tb Gb avb dvb svb kvb ivb [] cdb (fun _ => none) ksb) (hd : ∀ k, Gb k → ¬ Ga k) (hG : ∀ k, w.heap.size ≤ k → Ga k) (s : ByteArray) :
    Calls Tryz.prog 10 #[.pointer (some ⟨T, 0, none⟩), .pointer (some ⟨Tb, 0, none⟩), .string s] w fun e w' => e = .returned (.bool true) ∧ Keeps Ga w w' := by
  have hne : T ≠ Tb := fun e => hd Tb hb.gT (e ▸ ha.gT)
  have hp : (binOp .eql 24 (.pointer (some ⟨T, 0, none⟩)) (.pointer (some ⟨Tb, 0, none⟩))).run Tryz.prog w = .ok (.bool false) w := by
    obtain ⟨j, hj, hj2⟩ := Option.map_eq_some_iff.1 Tryz.size49
    exact run_eql_ptr_other w Tryz.underlying24 hj (by rw [hj2]; decide) (fun e => hne (by cases e; rfl)) ha.tab.cells hb.tab.cells
  have H1 := Lib.hid (rss_any ha hG s 4607182418800017408 (by simp))
  have H2 := Lib.hid (fun (W : World) sv' kv' iv' ks' (h : TabF W T Ga av dv sv' kv' iv' [] cd (put cs (.string s) (NUM 4607182418800017408)) ks') (hG : ∀ k, W.heap.size ≤ k → Ga k) => rsi_at h hG 4611686018427387904 1 (by simp) (by omega))
  have HI := Lib.hid (fun W : World => isnil_nil W)
  have HB := Lib.hid (fun (W : World) (hk : Keeps Ga w W) => (hb.tab.keep hk (hd _ hb.gT) (fun b e => hd _ (hb.gA b e)) (fun b e => hd _ (hb.gK b e)) (fun b e => hd _ (hb.gD b e)) (fun b e => hd _ (hb.gS b e)) (fun b e => hd _ (hb.gI b e)) : TabV W Tb avb dvb svb kvb ivb [] cdb (fun _ => none) ksb))
  have hN1 := numis1
  have hN2 := numis2
  have hN1' := Lib.hid hN1
  have hN2' := Lib.hid hN2
  have hG' := Lib.hid hG
  clear ha hb hd hG hN1 hN2
  go_enter Tryz.func10, Tryz.ntmps10
  go_wp2_with (first
    | (go_at_call 28; refine H1.out.mono ?_; rintro e w1 ⟨rfl, hk1, sv1, kv1, iv1, ks1, h1, _⟩
       have h1' := Lib.hid h1
       have hk1' := Lib.hid hk1
       clear h1 hk1)
    | (go_at_call 29; refine (H2.out _ _ _ _ _ h1'.out (fun k hk => hG'.out k (by have := hk1'.out.size; omega))).mono ?_; rintro e w2 ⟨rfl, hk2, av2, h2⟩
       have hk3 := hk1'.out.trans hk2 (fun _ _ h => h)
       have R1 := rgstr_any h2.tab s
       rw [put_same] at R1
       have R2 := rgint_at h2.tab 0 (NUM 4611686018427387904) rfl (by omega)
       have Rb1 := Lib.hid (rgstr_any (HB.out _ hk3) s)
       have Rb2 := Lib.hid (rgint_empty (HB.out _ hk3) 1)
       have Rb3 := Lib.hid (len_any (HB.out _ hk3) (by simp) (by simp))
       have R1' := Lib.hid R1
       have R2' := Lib.hid R2
       have hk3' := Lib.hid hk3
       clear R1 R2 h2 hk2 hk3)
    | (go_at_call 27; refine R1'.out.mono ?_; rintro e w' ⟨rfl, rfl⟩; clear R1')
    | (go_at_call 25; refine R2'.out.mono ?_; rintro e w' ⟨rfl, rfl⟩; clear R2')
    | (go_at_call 27; refine Rb1.out.mono ?_; rintro e w' ⟨rfl, rfl⟩)
    | (go_at_call 25; refine Rb2.out.mono ?_; rintro e w' ⟨rfl, rfl⟩)
    | (go_at_call 21; refine Rb3.out.mono ?_; rintro e w' ⟨rfl, rfl⟩)
    | (go_at_call 30; refine (hN1'.out _).mono ?_; rintro e w' ⟨rfl, rfl⟩; clear hN1')
    | (go_at_call 30; refine (hN2'.out _).mono ?_; rintro e w' ⟨rfl, rfl⟩)
    | (go_at_call 24; refine (HI.out _).mono ?_; rintro e w' ⟨rfl, rfl⟩))
  go_ret
  exact ⟨rfl, hk3'.out⟩
end
end Go.Proofs.YtbgolkdhcgjfkaaGreatDoor
