/-
  The walk of FnRegistryScriptMatchesModel: for every argument the call returns true and turns nothing that was there.
-/
import Derived.Test.YtdnomaafjmfdkaaGreatDoorPair
namespace Go.Proofs.YtdnomaafjmfdkaaGreatDoor
open Go.RowKit
set_option maxRecDepth 100000
set_option maxHeartbeats 400000

/-- Every number on the stack equals itself. -/
def OrdS (st : List Value) : Prop := ∀ v ∈ st, FloatKind.f64.format.order (numOf v) (numOf v) = some .eq

theorem OrdS.snoc {st : List Value} (h : OrdS st) (z : Int) : OrdS (st ++ [NUM (floatOfInt .f64 z)]) := by
  intro v hv
  rcases List.mem_append.1 hv with hv | hv
  · exact h v hv
  · simp at hv; subst hv; exact FPlain.ofInt_self z

theorem OrdS.init {st : List Value} {x : Value} (h : OrdS (st ++ [x])) : OrdS st := fun v hv => h v (List.mem_append_left _ hv)

theorem OrdS.toTop {st : List Value} (h : OrdS st) (t : Nat) : OrdS (toTop st t) := by
  intro v hv
  unfold YtdnomaafjmfdkaaGreatDoor.toTop at hv
  rcases List.mem_append.1 hv with hv | hv
  · exact h v (List.mem_of_mem_take hv)
  · rw [(List.mem_replicate.1 hv).2]; exact order0

theorem owns_le {w : World} {B : Nat} {e : TypeId} {G n c : Nat} {xs : List Value} (h : w.ownsRow B e 1 (.slice (some ⟨G, 0, none⟩) n c) n xs) : n ≤ c := by
  obtain ⟨h0, h2⟩ := h
  rcases h2 with ⟨h', _⟩ | ⟨g', cap', cur, hv, hb, hg, h3, r⟩
  · cases h'
  · cases hv
    exact h3

/-- A slice's length. -/
def lenOf : Value → Nat | .slice _ n _ => n | _ => 0

theorem take_next (f : Value → Value) (xs : List Value) (q : Nat) (v : Value) (h : xs[q]? = some v) : (xs.take (q + 1)).map f = (xs.take q).map f ++ [f v] := by
  rw [List.take_add_one, h]; simp

theorem script_main (n g m : Nat) (a : Option Addr) (len cap : Nat) (zs : List Int) (w : World) (hlen : len ≤ 65536) (hn : n ≤ 65536) (hg : g ≤ 1073741824) (hm1 : 4096 + len ≤ m) (hm2 : m ≤ 1048576) (hrow : IsRow .i32 w a len cap zs) :
    Calls Tryz.prog 7 #[.int .i64 n, .int .i64 g, .int .i64 m, .slice a len cap] w fun e w' => e = .returned (.bool true) ∧ Below w.heap.size w w' := by
  have HB := Lib.hid (bytes22_yes n g m a len cap w (by omega))
  have HP := Lib.hid (copy_any a len cap zs w (by omega) hrow)
  have hle := hrow.le
  have HN' := Lib.hid (fun W : World => newS n g m W hn)
  have g1 : ¬ (65536 : Int) < (len : Int) := by omega
  have g2 : ¬ (n : Int) < 0 := by omega
  have g3 : ¬ (65536 : Int) < (n : Int) := by omega
  have g4 : ¬ (g : Int) < 0 := by omega
  have g5 : ¬ (1073741824 : Int) < (g : Int) := by omega
  have g6 : ¬ (m : Int) < 4096 + (len : Int) := by omega
  have g7 : ¬ (1048576 : Int) < (m : Int) := by omega
  have hmF : ∀ W : World, (Instr.makeSlice 40 (.int .i64 0) (.int .i64 0)).run Tryz.prog W = .ok (.slice (some ⟨W.heap.size, 0, none⟩) 0 0) (W.alloc (.cells #[] 28)) := hmkF 0 (by omega)
  have hmI : ∀ W : World, (Instr.makeSlice 41 (.int .i64 0) (.int .i64 0)).run Tryz.prog W = .ok (.slice (some ⟨W.heap.size, 0, none⟩) 0 0) (W.alloc (.cells #[] 3)) := hmkI 0 (by omega)
  obtain ⟨iF, hiF, hF0, hF1, hF2⟩ := info_parts Tryz.info28
  obtain ⟨iI, hiI, hI0, hI1, hI2⟩ := info_parts Tryz.info3
  clear hrow
  go_enter Tryz.func7, Tryz.ntmps7
  go_wp2_with (go_at_call 22; refine HB.out.mono ?_; rintro e w' ⟨rfl, rfl⟩)
  refine HP.out.mono ?_
  rintro e w1 ⟨v, rfl, ao, rfl, hao⟩
  have hao' := Lib.hid hao
  clear hao
  go_wp2_with fail
  refine (HN'.out _).mono ?_
  rintro e w2 ⟨rfl, hr2⟩
  have hst0 : Hid (ScR w ((w2.alloc (.cells #[] 28)).alloc (.cells #[] 3)) w1.heap.size (w1.heap.size + 1) w1.heap.size n zs len g m [] w2.heap.size 0 [] (w2.heap.size + 1) 0 []) := Lib.hid (ScR.start hr2.1 hr2.2 hao'.out.1 hao'.out.2)
  clear hr2
  have hB : Hid (w.heap.size ≤ w1.heap.size) := hao'.out.2.size
  have hao2 := Lib.hid hao'.out.1
  generalize hR : w1.heap.size + 1 = R at *
  clear hR
  clear HB HP HN' g1 g2 g3 g4 g5 g6 g7
  go_wp2_with fail
  go_loopw [10, 11, 12] (fun vm vc i wr => ∃ k cap' L Gm cm Gc cc A : Nat, k ≤ len ∧ i = .int .i64 k ∧ vm = .slice (some ⟨Gm, 0, none⟩) L cm ∧ vc = .slice (some ⟨Gc, 0, none⟩) L cc ∧ cap' ≤ 1048576 ∧ L ≤ 4096 + k ∧
    Hid (∃ st : List Value, OrdS st ∧ L = st.length ∧ ScR w wr w1.heap.size R A cap' zs len g m st Gm cm (st.map fl) Gc cc (st.map cl))) (fun _ _ i _ => len - (intOf i).toNat)
  case atStart => exact ⟨0, n, 0, w2.heap.size, 0, w2.heap.size + 1, 0, w1.heap.size, Nat.zero_le _, rfl, rfl, by simp, by omega, by omega, [], fun v hv => (by cases hv), rfl, hst0.out⟩
  case round =>
    obtain ⟨k, cap', L, Gm, cm, Gc, cc, A, hk, rfl, rfl, rfl, hcm, hL, hst⟩ := hrel
    by_cases hlt : k < len
    · obtain ⟨st, hord, hLe, hsc⟩ := hst.out
      clear hst
      subst hLe
      obtain rfl : ao = some ⟨w.heap.size, 0, none⟩ := (hao2.out (by omega)).1
      have cs : wr.cell? ⟨w.heap.size, k, none⟩ = some (.int .i32 (zs.getD k 0)) := get_cell (hsc.st.2.2.2.1 (by omega)).2.2 hlt hle
      generalize zs.getD k 0 = z at *
      have hst' := Lib.hid hsc
      have hord' := Lib.hid hord
      clear hsc hord
      have hT0 : 0 ≤ z % 4294967296 / 4 % 4097 := by omega
      have hT1 : z % 4294967296 / 4 % 4097 ≤ 4096 := by omega
      obtain ⟨T, hT⟩ := Int.eq_ofNat_of_zero_le hT0
      have hT4 : T ≤ 4096 := by omega
      have HPu := Lib.hid (pushS R A st cap' g m (floatOfInt .f64 z) wr (by omega) hg (by omega) (by omega) hst'.out.st.1)
      have HSt : Hid (Calls Tryz.prog 18 #[.pointer (some ⟨R, 0, none⟩), .int .i64 (z % 4294967296 / 4 % 4097)] wr fun e w' => e = .returned (.tuple #[]) ∧ Next R A (toTop st T) cap' g m wr w') := by
        rw [hT]; exact settopS R A st T cap' g m wr (by omega) hg (by omega) (by omega) hst'.out.st.1
      clear hT0 hT1
      have hTT := Lib.hid hT
      clear hT
      go_wp2_with fail
      · refine HPu.out.mono ?_
        rintro e w5 ⟨rfl, hn5⟩
        obtain ⟨A5, cap5, h1, h2, h3⟩ := hst'.out.reg hn5
        have hsz5 := Lib.hid h1.st.1.size
        have hB5 : w1.heap.size ≤ w5.heap.size := by have := owns_lt h1.rowM; omega
        clear hn5
        have h1' := Lib.hid h1
        have rM := h1.rowM
        clear h1
        simp only [List.length_map] at rM
        go_wp2_with (first
          | (at_builtin; refine wpList_append_lies _ rfl (.tmp 86) (.tmp 88) 40 rfl w1.heap.size 28 iF (.float .f64 0) 1 8 Tryz.underlying40 hiF hF0 hF1 hF2 rfl (by decide) _ _ _ rfl (rM.alloc _) ⟨w5.heap.size, 0, none⟩ 1 1 [.float .f64 (floatOfInt .f64 z)] rfl rfl (cell_one_new _ _ _) (by intro u hu; simp at hu; subst hu; rfl) (by decide) (by unfold maxLen; omega) (by omega) (by simp; omega) _ rfl ?_; intro G6 c6 w6 hown6 hgrow6 hat6 hlt6
             have h6 := h1'.out.appM (x := .float .f64 (floatOfInt .f64 z)) (by simpa using hown6) hgrow6 hat6
             have hb6 : w1.heap.size ≤ w6.heap.size := by have := owns_lt hown6; omega
             have h6' := Lib.hid h6
             have rC := h6.rowC
             clear h6 hown6 hgrow6 hat6 hlt6
             simp only [List.length_map] at rC)
          | (at_builtin; refine wpList_append_lies _ rfl (.tmp 90) (.tmp 91) 41 rfl w1.heap.size 3 iI (.int .i64 0) 1 8 Tryz.underlying41 hiI hI0 hI1 hI2 rfl (by decide) _ _ _ rfl (rC.alloc _) ⟨w6.heap.size, 0, none⟩ 1 1 [.int .i64 2] rfl rfl (cell_one_new _ _ _) (by intro u hu; simp at hu; subst hu; rfl) (by decide) (by unfold maxLen; omega) (by omega) (by simp; omega) _ rfl ?_; intro G7 c7 w7 hown7 hgrow7 hat7 hlt7
             have h7 := h6'.out.appC (x := .int .i64 2) (by simpa using hown7) hgrow7 hat7
             have HT7 : Hid (Calls Tryz.prog 12 #[.pointer (some ⟨R, 0, none⟩)] w7 fun e w' => e = .returned (.int .i64 ((st.length : Int) + 1)) ∧ w7 = w') := by
               have := topS R A5 _ cap5 g m w7 h7.st.1
               rw [show ((st ++ [NUM (floatOfInt FloatKind.f64 z)]).length : Int) = (st.length : Int) + 1 by simp] at this
               exact this
             have h7' := Lib.hid h7
             clear h7 hown7 hgrow7 hat7 hlt7))
        refine HT7.out.mono ?_
        rintro e w' ⟨rfl, rfl⟩
        go_wp2_with fail
        go_roundw
        case rel => exact ⟨k + 1, cap5, st.length + 1, G6, c6, G7, c7, A5, by omega, by go_num, rfl, rfl, by omega, by omega, st ++ [NUM (floatOfInt FloatKind.f64 z)], hord'.out.snoc z, by simp, by simpa [fl, cl, NUM, numOf, cls] using h7'.out⟩
        case measure => simp [intOf]; omega
      · go_roundw
        case rel => exact ⟨k + 1, cap', st.length, Gm, cm, Gc, cc, A, by omega, by go_num, rfl, rfl, by omega, by omega, st, hord'.out, rfl, hst'.out⟩
        case measure => simp [intOf]; omega
      · have hc : (((st.length : Int) == 0) = false) := by assumption
        have hne : st.length ≠ 0 := by intro h0; rw [h0] at hc; simp at hc
        clear hc
        rcases List.eq_nil_or_concat st with rfl | ⟨st5, x, rfl⟩
        · exact absurd rfl hne
        · rw [List.concat_eq_append] at *
          have HPo := Lib.hid (popS R A st5 x cap' g m wr (by omega) hst'.out.st.1)
          have hox := hord'.out x (by simp)
          have bM : wr.cell? ⟨Gm, st5.length, none⟩ = some (fl x) := by
            have := hst'.out.rowM.cellAt st5.length (by simp)
            rw [this]; simp
          have bC : wr.cell? ⟨Gc, st5.length, none⟩ = some (cl x) := by
            have := hst'.out.rowC.cellAt st5.length (by simp)
            rw [this]; simp
          generalize hLL : (st5 ++ [x]).length = LL at *
          have hLL' := Lib.hid hLL
          have hL5 : LL = st5.length + 1 := by rw [← hLL]; simp
          clear hLL
          subst hL5
          unfold fl at bM
          unfold cl at bC
          refine HPo.out.mono ?_
          rintro e w5 ⟨rfl, hr5, hk5⟩
          have hn5 : Next R A st5 cap' g m wr w5 := ⟨A, cap', hr5, Nat.le_refl _, Nat.le_max_left _ _, hk5, Or.inl rfl⟩
          obtain ⟨A5, cap5, h1, h2, h3⟩ := hst'.out.reg hn5
          have bM5 : w5.cell? ⟨Gm, st5.length, none⟩ = some (.float .f64 (numOf x)) := by
            have := h1.rowM.cellAt st5.length (by simp)
            rw [this]; simp [fl]
          have bC5 : w5.cell? ⟨Gc, st5.length, none⟩ = some (.int .i64 (cls x)) := by
            have := h1.rowC.cellAt st5.length (by simp)
            rw [this]; simp [cl]
          have h1' := h1.cut st5.length (by simp) (by simp)
          rw [← List.map_take, ← List.map_take, List.take_left] at h1'
          have lc1 := owns_le h1'.rowM
          have lc2 := owns_le h1'.rowC
          simp only [List.length_map] at lc1 lc2
          have h1'' := Lib.hid h1'
          have HT := Lib.hid (topS R A5 _ cap5 g m w5 h1.st.1)
          have hordx := Lib.hid hord'.out.init
          clear h1 hn5 hk5 hr5 bM bC h1'
          have fin : Hid (∃ k1 cap1 L Gm1 cm1 Gc1 cc1 A : Nat, k1 ≤ len ∧ Value.int IntKind.i64 (k + 1) = .int .i64 k1 ∧ Value.slice (some ⟨Gm, 0, none⟩) st5.length cm = .slice (some ⟨Gm1, 0, none⟩) L cm1 ∧ Value.slice (some ⟨Gc, 0, none⟩) st5.length cc = .slice (some ⟨Gc1, 0, none⟩) L cc1 ∧ cap1 ≤ 1048576 ∧ L ≤ 4096 + k1 ∧
              Hid (∃ st : List Value, OrdS st ∧ L = st.length ∧ ScR w w5 w1.heap.size R A cap1 zs len g m st Gm1 cm1 (st.map fl) Gc1 cc1 (st.map cl))) :=
            ⟨k + 1, cap5, st5.length, Gm, cm, Gc, cc, A5, by omega, by go_num, rfl, rfl, by omega, by omega, st5, hordx.out, rfl, h1''.out⟩
          generalize numOf x = nx at *
          generalize cls x = cx at *
          go_wp2_with (go_at_call 12; refine HT.out.mono ?_; rintro e w' ⟨rfl, rfl⟩)
          all_goals
            go_roundw
            case rel => exact fin.out
            case measure => simp [intOf]; omega
      · have hT := hTT.out
        generalize z % 4294967296 / 4 % 4097 = tz at *
        subst hT
        refine HSt.out.mono ?_
        rintro e w5 ⟨rfl, hn5⟩
        obtain ⟨A5, cap5, h1, h2, h3⟩ := hst'.out.reg hn5
        have lc1 := owns_le h1.rowM
        have lc2 := owns_le h1.rowC
        simp only [List.length_map] at lc1 lc2
        have h1' := Lib.hid h1
        have hB5 := Lib.hid (owns_lt h1.rowM)
        clear h1 hn5
        by_cases hTs : T < st.length
        · have lT : T ≤ cm := by omega
          have lT2 : T ≤ cc := by omega
          go_wp2_with fail
          go_loopw [10, 11] (fun vm vc wq => ∃ q Gm1 cm1 Gc1 cc1 : Nat, q ≤ T ∧ (q < T → st.length ≤ q) ∧ vm = .slice (some ⟨Gm1, 0, none⟩) q cm1 ∧ vc = .slice (some ⟨Gc1, 0, none⟩) q cc1 ∧
            Hid (ScR w wq w1.heap.size R A5 cap5 zs len g m (toTop st T) Gm1 cm1 (((toTop st T).take q).map fl) Gc1 cc1 (((toTop st T).take q).map cl))) (fun vm _ _ => T - lenOf vm)
          case atStart => exact ⟨T, Gm, cm, Gc, cc, Nat.le_refl _, fun h => absurd h (by omega), rfl, rfl, by
            have e1 : (toTop st T).take T = st.take T := by unfold toTop; rw [Nat.sub_eq_zero_of_le (by omega)]; simp [List.take_take]
            rw [e1, List.map_take, List.map_take]
            exact h1'.out.cut T (by simp; omega) (by simp; omega)⟩
          case round =>
            obtain ⟨q, Gm1, cm1, Gc1, cc1, hq, hq2, rfl, rfl, hsq⟩ := hrel
            by_cases hqT : q < T
            · have hgq : (toTop st T)[q]? = some LNIL := by rw [get_toTop, if_pos hqT, if_neg (by have := hq2 hqT; omega)]
              have lq : ((toTop st T).take q).length = q := by rw [List.length_take, length_toTop]; omega
              have rM := hsq.out.rowM
              rw [List.length_map, lq] at rM
              have hbq : w1.heap.size ≤ wr.heap.size := by have := owns_lt rM; omega
              have hgq' := Lib.hid hgq
              clear hgq hTs
              go_wp2_with (first
                | (at_builtin; refine wpList_append_lies _ rfl (.tmp 150) (.tmp 151) 40 rfl w1.heap.size 28 iF (.float .f64 0) 1 8 Tryz.underlying40 hiF hF0 hF1 hF2 rfl (by decide) _ _ _ rfl (rM.alloc _) ⟨wr.heap.size, 0, none⟩ 1 1 [.float .f64 0] rfl rfl (cell_one_new _ _ _) (by intro u hu; simp at hu; subst hu; rfl) (by decide) (by unfold maxLen; omega) (by omega) (by simp; omega) _ rfl ?_; intro G6 c6 w6 hown6 hgrow6 hat6 hlt6
                   have h6 := hsq.out.appM (x := .float .f64 0) (by rw [List.length_map, lq]; exact hown6) hgrow6 hat6
                   have hb6 : w1.heap.size ≤ w6.heap.size := by have := owns_lt hown6; omega
                   have h6' := Lib.hid h6
                   have rC := h6.rowC
                   clear h6 hown6 hgrow6 hat6 hlt6
                   rw [List.length_map, lq] at rC)
                | (at_builtin; refine wpList_append_lies _ rfl (.tmp 153) (.tmp 154) 41 rfl w1.heap.size 3 iI (.int .i64 0) 1 8 Tryz.underlying41 hiI hI0 hI1 hI2 rfl (by decide) _ _ _ rfl (rC.alloc _) ⟨w6.heap.size, 0, none⟩ 1 1 [.int .i64 1] rfl rfl (cell_one_new _ _ _) (by intro u hu; simp at hu; subst hu; rfl) (by decide) (by unfold maxLen; omega) (by omega) (by simp; omega) _ rfl ?_; intro G7 c7 w7 hown7 hgrow7 hat7 hlt7
                   have h7 := h6'.out.appC (x := .int .i64 1) (by rw [List.length_map, lq]; exact hown7) hgrow7 hat7
                   have h7' := Lib.hid h7
                   clear h7 hown7 hgrow7 hat7 hlt7))
              go_roundw
              case rel => exact ⟨q + 1, G6, c6, G7, c7, by omega, fun _ => by have := hq2 hqT; omega, rfl, rfl, by rw [take_next fl _ _ _ hgq'.out, take_next cl _ _ _ hgq'.out]; exact h7'⟩
              case measure => simp [lenOf]; omega
            · obtain rfl : q = T := by omega
              have HT : Hid (Calls Tryz.prog 12 #[.pointer (some ⟨R, 0, none⟩)] wr fun e w' => e = .returned (.int .i64 q) ∧ wr = w') := by
                have := topS R A5 _ cap5 g m wr hsq.out.st.1
                rw [length_toTop] at this
                exact this
              clear hTs
              go_wp2_with (go_at_call 12; refine HT.out.mono ?_; rintro e w' ⟨rfl, rfl⟩)
              go_roundw
              case rel => exact ⟨k + 1, cap5, q, Gm1, cm1, Gc1, cc1, A5, by omega, by go_num, rfl, rfl, by omega, by omega, toTop st q, hord'.out.toTop q, by rw [length_toTop], by have := hsq.out; rwa [List.take_of_length_le (by rw [length_toTop]; omega)] at this⟩
              case measure => simp [intOf]; omega
        · go_wp2_with fail
          go_loopw [10, 11] (fun vm vc wq => ∃ q Gm1 cm1 Gc1 cc1 : Nat, q ≤ T ∧ (q < T → st.length ≤ q) ∧ vm = .slice (some ⟨Gm1, 0, none⟩) q cm1 ∧ vc = .slice (some ⟨Gc1, 0, none⟩) q cc1 ∧
            Hid (ScR w wq w1.heap.size R A5 cap5 zs len g m (toTop st T) Gm1 cm1 (((toTop st T).take q).map fl) Gc1 cc1 (((toTop st T).take q).map cl))) (fun vm _ _ => T - lenOf vm)
          case atStart => exact ⟨st.length, Gm, cm, Gc, cc, by omega, fun _ => Nat.le_refl _, rfl, rfl, by
            have e1 : (toTop st T).take st.length = st := by unfold toTop; rw [List.take_of_length_le (l := st) (by omega)]; exact List.take_left
            rw [e1]
            exact h1'⟩
          case round =>
            obtain ⟨q, Gm1, cm1, Gc1, cc1, hq, hq2, rfl, rfl, hsq⟩ := hrel
            by_cases hqT : q < T
            · have hgq : (toTop st T)[q]? = some LNIL := by rw [get_toTop, if_pos hqT, if_neg (by have := hq2 hqT; omega)]
              have lq : ((toTop st T).take q).length = q := by rw [List.length_take, length_toTop]; omega
              have rM := hsq.out.rowM
              rw [List.length_map, lq] at rM
              have hbq : w1.heap.size ≤ wr.heap.size := by have := owns_lt rM; omega
              have hgq' := Lib.hid hgq
              clear hgq hTs
              go_wp2_with (first
                | (at_builtin; refine wpList_append_lies _ rfl (.tmp 150) (.tmp 151) 40 rfl w1.heap.size 28 iF (.float .f64 0) 1 8 Tryz.underlying40 hiF hF0 hF1 hF2 rfl (by decide) _ _ _ rfl (rM.alloc _) ⟨wr.heap.size, 0, none⟩ 1 1 [.float .f64 0] rfl rfl (cell_one_new _ _ _) (by intro u hu; simp at hu; subst hu; rfl) (by decide) (by unfold maxLen; omega) (by omega) (by simp; omega) _ rfl ?_; intro G6 c6 w6 hown6 hgrow6 hat6 hlt6
                   have h6 := hsq.out.appM (x := .float .f64 0) (by rw [List.length_map, lq]; exact hown6) hgrow6 hat6
                   have hb6 : w1.heap.size ≤ w6.heap.size := by have := owns_lt hown6; omega
                   have h6' := Lib.hid h6
                   have rC := h6.rowC
                   clear h6 hown6 hgrow6 hat6 hlt6
                   rw [List.length_map, lq] at rC)
                | (at_builtin; refine wpList_append_lies _ rfl (.tmp 153) (.tmp 154) 41 rfl w1.heap.size 3 iI (.int .i64 0) 1 8 Tryz.underlying41 hiI hI0 hI1 hI2 rfl (by decide) _ _ _ rfl (rC.alloc _) ⟨w6.heap.size, 0, none⟩ 1 1 [.int .i64 1] rfl rfl (cell_one_new _ _ _) (by intro u hu; simp at hu; subst hu; rfl) (by decide) (by unfold maxLen; omega) (by omega) (by simp; omega) _ rfl ?_; intro G7 c7 w7 hown7 hgrow7 hat7 hlt7
                   have h7 := h6'.out.appC (x := .int .i64 1) (by rw [List.length_map, lq]; exact hown7) hgrow7 hat7
                   have h7' := Lib.hid h7
                   clear h7 hown7 hgrow7 hat7 hlt7))
              go_roundw
              case rel => exact ⟨q + 1, G6, c6, G7, c7, by omega, fun _ => by have := hq2 hqT; omega, rfl, rfl, by rw [take_next fl _ _ _ hgq'.out, take_next cl _ _ _ hgq'.out]; exact h7'⟩
              case measure => simp [lenOf]; omega
            · obtain rfl : q = T := by omega
              have HT : Hid (Calls Tryz.prog 12 #[.pointer (some ⟨R, 0, none⟩)] wr fun e w' => e = .returned (.int .i64 q) ∧ wr = w') := by
                have := topS R A5 _ cap5 g m wr hsq.out.st.1
                rw [length_toTop] at this
                exact this
              clear hTs
              go_wp2_with (go_at_call 12; refine HT.out.mono ?_; rintro e w' ⟨rfl, rfl⟩)
              go_roundw
              case rel => exact ⟨k + 1, cap5, q, Gm1, cm1, Gc1, cc1, A5, by omega, by go_num, rfl, rfl, by omega, by omega, toTop st q, hord'.out.toTop q, by rw [length_toTop], by have := hsq.out; rwa [List.take_of_length_le (by rw [length_toTop]; omega)] at this⟩
              case measure => simp [intOf]; omega
    · obtain rfl : k = len := by omega
      obtain ⟨st, hord, hLe, hsc⟩ := hst.out
      clear hst
      subst hLe
      have hst' := Lib.hid hsc
      have hord' := Lib.hid hord
      have HLn := Lib.hid (lenS R A st cap' g m wr hsc.st.1)
      have hleS : st.length ≤ cap' := by obtain ⟨⟨xs, _, _, h, _⟩, _⟩ := hsc.st; exact h
      have hb' := Lib.hid hsc.st.2.2.2.2
      clear hsc hord
      go_wp2_with fail
      go_loop [20] (fun i => ∃ q : Nat, q ≤ st.length ∧ i = .int .i64 q) (fun i => st.length - (intOf i).toNat)
      case atStart => exact ⟨0, Nat.zero_le _, rfl⟩
      case round =>
        obtain ⟨q, hq, rfl⟩ := hrel
        by_cases hqT : q < st.length
        · have hxq : st[q]? = some st[q] := List.getElem?_eq_getElem hqT
          have hox := hord'.out st[q] (List.getElem_mem hqT)
          generalize st[q] = x at *
          have hc0 := Lib.hid (slotS R A st cap' g m q x wr hst'.out.st.1 hxq)
          have bM : wr.cell? ⟨Gm, q, none⟩ = some (.float .f64 (numOf x)) := by
            have := hst'.out.rowM.cellAt q (by simp; omega)
            rw [this]; simp [fl, hxq]
          have bC : wr.cell? ⟨Gc, q, none⟩ = some (.int .i64 (cls x)) := by
            have := hst'.out.rowC.cellAt q (by simp; omega)
            rw [this]; simp [cl, hxq]
          clear hxq
          generalize numOf x = nx at *
          generalize cls x = cx at *
          go_wp2_with (go_at_call 15; refine hc0.out.mono ?_; rintro e w' ⟨rfl, rfl⟩)
          all_goals
            go_round
            case rel => exact ⟨q + 1, by omega, by go_num⟩
            case measure => simp [intOf]; omega
        · obtain rfl : q = st.length := by omega
          go_wp2_with (go_at_call 14; refine HLn.out.mono ?_; rintro e w' ⟨rfl, rfl⟩)
          go_loop [24] (fun i => ∃ r : Nat, st.length ≤ r ∧ r ≤ cap' ∧ i = .int .i64 r) (fun i => cap' - (intOf i).toNat)
          case atStart => exact ⟨st.length, Nat.le_refl _, hleS, rfl⟩
          case round =>
            obtain ⟨r, hr1, hr2, rfl⟩ := hrel
            by_cases hrc : r < cap'
            · obtain ⟨v, hv, hcall⟩ := slotC R A st cap' g m r wr hst'.out.st.1 hr1 hrc
              have hcl : cls v = 0 ∨ cls v = 1 := by rcases hv with rfl | rfl; exact Or.inl rfl; exact Or.inr rfl
              have hc0 := Lib.hid hcall
              clear hcall hv
              generalize numOf v = nx at *
              generalize cls v = cx at *
              rcases hcl with rfl | rfl
              all_goals
                go_wp2_with (go_at_call 15; refine hc0.out.mono ?_; rintro e w' ⟨rfl, rfl⟩)
                go_round
                case rel => exact ⟨r + 1, by omega, by omega, by go_num⟩
                case measure => simp [intOf]; omega
            · obtain rfl : r = cap' := by omega
              go_wp2_with fail
              go_ret
              exact ⟨rfl, hb'.out⟩

theorem script_any (n g m : Int) (a : Option Addr) (len cap : Nat) (zs : List Int) (w : World) (hrow : IsRow .i32 w a len cap zs) :
    Calls Tryz.prog 7 #[.int .i64 n, .int .i64 g, .int .i64 m, .slice a len cap] w fun e w' => e = .returned (.bool true) ∧ Below w.heap.size w w' := by
  by_cases h : Good4 n g m len
  · obtain ⟨h1, h2, h3, h4, h5, h6, h7⟩ := h
    obtain ⟨N, rfl⟩ := Int.eq_ofNat_of_zero_le h2
    obtain ⟨G, rfl⟩ := Int.eq_ofNat_of_zero_le h4
    obtain ⟨M, rfl⟩ := Int.eq_ofNat_of_zero_le (show 0 ≤ m by omega)
    exact script_main N G M a len cap zs w h1 (by omega) (by omega) (by omega) (by omega) hrow
  · exact (script_out n g m a len cap w h).mono fun e w' ⟨he, hw⟩ => ⟨he, hw ▸ Below.refl _ _⟩
end Go.Proofs.YtdnomaafjmfdkaaGreatDoor
