/-
  atof64: the slow road.
  atof64 at a text with a foreign byte: it returns, and reads not the whole text, or an error.
-/
import Derived.Test.YtjaibjdhfljmmaaDoorDmSet
import Derived.Test.YtjaibjdhfljmmaaDoorHex
import Derived.Test.YtjaibjdhfljmmaaDoorExact
import Derived.Test.YtjaibjdhfljmmaaDoorReadAll
import Derived.Test.YtjaibjdhfljmmaaDoorPre
namespace Go.Proofs.YtjaibjdhfljmmaaDoor
open Go.RowKit
set_option maxRecDepth 1000000
set_option maxHeartbeats 4000000

attribute [local go_sem] fb57

/-- The package-level tables that the parsing of floats reads. -/
structure Globs (w : World) : Prop where
  f64 : F64 w
  at53 : At53 w
  exact : Exact w
  tab : Tab w
  opt : w.cell? ⟨4, 0, none⟩ = some (.bool true)
  cheats : Cheats w.heap.size w
  pows : Pows w.heap.size w

noncomputable def a64Stmt (n : Nat) : Code := seqDrop n (Tryd.f45.body.getD .skip)

theorem zero110 : Tryd.zeroCells110.toList = List.replicate 800 (.int .u8 0) ++ [.int .i64 0, .int .i64 0, .bool false, .bool false] := by kernel_rfl

theorem dm_new (w : World) : Dm (w.alloc (.cells Tryd.zeroCells110 110)) w.heap.size 0 0 (fun _ => 0) := by
  have hsz : Tryd.zeroCells110.size = 804 := by rw [← Array.length_toList, zero110]; simp
  have hb : (w.alloc (.cells Tryd.zeroCells110 110)).heap[w.heap.size]? = some (.cells Tryd.zeroCells110 110 (0, 0)) := by
    show (w.heap.push _)[w.heap.size]? = _
    exact Array.getElem?_push_size
  have hat : ∀ i, (w.alloc (.cells Tryd.zeroCells110 110)).cell? ⟨w.heap.size, i, none⟩ = (List.replicate 800 (.int .u8 0) ++ [.int .i64 0, .int .i64 0, .bool false, .bool false])[i]? := by
    intro i
    rw [cell_of hb, ← zero110, Array.getElem?_toList]
  refine ⟨⟨_, hb, hsz⟩, fun i hi => ?_, ?_, ?_, ⟨false, ?_⟩, ⟨false, ?_⟩, by omega⟩
  · rw [hat, List.getElem?_append_left (by simpa using hi), List.getElem?_replicate, if_pos hi]
  · rw [hat, List.getElem?_append_right (by simp)]; rfl
  · rw [hat, List.getElem?_append_right (by simp)]; rfl
  · rw [hat, List.getElem?_append_right (by simp)]; rfl
  · rw [hat, List.getElem?_append_right (by simp)]; rfl

theorem below_less {w a b : World} (h : Below w.heap.size w a) (k : Below a.heap.size a b) : Below w.heap.size w b := h.trans (k.mono h.size)

theorem results_tmp3 {fn : Func} {t1 t2 t3 : Tmp} (h : fn.results = #[.tmp t1, .tmp t2, .tmp t3]) (tmps : Array Value) (P : Program) (w : World) :
    (results fn tmps).run P w = .ok (.tuple #[tmps.getD t1 undef, tmps.getD t2 undef, tmps.getD t3 undef]) w := by
  simp [results, h]

theorem a64_slow (s : ByteArray) (hs : s.size ≤ 1073741824) (w wr : World) (hG : Globs wr) (hB : Below w.heap.size w wr) (n : Nat) (hn : n < s.size) (c1 c2 c5 c6 c7 c8 c9 c10 c11 c12 c13 c14 c15 c16 c17 c18 c19 c20 c21 c22 c23 c24 c25 c26 c27 c28 c29 c30 c31 c32 c33 c34 c35 c36 c37 c38 c39 c40 c41 c42 c43 c44 c45 c46 c47 c48 c49 c50 c51 c52 c53 c54 c55 c56 c57 c58 c59 c60 c61 c62 c63 c64 c65 c66 c67 c68 c69 c70 c71 c72 c73 c74 c75 c76 c77 c78 c79 c80 c81 c82 c83 c84 c85 c86 c87 c88 c89 c90 c91 c92 c93 c94 c95 c96 c97 c98 c99 c100 c101 c102 c103 c104 c105 c106 c107 c108 c109 c110 c111 c112 c113 c114 c115 c116 c117 c118 c119 c120 c121 c122 c123 c124 c125 c126 c127 c128 c129 c130 c131 c132 c133 c134 c135 c136 c137 c138 c139 c140 c141 c142 : Value) :
    Code.wp Tryd.prog (a64Stmt 6) (bodyPost Tryd.prog Tryd.f45 fun e w' => A64Bad s e ∧ Below w.heap.size w w') ⟨(List.toArray ((Value.string s) :: c1 :: c2 :: (Value.int .i64 (n : Nat)) :: Value.nilIface :: c5 :: c6 :: c7 :: c8 :: c9 :: c10 :: c11 :: c12 :: c13 :: c14 :: c15 :: c16 :: c17 :: c18 :: c19 :: c20 :: c21 :: c22 :: c23 :: c24 :: c25 :: c26 :: c27 :: c28 :: c29 :: c30 :: c31 :: c32 :: c33 :: c34 :: c35 :: c36 :: c37 :: c38 :: c39 :: c40 :: c41 :: c42 :: c43 :: c44 :: c45 :: c46 :: c47 :: c48 :: c49 :: c50 :: c51 :: c52 :: c53 :: c54 :: c55 :: c56 :: c57 :: c58 :: c59 :: c60 :: c61 :: c62 :: c63 :: c64 :: c65 :: c66 :: c67 :: c68 :: c69 :: c70 :: c71 :: c72 :: c73 :: c74 :: c75 :: c76 :: c77 :: c78 :: c79 :: c80 :: c81 :: c82 :: c83 :: c84 :: c85 :: c86 :: c87 :: c88 :: c89 :: c90 :: c91 :: c92 :: c93 :: c94 :: c95 :: c96 :: c97 :: c98 :: c99 :: c100 :: c101 :: c102 :: c103 :: c104 :: c105 :: c106 :: c107 :: c108 :: c109 :: c110 :: c111 :: c112 :: c113 :: c114 :: c115 :: c116 :: c117 :: c118 :: c119 :: c120 :: c121 :: c122 :: c123 :: c124 :: c125 :: c126 :: c127 :: c128 :: c129 :: c130 :: c131 :: c132 :: c133 :: c134 :: c135 :: c136 :: c137 :: c138 :: c139 :: c140 :: c141 :: c142 :: [])), []⟩ wr := by
  have hn64 : n ≠ s.size := by omega
  obtain ⟨_, _, _, h11, _, _, _⟩ := hG.cheats
  have hb0 : Below wr.heap.size wr (wr.alloc (.cells Tryd.zeroCells110 110)) := (Below.refl _ _).alloc (Nat.le_refl _) _
  have hsz : (s.extract 0 n).size ≤ 1073741824 := by
    rw [ByteArray.size_extract]
    omega
  have hS := Lib.hid (dset_any wr.heap.size (s.extract 0 n) hsz 0 (fun _ => 0) _ (dm_new wr))
  have hGh := Lib.hid hG
  have hBh := Lib.hid hB
  have hb0h := Lib.hid hb0
  clear hG hB hb0 hsz
  conv => arg 2; whnf
  go_wp2_with (first
    | (go_at_call 54; refine hS.out.mono ?_; rintro e w1 ⟨⟨ok, rfl⟩, ⟨nd, dp, d, hD, hL⟩, hb1⟩)
    | (go_at_call 55; refine (fb_any wr.heap.size nd dp d w1 (hGh.out.f64.keep (hb0h.out.trans hb1) (by omega)) h11 hD hL (hGh.out.cheats.keep (hb0h.out.trans hb1)) (hGh.out.pows.keep (hb0h.out.trans hb1))).mono ?_; rintro e w2 ⟨⟨x, ov, rfl⟩, hb2⟩))
  · exact bodyPost_ret (results_tmp3 rfl _ _ _) rfl ⟨⟨_, n, _, rfl, .inr ⟨2, .inr rfl, rfl⟩⟩, below_less hBh.out (hb0h.out.trans hb1)⟩
  · exact bodyPost_ret (results_tmp3 rfl _ _ _) rfl ⟨⟨_, n, _, rfl, .inr ⟨1, .inl rfl, rfl⟩⟩, below_less hBh.out ((hb0h.out.trans hb1).trans hb2)⟩
  · exact bodyPost_ret (results_tmp3 rfl _ _ _) rfl ⟨⟨_, n, _, rfl, .inl ⟨rfl, hn64⟩⟩, below_less hBh.out ((hb0h.out.trans hb1).trans hb2)⟩
end Go.Proofs.YtjaibjdhfljmmaaDoor

namespace Go.Proofs.YtjaibjdhfljmmaaDoor
open Go.RowKit
set_option maxRecDepth 1000000
set_option maxHeartbeats 4000000

attribute [local go_sem] fb57

theorem Cheats.mono {B B' : Nat} {w : World} (h : Cheats B w) (hb : B ≤ B') : Cheats B' w := by
  obtain ⟨G, o, c, h1, h2, h3⟩ := h
  exact ⟨G, o, c, by omega, by omega, h3⟩
theorem Pows.mono {B B' : Nat} {w : World} (h : Pows B w) (hb : B ≤ B') : Pows B' w := by
  obtain ⟨G, o, c, h1, h2, h3⟩ := h
  exact ⟨G, o, c, by omega, by omega, h3⟩

theorem Globs.keep {w w' : World} (h : Globs w) (hb : Below w.heap.size w w') : Globs w' := by
  obtain ⟨_, _, _, h11, _, _, _⟩ := h.cheats
  refine ⟨h.f64.keep hb (by omega), ?_, ?_, h.tab.below hb, ?_, (h.cheats.keep hb).mono hb.size, (h.pows.keep hb).mono hb.size⟩
  · obtain ⟨⟨ca, ta, ha⟩, cb, tb, hb'⟩ := h.at53
    exact ⟨⟨ca, ta, by rw [hb.block 5 (by omega)]; exact ha⟩, cb, tb, by rw [hb.block 3 (by omega)]; exact hb'⟩
  · obtain ⟨h1, G, o, c, h2, h3⟩ := h.exact
    refine ⟨by rw [hb.cell (p := ⟨5, 0, none⟩) (by show 5 < w.heap.size; omega)]; exact h1, G, o, c, by rw [hb.cell (p := ⟨8, 0, none⟩) (by show 8 < w.heap.size; omega)]; exact h2, fun i hi => ?_⟩
    obtain ⟨f, h4, h5⟩ := h3 i hi
    exact ⟨f, by rw [hb.cell (p := ⟨G, o + i, none⟩) (Lib.lt_of_cell h4)]; exact h4, h5⟩
  · rw [hb.cell (p := ⟨4, 0, none⟩) (by show 4 < w.heap.size; omega)]
    exact h.opt

/-- A text that holds a byte that no numeral holds. -/
def HasForeign (s : ByteArray) : Prop := ∃ x ∈ s.data.toList, num x = false

theorem HasForeign.pre {s : ByteArray} (h : HasForeign s) {i : Nat} (hp : Pre s i) : i < s.size := by
  obtain ⟨x, hx, hn⟩ := h
  rcases Nat.lt_or_ge i s.size with h1 | h1
  · exact h1
  · have := hp x (by rw [List.take_of_length_le (by rw [← Lib.size_eq]; omega)]; exact hx)
    rw [hn] at this
    cases this

theorem lowc_eq {x : UInt8} {k : Nat} (h : lowc x.toNat = k) : x.toNat = k ∨ (x.toNat + 32 = k ∧ 65 ≤ x.toNat) := by
  unfold lowc at h
  split at h
  · exact .inr (by omega)
  · exact .inl (by omega)

theorem num_of (x : UInt8) (h : x.toNat = 43 ∨ x.toNat = 45 ∨ x.toNat = 105 ∨ x.toNat = 73 ∨ x.toNat = 110 ∨ x.toNat = 78 ∨ x.toNat = 102 ∨ x.toNat = 70 ∨ x.toNat = 116 ∨ x.toNat = 84 ∨ x.toNat = 121 ∨ x.toNat = 89 ∨ x.toNat = 97 ∨ x.toNat = 65) : num x = true := by
  have key : ∀ k : UInt8, x.toNat = k.toNat → num k = true → num x = true := fun k h hk => by rw [UInt8.toNat_inj.1 h]; exact hk
  rcases h with h | h | h | h | h | h | h | h | h | h | h | h | h | h
  · exact key 43 h rfl
  · exact key 45 h rfl
  · exact key 105 h rfl
  · exact key 73 h rfl
  · exact key 110 h rfl
  · exact key 78 h rfl
  · exact key 102 h rfl
  · exact key 70 h rfl
  · exact key 116 h rfl
  · exact key 84 h rfl
  · exact key 121 h rfl
  · exact key 89 h rfl
  · exact key 97 h rfl
  · exact key 65 h rfl

theorem letter_num (x : UInt8) (h : Letter x) : num x = true := by
  apply num_of
  rcases h with rfl | rfl | h | h | h | h | h | h
  · exact .inl rfl
  · exact .inr (.inl rfl)
  · have := lowc_eq (k := 105) h; omega
  · have := lowc_eq (k := 110) h; omega
  · have := lowc_eq (k := 102) h; omega
  · have := lowc_eq (k := 116) h; omega
  · have := lowc_eq (k := 121) h; omega
  · have := lowc_eq (k := 97) h; omega

theorem HasForeign.letters {s : ByteArray} (h : HasForeign s) {n : Nat} (hl : ∀ i (h : i < s.size), i < n → Letter s[i]) : n ≠ s.size := by
  rintro rfl
  obtain ⟨x, hx, hn⟩ := h
  obtain ⟨i, hi, rfl⟩ := List.mem_iff_getElem.1 hx
  have hi' : i < s.size := by rw [Lib.size_eq]; exact hi
  have := letter_num _ (hl i hi' hi')
  have e : s[i] = s.data.toList[i] := rfl
  rw [e, hn] at this
  cases this

theorem a64_any (s : ByteArray) (hs : s.size ≤ 1073741824) (hf : HasForeign s) (w : World) (hG : Globs w) :
    Calls Tryd.prog 45 #[.string s] w fun e w' => A64Bad s e ∧ Below w.heap.size w w' := by
  have hSp := Lib.hid (special_any s hs w)
  have hRf := Lib.hid (rf_any s hs w)
  have hGh := Lib.hid hG
  have hfh := Lib.hid hf
  have hopt := hG.opt
  clear hG hf
  go_enter Tryd.func45, Tryd.ntmps45
  go_wp2_with (go_at_call 47; refine hSp.out.mono ?_; rintro e w' ⟨⟨f, n, ok, rfl, hsp⟩, rfl⟩)
  · rename_i hok
    obtain ⟨h1, _, h3⟩ := hsp hok
    exact bodyPost_ret (results_tmp3 rfl _ _ _) rfl ⟨⟨_, n, _, rfl, .inl ⟨rfl, hfh.out.letters h3⟩⟩, Below.refl _ _⟩
  refine hRf.out.mono ?_
  rintro e w' ⟨⟨m, ex, ng, tr, hx, ok2, i, rfl, hrf⟩, rfl⟩
  clear hSp hRf hsp
  cases ok2
  · go_wp2_with fail
    exact bodyPost_ret (results_tmp3 rfl _ _ _) rfl ⟨⟨_, i, _, rfl, .inr ⟨2, .inr rfl, rfl⟩⟩, Below.refl _ _⟩
  obtain ⟨hi, hp, m0, m1⟩ := hrf rfl
  have hlt := hfh.out.pre hp
  clear hrf hp
  have hne : i ≠ s.size := by omega
  cases hx
  · go_upto_if 64 with fail
    go_cut [3, 4] from 5 (fun nn er wx => nn = .int .i64 i ∧ er = .nilIface ∧ Hid (Globs wx) ∧ Hid (Below w.heap.size w wx))
    case first =>
      cases tr
      · go_wp2_with (first
          | (go_at_call 56; refine (b2u ng _).mono ?_; rintro e w' ⟨rfl, rfl⟩)
          | (go_at_call 58; refine (exact_any m ex ng w hGh.out.exact).mono ?_; rintro e w' ⟨⟨f1, ok1, rfl⟩, rfl⟩))
        all_goals first
          | exact bodyPost_ret (results_tmp3 rfl _ _ _) rfl ⟨⟨_, i, _, rfl, .inl ⟨rfl, hne⟩⟩, Below.refl _ _⟩
          | exact bodyPost_ret (results_tmp3 rfl _ _ _) rfl ⟨⟨_, i, _, rfl, .inr ⟨1, .inl rfl, rfl⟩⟩, Below.refl _ _⟩
          | skip
        all_goals
          refine (parse64 m ex _ w m0 m1 (by omega) (by omega) hGh.out.tab).mono ?_
          rintro e w1 ⟨⟨f1, er, rfl, her⟩, hb1⟩
          go_wp2_with fail
          refine bodyPost_ret (results_tmp3 rfl _ _ _) rfl ⟨⟨_, i, _, rfl, ?_⟩, hb1⟩
          rcases her with rfl | rfl
          · exact .inl ⟨rfl, hne⟩
          · exact .inr ⟨1, .inl rfl, rfl⟩
      · go_wp2_with (go_at_call 56; refine (b2u ng _).mono ?_; rintro e w' ⟨rfl, rfl⟩)
        all_goals first
          | exact bodyPost_ret (results_tmp3 rfl _ _ _) rfl ⟨⟨_, i, _, rfl, .inl ⟨rfl, hne⟩⟩, Below.refl _ _⟩
          | exact bodyPost_ret (results_tmp3 rfl _ _ _) rfl ⟨⟨_, i, _, rfl, .inr ⟨1, .inl rfl, rfl⟩⟩, Below.refl _ _⟩
          | skip
        all_goals
          refine (parse64 m ex _ w m0 m1 (by omega) (by omega) hGh.out.tab).mono ?_
          rintro e w1 ⟨⟨f1, er, rfl, her⟩, hb1⟩
          have hG1 := Lib.hid (hGh.out.keep hb1)
          have hP2 := Lib.hid (fun sg => parse64 (IntKind.u64.wrap (m + 1)) ex sg w1 (wrap_u _).1 (wrap_u _).2 (by omega) (by omega) hG1.out.tab)
          go_wp2_with (go_at_call 59; refine (hP2.out _).mono ?_; rintro e w2 ⟨⟨f2, er2, rfl, _⟩, hb2⟩)
          · refine bodyPost_ret (results_tmp3 rfl _ _ _) rfl ⟨⟨_, i, _, rfl, ?_⟩, below_less hb1 hb2⟩
            rcases her with rfl | rfl
            · exact .inl ⟨rfl, hne⟩
            · exact .inr ⟨1, .inl rfl, rfl⟩
          · go_meet
            case rel => exact ⟨rfl, rfl, Lib.hid (hG1.out.keep hb2), Lib.hid (below_less hb1 hb2)⟩
    case rest =>
      obtain ⟨rfl, rfl, hG, hB⟩ := hcut
      rename_i K9 hk9
      apply hk9
      exact a64_slow s hs w _ hG.out hB.out i hlt _ _ _ _ _ _ _ _ _ _ _ _ _ _ _ _ _ _ _ _ _ _ _ _ _ _ _ _ _ _ _ _ _ _ _ _ _ _ _ _ _ _ _ _ _ _ _ _ _ _ _ _ _ _ _ _ _ _ _ _ _ _ _ _ _ _ _ _ _ _ _ _ _ _ _ _ _ _ _ _ _ _ _ _ _ _ _ _ _ _ _ _ _ _ _ _ _ _ _ _ _ _ _ _ _ _ _ _ _ _ _ _ _ _ _ _ _ _ _ _ _ _ _ _ _ _ _ _ _ _ _ _ _ _ _ _ _ _ _ _
  · have hX := Lib.hid (hex_any (s.extract 0 i) m ex ng tr w m0 m1 hGh.out.f64 hGh.out.at53)
    go_wp2_with (go_at_call 49; refine hX.out.mono ?_; rintro e w' ⟨⟨f, er, rfl, her⟩, hb⟩)
    refine bodyPost_ret (results_tmp3 rfl _ _ _) rfl ⟨⟨_, i, _, rfl, ?_⟩, hb⟩
    rcases her with rfl | rfl
    · exact .inl ⟨rfl, hne⟩
    · exact .inr ⟨1, .inl rfl, rfl⟩
end Go.Proofs.YtjaibjdhfljmmaaDoor
