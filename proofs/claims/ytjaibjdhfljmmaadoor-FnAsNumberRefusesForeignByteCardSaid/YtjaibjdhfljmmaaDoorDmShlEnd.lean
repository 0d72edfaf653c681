/-
  leftShift: the digits of the carry, the end.
-/
import Derived.Test.YtjaibjdhfljmmaaDoorDmCut
import Derived.Test.YtjaibjdhfljmmaaDoorDmLeft
import Derived.Test.YtjaibjdhfljmmaaDoorDm
import Derived.Test.YtjaibjdhfljmmaaDoorDmNum
namespace Go.Proofs.YtjaibjdhfljmmaaDoor
open Go.RowKit
set_option maxRecDepth 100000
set_option maxHeartbeats 4000000

/-- The table of cheats: a slice of 61 entries. -/
def Cheats (B : Nat) (w : World) : Prop := ∃ G o c, 11 < B ∧ G < B ∧ w.cell? ⟨11, 0, none⟩ = some (.slice (some ⟨G, o, none⟩) 61 c) ∧
  ∀ k, k < 61 → ∃ (e : Nat) (s : ByteArray), w.cell? ⟨G, o + k * 2, none⟩ = some (.int .i64 e) ∧ w.cell? ⟨G, o + k * 2 + 1, none⟩ = some (.string s) ∧ (0 < k → Cheat k e s)

theorem Cheats.keep {B : Nat} {w w' : World} (h : Cheats B w) (hb : Below B w w') : Cheats B w' := by
  obtain ⟨G, o, c, h1, h2, h3, h4⟩ := h
  refine ⟨G, o, c, h1, h2, by rw [hb.cell (p := ⟨11, 0, none⟩) h1]; exact h3, fun k hk => ?_⟩
  obtain ⟨e, s, h5, h6, h7⟩ := h4 k hk
  exact ⟨e, s, by rw [hb.cell (p := ⟨G, o + k * 2, none⟩) h2]; exact h5, by rw [hb.cell (p := ⟨G, o + k * 2 + 1, none⟩) h2]; exact h6, h7⟩

/-- A decimal of digits, the first one not 0. -/
def Lead (d : Nat → Int) (nd : Nat) : Prop := Dig d nd ∧ 49 ≤ d 0

noncomputable def shlStmt (n : Nat) : Code := seqDrop n (Tryd.f80.body.getD .skip)

/-- What leftShift leaves: a leading digit, the point moved by f; where it didn't move, a greater first digit. -/
def Shl (B : Nat) (dp : Int) (d : Nat → Int) (w : World) (e : Ending) (w' : World) : Prop :=
  e = .returned (.tuple #[]) ∧ (∃ (n f : Nat) (d' : Nat → Int), 0 < n ∧ Lead d' n ∧ Dm w' B n (dp + f) d' ∧ f ≤ 61 ∧ (f = 0 → d 0 < d' 0)) ∧ Below B w w'

theorem Fewer.lead {w' : World} {B nd : Nat} {dp : Int} {d : Nat → Int} (h : Fewer w' B nd dp d) (hL : Lead d nd) (hn : 0 < nd) : ∃ n, 0 < n ∧ Lead d n ∧ Dm w' B n dp d := by
  obtain ⟨n, q, hle, hD, hq, h0⟩ := h
  have h1 := h0 hn hL.2
  have h2 := hq h1
  subst h2
  exact ⟨n, h1, ⟨fun j hj => hL.1 j (by omega), hL.2⟩, hD⟩

/-- No digit more: the first digit grows. -/
theorem shl_grows {d d' : Nat → Int} {nd k T : Nat} (hk : 0 < k) (hn : 0 < nd) (hL : Lead d nd) (hT : T = dnum d nd * 2 ^ k) (hT1 : T < 10 ^ nd) (hW : Wrote T nd 0 d') : d 0 < d' 0 := by
  obtain ⟨b, rfl⟩ : ∃ b, nd = b + 1 := ⟨nd - 1, by omega⟩
  rw [hW 0 (by omega) (by omega) (by omega), show b + 1 - 1 - 0 = b by omega]
  have h0 := hL.1 0 (by omega)
  have h49 := hL.2
  obtain ⟨m, hm, _⟩ := dnum_split (d := d) 1 (m := b) (by rw [Nat.add_comm]; exact hL.1)
  have p : 0 < 10 ^ b := Nat.pow_pos (by omega)
  have e1 : dnum d 1 = (d 0 - 48).toNat := by simp [dnum]
  rw [Nat.add_comm 1 b, e1] at hm
  have h2 : 2 ≤ 2 ^ k := by
    obtain ⟨j, rfl⟩ : ∃ j, k = j + 1 := ⟨k - 1, by omega⟩
    rw [Nat.pow_succ]
    have : 0 < 2 ^ j := Nat.pow_pos (by omega)
    omega
  have h3 : (d 0 - 48).toNat * 2 * 10 ^ b ≤ T := by
    rw [hT, hm]
    calc (d 0 - 48).toNat * 2 * 10 ^ b = (d 0 - 48).toNat * 10 ^ b * 2 := Nat.mul_right_comm _ _ _
      _ ≤ ((d 0 - 48).toNat * 10 ^ b + m) * 2 := Nat.mul_le_mul_right _ (Nat.le_add_right _ _)
      _ ≤ ((d 0 - 48).toNat * 10 ^ b + m) * 2 ^ k := Nat.mul_le_mul_left _ h2
  have h4 : (d 0 - 48).toNat * 2 ≤ T / 10 ^ b := (Nat.le_div_iff_mul_le p).2 h3
  have h5 : T / 10 ^ b < 10 := Nat.div_lt_of_lt_mul (by rw [← Nat.pow_succ]; exact hT1)
  rw [Nat.mod_eq_of_lt h5]
  omega

theorem off_gen {w : World} {B o i : Nat} {v x : Value} (h : w.cell? ⟨B, i, none⟩ = some x) (ho : o ≠ i) : (w.setCell ⟨B, o, none⟩ v).cell? ⟨B, i, none⟩ = some x := by
  rw [off_ne ho]; exact h

theorem Dm.setNd2 {w : World} {B nd : Nat} {dp : Int} {d : Nat → Int} (h : Dm w B nd dp d) (x : Value) (m : Nat) (hm : m ≤ 800) :
    Dm ((w.setCell ⟨B, 800, none⟩ x).setCell ⟨B, 800, none⟩ (.int .i64 m)) B m dp d := by
  have hb : ∃ cs, ((w.setCell ⟨B, 800, none⟩ x).setCell ⟨B, 800, none⟩ (.int .i64 m)).heap[B]? = some (.cells cs 110 (0, 0)) ∧ cs.size = 804 := by
    obtain ⟨cs, hc, hs⟩ := h.blk' 800 x
    exact ⟨_, set_same _ hc, by simp [hs]⟩
  refine ⟨hb, fun k hk => ?_, ?_, ?_, ?_, ?_, hm⟩
  · rw [off_ne (by omega), off_ne (by omega)]; exact h.dig k hk
  · exact World.cell?_setCell_same _ _ _ (World.cell?_setCell_same _ _ _ h.cnd)
  · rw [off_ne (by omega), off_ne (by omega)]; exact h.cdp
  · rw [off_ne (by omega), off_ne (by omega)]; exact h.cng
  · rw [off_ne (by omega), off_ne (by omega)]; exact h.ctr

theorem shl_end (B nd k f T nn : Nat) (dp : Int) (d d' : Nat → Int) (w wr : World) (hf : f ≤ 61) (hn : 0 < nd) (hnn : nn < 2305843009213693952) (hT1 : T < 10 ^ (nd + f)) (hT2 : 10 ^ (nd + f) ≤ T * 10) (hp : -1000000000000 ≤ dp ∧ dp ≤ 1000000000000)
    (hD : Dm wr B nd dp d') (hG : ∀ d', f = 0 → Wrote T (nd + f) 0 d' → d 0 < d' 0) (hN : nn = T / 10 ^ nd) (hW : Wrote T (nd + f) f d') (hB : Below B w wr)
    (c2 c3 c5 c8 c9 c10 c11 c12 c13 c14 c15 c16 c17 c18 c19 c20 c21 c22 c23 c24 c25 c26 c27 c28 c29 c30 c31 c32 c33 c34 c35 c36 c37 c38 c39 c40 c41 c42 c43 c44 c45 c46 c47 c48 c49 c50 c51 c52 c53 c54 c55 c56 c57 c58 c59 c60 c61 c62 c63 c64 c65 c66 c67 c68 c69 c70 c71 c72 c73 c74 c75 c76 c77 c78 c79 c80 c81 c82 c83 c84 c85 c86 c87 c88 c89 c90 c91 c92 c93 c94 c95 c96 c97 c98 c99 c100 c101 c102 c103 c104 c105 c106 c107 c108 c109 c110 c111 c112 c113 c114 c115 c116 c117 c118 c119 c120 c121 c122 c123 c124 c125 c126 c127 c128 c129 c130 c131 c132 c133 c134 c135 c136 : Value) :
    Code.wp Tryd.prog (shlStmt 6) (bodyPost Tryd.prog Tryd.f80 fun e w' => Shl B dp d w e w') ⟨(List.toArray ((Value.pointer (some ⟨B, 0, none⟩)) :: (Value.int .u64 (k : Nat)) :: c2 :: c3 :: (Value.int .i64 (f : Nat)) :: c5 :: (Value.int .i64 (f : Nat)) :: (Value.int .u64 (nn : Nat)) :: c8 :: c9 :: c10 :: c11 :: c12 :: c13 :: c14 :: c15 :: c16 :: c17 :: c18 :: c19 :: c20 :: c21 :: c22 :: c23 :: c24 :: c25 :: c26 :: c27 :: c28 :: c29 :: c30 :: c31 :: c32 :: c33 :: c34 :: c35 :: c36 :: c37 :: c38 :: c39 :: c40 :: c41 :: c42 :: c43 :: c44 :: c45 :: c46 :: c47 :: c48 :: c49 :: c50 :: c51 :: c52 :: c53 :: c54 :: c55 :: c56 :: c57 :: c58 :: c59 :: c60 :: c61 :: c62 :: c63 :: c64 :: c65 :: c66 :: c67 :: c68 :: c69 :: c70 :: c71 :: c72 :: c73 :: c74 :: c75 :: c76 :: c77 :: c78 :: c79 :: c80 :: c81 :: c82 :: c83 :: c84 :: c85 :: c86 :: c87 :: c88 :: c89 :: c90 :: c91 :: c92 :: c93 :: c94 :: c95 :: c96 :: c97 :: c98 :: c99 :: c100 :: c101 :: c102 :: c103 :: c104 :: c105 :: c106 :: c107 :: c108 :: c109 :: c110 :: c111 :: c112 :: c113 :: c114 :: c115 :: c116 :: c117 :: c118 :: c119 :: c120 :: c121 :: c122 :: c123 :: c124 :: c125 :: c126 :: c127 :: c128 :: c129 :: c130 :: c131 :: c132 :: c133 :: c134 :: c135 :: c136 :: [])), []⟩ wr := by
  have hle := hD.le
  have hle1 : (nd : Int) ≤ 800 := by omega
  have hT1' := Lib.hid hT1
  have hT2' := Lib.hid hT2
  have hDh := Lib.hid hD
  have hNh := Lib.hid hN
  have hGh := Lib.hid hG
  have hWh := Lib.hid hW
  have hBh := Lib.hid hB
  clear hT1 hT2 hD hN hG hW hB
  conv => arg 2; whnf
  go_upto_block 2 with fail
  go_cut [6, 7] from 8 (fun m n wx => ∃ (d' : Nat → Int), m = .int .i64 0 ∧ n = .int .u64 0 ∧ Hid (Dm wx B nd dp d') ∧ Hid (Wrote T (nd + f) 0 d') ∧ Hid (Below B w wx))
  case first =>
    go_wp2_with fail
    go_loopw [6, 7] (fun m n wr => ∃ (q nn : Nat) (d' : Nat → Int), m = .int .i64 q ∧ n = .int .u64 nn ∧ q ≤ f ∧ nn < 2305843009213693952 ∧ Hid (nn = T / 10 ^ (nd + f - q)) ∧ Hid (Dm wr B nd dp d') ∧ Hid (Wrote T (nd + f) q d') ∧ Hid (Below B w wr)) (fun m _ _ => (intOf m).toNat)
    case atStart => exact ⟨f, nn, d', rfl, rfl, Nat.le_refl _, hnn, Lib.hid (by rw [show nd + f - f = nd by omega]; exact hNh.out), hDh, hWh, hBh⟩
    case round =>
      clear hNh hWh hBh hDh hnn
      obtain ⟨q, nn, d', rfl, rfl, hq, hnn, hN, hD', hW, hB⟩ := hrel
      by_cases hn0 : nn = 0
      · subst hn0
        have hq0 := rest_done hN.out hT2'.out (by omega)
        subst hq0
        go_wp2_with fail
        go_meet
        case rel => exact ⟨d', by go_num, by go_num, hD', hW, hB⟩
      · have hpos := rest_pos hN.out hT1'.out (by omega)
        obtain ⟨r, rfl⟩ : ∃ r, q = r + 1 := ⟨q - 1, by omega⟩
        have hst := Lib.hid (rest_step hN.out (by omega))
        have e3 : IntKind.u64.wrap ((nn : Int).tdiv 10) = ((nn / 10 : Nat) : Int) := by
          rw [Int.tdiv_eq_ediv_of_nonneg (by omega), wrap_of _ (by omega) (by omega)]
          omega
        have h0 : (0 : Int) < (nn : Int) := by omega
        have h8 : r < 800 := by omega
        have h8' : (r : Int) < 800 := by omega
        have c4 := hD'.out.dig r h8
        have hf8 := hD'.out.free r
        clear hn0 hpos
        go_wp2_with fail
        go_round
        case rel =>
          refine ⟨r, nn / 10, fun j => if j = r then (nn : Int) - 10 * ((nn : Int) / 10) + 48 else d' j, by go_num, by go_num, by omega, by omega, hst, Lib.hid (hD'.out.set _ h8 _), Lib.hid ?_, Lib.hid (hB.out.setCell (Nat.le_refl _) _)⟩
          have hw := Wrote.put (T := T) (a := nd + f) (m := r) (d := d') hW.out
          rw [show nd + f - 1 - r = nd + f - (r + 1) by omega, ← hN.out] at hw
          rw [show (nn : Int) - 10 * ((nn : Int) / 10) + 48 = 48 + ((nn % 10 : Nat) : Int) by omega]
          exact hw
        case measure => simp [intOf]
  case rest =>
    clear hNh hWh hBh hDh hnn
    obtain ⟨d', rfl, rfl, hD', hW, hB⟩ := hcut
    rename_i K9 hk9
    apply hk9
    clear hk9 K9
    have c1 := hD'.out.cnd
    have c2 := hD'.out.cdp
    have hf1 := hD'.out.free 800
    have hf2 := hD'.out.free 801
    have hL : Lead d' (min 800 (nd + f)) := ⟨hW.out.dig _ (by omega) (by omega), hW.out.lead (by omega) hT2'.out hT1'.out⟩
    have hLh := Lib.hid hL
    clear hL
    by_cases h8 : 800 ≤ nd + f
    · have h8' : (800 : Int) ≤ (nd : Int) + f := by omega
      have h800 : min 800 (nd + f) = 800 := by omega
      rw [h800] at hLh
      have hT := Lib.hid (dtrim_any B 800 (dp + f) d' _ ((hD'.out.setNd2 (.int .i64 ((nd : Int) + f)) 800 (by omega)).setDp (dp + f)))
      go_wp2_with (go_at_call 87; refine hT.out.mono ?_; rintro e w' ⟨rfl, hF, hb⟩)
      go_end0
      obtain ⟨n, h1, h2, h3⟩ := hF.lead hLh.out (by omega)
      exact ⟨rfl, ⟨n, f, d', h1, h2, h3, hf, fun h => hGh.out d' h hW.out⟩, ((((hB.out.setCell (Nat.le_refl _) _).setCell (Nat.le_refl _) _).setCell (Nat.le_refl _) _).trans hb)⟩
    · have h8' : ¬ (800 : Int) ≤ (nd : Int) + f := by omega
      have h800 : min 800 (nd + f) = nd + f := by omega
      rw [h800] at hLh
      have hS := hD'.out.setNd (nd + f) (by omega)
      rw [Int.natCast_add] at hS
      have hT := Lib.hid (dtrim_any B (nd + f) (dp + f) d' _ (hS.setDp (dp + f)))
      clear hS
      go_wp2_with (go_at_call 87; refine hT.out.mono ?_; rintro e w' ⟨rfl, hF, hb⟩)
      go_end0
      obtain ⟨n, h1, h2, h3⟩ := hF.lead hLh.out (by omega)
      exact ⟨rfl, ⟨n, f, d', h1, h2, h3, hf, fun h => hGh.out d' h hW.out⟩, (((hB.out.setCell (Nat.le_refl _) _).setCell (Nat.le_refl _) _).trans hb)⟩
end Go.Proofs.YtjaibjdhfljmmaaDoor
