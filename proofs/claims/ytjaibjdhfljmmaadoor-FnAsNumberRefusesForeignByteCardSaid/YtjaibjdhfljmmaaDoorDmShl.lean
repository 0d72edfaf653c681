/-
  leftShift: the digits that it reads.
  leftShift.
-/
import Derived.Test.YtjaibjdhfljmmaaDoorDmShlEnd
namespace Go.Proofs.YtjaibjdhfljmmaaDoor
open Go.RowKit
set_option maxRecDepth 100000
set_option maxHeartbeats 4000000

theorem lt61 {n k : Nat} (hk : k < 61) (h : n < 2 ^ k) : n < 2305843009213693952 :=
  Nat.lt_of_lt_of_le h (Nat.le_trans (Nat.pow_le_pow_right (by omega) (show k ≤ 61 by omega)) (by decide))

theorem shl_rest (B nd k f T : Nat) (dp : Int) (d : Nat → Int) (w : World) (n0 : Nat) (hk : 0 < k) (hk' : k < 61) (hf : f ≤ 61) (hn : 0 < nd) (hD : Dm w B nd dp d) (hL : Lead d nd) (hT : T = dnum d nd * 2 ^ k) (hT1 : T < 10 ^ (nd + f)) (hT2 : 10 ^ (nd + f) ≤ T * 10) (hp : -1000000000000 ≤ dp ∧ dp ≤ 1000000000000)
    (c2 c3 c5 c6 c7 c8 c9 c10 c11 c12 c13 c14 c15 c16 c17 c18 c19 c20 c21 c22 c23 c24 c25 c26 c27 c28 c29 c30 c31 c32 c33 c34 c35 c36 c37 c38 c39 c40 c41 c42 c43 c44 c45 c46 c47 c48 c49 c50 c51 c52 c53 c54 c55 c56 c57 c58 c59 c60 c61 c62 c63 c64 c65 c66 c67 c68 c69 c70 c71 c72 c73 c74 c75 c76 c77 c78 c79 c80 c81 c82 c83 c84 c85 c86 c87 c88 c89 c90 c91 c92 c93 c94 c95 c96 c97 c98 c99 c100 c101 c102 c103 c104 c105 c106 c107 c108 c109 c110 c111 c112 c113 c114 c115 c116 c117 c118 c119 c120 c121 c122 c123 c124 c125 c126 c127 c128 c129 c130 c131 c132 c133 c134 c135 c136 : Value) :
    Code.wp Tryd.prog (shlStmt 2) (bodyPost Tryd.prog Tryd.f80 fun e w' => Shl B dp d w e w') ⟨(List.toArray ((Value.pointer (some ⟨B, 0, none⟩)) :: (Value.int .u64 (k : Nat)) :: c2 :: c3 :: (Value.int .i64 (f : Nat)) :: c5 :: c6 :: c7 :: c8 :: c9 :: c10 :: c11 :: c12 :: c13 :: c14 :: c15 :: c16 :: c17 :: c18 :: c19 :: c20 :: c21 :: c22 :: c23 :: c24 :: c25 :: c26 :: c27 :: c28 :: c29 :: c30 :: c31 :: c32 :: c33 :: c34 :: c35 :: c36 :: c37 :: c38 :: c39 :: c40 :: c41 :: c42 :: c43 :: c44 :: c45 :: c46 :: c47 :: c48 :: c49 :: c50 :: c51 :: c52 :: c53 :: c54 :: c55 :: c56 :: c57 :: c58 :: c59 :: c60 :: c61 :: c62 :: c63 :: c64 :: c65 :: c66 :: c67 :: c68 :: c69 :: c70 :: c71 :: c72 :: c73 :: c74 :: c75 :: c76 :: c77 :: c78 :: c79 :: c80 :: c81 :: c82 :: c83 :: c84 :: c85 :: c86 :: c87 :: c88 :: c89 :: c90 :: c91 :: c92 :: c93 :: c94 :: c95 :: c96 :: c97 :: c98 :: c99 :: c100 :: c101 :: c102 :: c103 :: c104 :: c105 :: c106 :: c107 :: c108 :: c109 :: c110 :: c111 :: c112 :: c113 :: c114 :: c115 :: c116 :: c117 :: c118 :: c119 :: c120 :: c121 :: c122 :: c123 :: c124 :: c125 :: c126 :: c127 :: c128 :: c129 :: c130 :: c131 :: c132 :: c133 :: c134 :: c135 :: c136 :: [])), []⟩ (w.drewN n0) := by
  have c1 := hD.cnd
  have hle := hD.le
  have hle1 : (nd : Int) ≤ 800 := by omega
  have hT1' := Lib.hid hT1
  have hT2' := Lib.hid hT2
  have hTh := Lib.hid hT
  have hLh := Lib.hid hL
  have hDh := Lib.hid hD
  clear hT hT1 hT2 hL hD
  conv => arg 2; whnf
  go_upto_block 0 with fail
  go_cut [5, 6, 7] from 8 (fun r m n wr => ∃ (nn : Nat) (d' : Nat → Int), m = .int .i64 f ∧ n = .int .u64 nn ∧ nn < 2305843009213693952 ∧ Hid (Dm wr B nd dp d') ∧ Hid (nn = T / 10 ^ nd) ∧ Hid (Wrote T (nd + f) f d') ∧ Hid (Below B w wr))
  case first =>
    go_wp2_with fail
    go_loopw [5, 6, 7] (fun r m n wr => ∃ (q nn : Nat) (z : Int) (d' : Nat → Int), r = .int .i64 z ∧ m = .int .i64 (q + f : Nat) ∧ n = .int .u64 nn ∧ z = (q : Int) - 1 ∧ q ≤ nd ∧ Hid (Dm wr B nd dp d') ∧ Hid (∀ j, j < q → d' j = d j) ∧ Hid (LInv d nd k q nn) ∧ Hid (Wrote T (nd + f) (q + f) d') ∧ Hid (Below B w wr)) (fun r _ _ _ => (intOf r + 1).toNat)
    case atStart => exact ⟨nd, 0, _, d, rfl, by go_num, rfl, by go_num, Nat.le_refl _, Lib.hid (hDh.out.drewN _), Lib.hid (fun _ _ => rfl), Lib.hid (LInv.start d nd k), Lib.hid (Wrote.none T _ d), Lib.hid (below_drewN (Below.refl _ _) _)⟩
    case round =>
      obtain ⟨q, nn, z, d', rfl, rfl, rfl, hz, hq, hD', hsame, hI, hW, hB⟩ := hrel
      by_cases hq0 : q = 0
      · subst hq0
        subst hz
        go_wp2_with fail
        go_meet
        case rel => exact ⟨nn, d', by go_num, rfl, lt61 hk' hI.out.1, hD', Lib.hid (by rw [hTh.out]; exact hI.out.done), Lib.hid (by simpa using hW.out), hB⟩
      · obtain ⟨r, rfl⟩ : ∃ r, q = r + 1 := ⟨q - 1, by omega⟩
        have hz' : z = (r : Int) := by omega
        subst hz'
        clear hz
        have c3 := hD'.out.dig r (by omega)
        have hfr := fun o => hD'.out.free o
        have hdr := hsame.out r (by omega)
        have hdig := hLh.out.1 r (by omega)
        obtain ⟨x, hx⟩ : ∃ x, x = (d' r - 48).toNat * 2 ^ k + nn := ⟨_, rfl⟩
        obtain ⟨e1, e2⟩ := shl_num nn k (d' r) (by omega) (by omega) hk' hI.out.1
        rw [← hx] at e1 e2
        have e3 : IntKind.u64.wrap ((x : Int).tdiv 10) = ((x / 10 : Nat) : Int) := by
          rw [Int.tdiv_eq_ediv_of_nonneg (by omega), wrap_of _ (by omega) (by omega)]
          omega
        have hxh := Lib.hid hx
        clear hx hdr hdig
        by_cases h8 : r + f < 800
        · have h8' : (r : Int) + 1 + f - 1 < 800 := by omega
          have c4 := hD'.out.dig (r + f) h8
          have hf8 := hD'.out.free (r + f)
          have hx' := hxh.out
          rw [hsame.out r (by omega)] at hx'
          obtain ⟨s1, s2⟩ := hI.out.step hq (hLh.out.1 r (by omega))
          rw [← hx'] at s1 s2
          rw [← hTh.out] at s2
          have s1' := Lib.hid s1
          have s2' := Lib.hid s2
          clear s1 s2 hx'
          go_wp2_with fail
          go_round
          case rel =>
            refine ⟨r, x / 10, _, fun j => if j = r + f then (x : Int) - 10 * ((x : Int) / 10) + 48 else d' j, rfl, by go_num, by go_num, rfl, by omega, Lib.hid (hD'.out.set _ h8 _), Lib.hid (fun j hj => ?_), s1', Lib.hid ?_, Lib.hid (hB.out.setCell (Nat.le_refl _) _)⟩
            · simp only [if_neg (show ¬ j = r + f by omega)]
              exact hsame.out j (by omega)
            · have hw := Wrote.put (T := T) (a := nd + f) (m := r + f) (d := d') (by rw [show r + f + 1 = r + 1 + f by omega]; exact hW.out)
              rw [show nd + f - 1 - (r + f) = nd - (r + 1) by omega, ← s2'.out] at hw
              rw [show (x : Int) - 10 * ((x : Int) / 10) + 48 = 48 + ((x % 10 : Nat) : Int) by omega]
              exact hw
          case measure => simp [intOf]
        · have h8' : ¬ (r : Int) + 1 + f - 1 < 800 := by omega
          have hx' := hxh.out
          rw [hsame.out r (by omega)] at hx'
          have s1' := Lib.hid (hI.out.step hq (hLh.out.1 r (by omega))).1
          rw [← hx'] at s1'
          clear hx'
          have hW' : Hid (Wrote T (nd + f) (r + f) d') := Lib.hid (Wrote.past (by omega))
          obtain ⟨tb, ct⟩ := hD'.out.ctr
          have hf8 := hD'.out.free 803
          by_cases hr : (x : Int) - 10 * ((x : Int) / 10) = 0
          · have hr' : ((x : Int) - 10 * ((x : Int) / 10) != 0) = false := by simpa using hr
            clear hr
            go_wp2_with fail
            go_round
            case rel => exact ⟨r, x / 10, _, d', rfl, by go_num, by go_num, rfl, by omega, hD', Lib.hid (fun j hj => hsame.out j (by omega)), s1', hW', hB⟩
            case measure => simp [intOf]
          · have hr' : ((x : Int) - 10 * ((x : Int) / 10) != 0) = true := by simpa using hr
            clear hr
            go_wp2_with fail
            go_round
            case rel => exact ⟨r, x / 10, _, d', rfl, by go_num, by go_num, rfl, by omega, Lib.hid (hD'.out.setTr _), Lib.hid (fun j hj => hsame.out j (by omega)), s1', hW', Lib.hid (hB.out.setCell (Nat.le_refl _) _)⟩
            case measure => simp [intOf]
  case rest =>
    obtain ⟨nn, d', rfl, rfl, hnn, hD', hN, hW, hB⟩ := hcut
    rename_i K9 hk9
    apply hk9
    exact shl_end B nd k f T nn dp d d' w _ hf hn hnn hT1'.out hT2'.out hp hD'.out (fun d'' h0 hw => by subst h0; exact shl_grows hk hn hLh.out hTh.out hT1'.out hw) hN.out hW.out hB.out _ _ _ _ _ _ _ _ _ _ _ _ _ _ _ _ _ _ _ _ _ _ _ _ _ _ _ _ _ _ _ _ _ _ _ _ _ _ _ _ _ _ _ _ _ _ _ _ _ _ _ _ _ _ _ _ _ _ _ _ _ _ _ _ _ _ _ _ _ _ _ _ _ _ _ _ _ _ _ _ _ _ _ _ _ _ _ _ _ _ _ _ _ _ _ _ _ _ _ _ _ _ _ _ _ _ _ _ _ _ _ _ _ _ _ _ _ _ _ _ _ _ _ _ _ _ _ _ _ _ _ _
end Go.Proofs.YtjaibjdhfljmmaaDoor

namespace Go.Proofs.YtjaibjdhfljmmaaDoor
open Go.RowKit
set_option maxRecDepth 100000
set_option maxHeartbeats 4000000

theorem shl_any (B nd k : Nat) (dp : Int) (d : Nat → Int) (w : World) (hk : 0 < k) (hk' : k < 61) (hn : 0 < nd) (hD : Dm w B nd dp d) (hL : Lead d nd) (hC : Cheats B w) (hp : -1000000000000 ≤ dp ∧ dp ≤ 1000000000000) :
    Calls Tryd.prog 80 #[.pointer (some ⟨B, 0, none⟩), .int .u64 k] w fun e w' => Shl B dp d w e w' := by
  obtain ⟨G, o, c, _, _, c11, hc⟩ := hC
  obtain ⟨e, s, ce, cs, hcheat⟩ := hc k hk'
  have hch := Lib.hid (hcheat hk)
  clear hc hcheat
  have c1 := hD.cnd
  have hLg := hL.1
  obtain ⟨b, hb⟩ : ∃ b, b = decide (dnum d nd * 10 ^ s.size < dnum (cdig s) s.size * 10 ^ nd) := ⟨_, rfl⟩
  have HL := Lib.hid (fun W (h : Dm W B nd dp d) (cc : Nat) => less_val B nd cc dp d s W hch.out.small h hLg hch.out.dig (by rw [hch.out.val]; exact five_mod k))
  rw [← hb] at HL
  clear hLg
  obtain ⟨f, hf, hT1, hT2⟩ := hch.out.adds' hb hL.1 hn hL.2
  have hfb : (b = false → e = f) ∧ (b = true → e = f + 1) := ⟨fun h => by subst h; simp only [Bool.false_eq_true, if_false] at hf; omega, fun h => by subst h; simp only [if_true] at hf; omega⟩
  obtain ⟨T, hT⟩ : ∃ T, T = dnum d nd * 2 ^ k := ⟨_, rfl⟩
  rw [← hT] at hT1 hT2
  have hT1' := Lib.hid hT1
  have hT2' := Lib.hid hT2
  have hTh := Lib.hid hT
  have hLh := Lib.hid hL
  clear hb hT1 hT2 hT hL
  have hDh := Lib.hid hD
  have hle := hD.le
  have hle1 : (nd : Int) ≤ 800 := by omega
  have hle2 : (0 : Int) ≤ nd := by omega
  clear hD
  go_enter Tryd.func80, Tryd.ntmps80
  have he : e ≤ 61 := by have := hch.out.size; omega
  have he0 := hch.out.pos
  go_wp2_with fail
  go_quiet ((go_at_call 86; exact Calls.quiet_of (HL.out _ (hDh.out.drewN _) _)))
  rename_i K1 hk1 K2 hk2
  refine hk2 _ _ ?_
  cases b
  · have hf1 := hfb.1 rfl
    clear hfb hf
    subst hf1
    go_upto_if 30 with fail
    go_cut [4] from 5 (fun x wx => x = .int .i64 e ∧ Hid (wx = w.drewN nq))
    case first =>
      go_wp2_with fail
      go_meet
      case rel => exact ⟨rfl, Lib.hid rfl⟩
    case rest =>
      obtain ⟨rfl, hw⟩ := hcut
      have hw' := hw.out
      subst hw'
      refine hk1 _ _ ?_
      exact shl_rest B nd k e T dp d w _ hk hk' (by omega) hn hDh.out hLh.out hTh.out hT1'.out hT2'.out hp _ _ _ _ _ _ _ _ _ _ _ _ _ _ _ _ _ _ _ _ _ _ _ _ _ _ _ _ _ _ _ _ _ _ _ _ _ _ _ _ _ _ _ _ _ _ _ _ _ _ _ _ _ _ _ _ _ _ _ _ _ _ _ _ _ _ _ _ _ _ _ _ _ _ _ _ _ _ _ _ _ _ _ _ _ _ _ _ _ _ _ _ _ _ _ _ _ _ _ _ _ _ _ _ _ _ _ _ _ _ _ _ _ _ _ _ _ _ _ _ _ _ _ _ _ _ _ _ _ _ _ _ _ _
  · have hf1 := hfb.2 rfl
    clear hfb hf
    subst hf1
    go_upto_if 30 with fail
    go_cut [4] from 5 (fun x wx => x = .int .i64 f ∧ Hid (wx = w.drewN nq))
    case first =>
      go_wp2_with fail
      go_meet
      case rel => exact ⟨by go_num, Lib.hid rfl⟩
    case rest =>
      obtain ⟨rfl, hw⟩ := hcut
      have hw' := hw.out
      subst hw'
      refine hk1 _ _ ?_
      exact shl_rest B nd k f T dp d w _ hk hk' (by omega) hn hDh.out hLh.out hTh.out hT1'.out hT2'.out hp _ _ _ _ _ _ _ _ _ _ _ _ _ _ _ _ _ _ _ _ _ _ _ _ _ _ _ _ _ _ _ _ _ _ _ _ _ _ _ _ _ _ _ _ _ _ _ _ _ _ _ _ _ _ _ _ _ _ _ _ _ _ _ _ _ _ _ _ _ _ _ _ _ _ _ _ _ _ _ _ _ _ _ _ _ _ _ _ _ _ _ _ _ _ _ _ _ _ _ _ _ _ _ _ _ _ _ _ _ _ _ _ _ _ _ _ _ _ _ _ _ _ _ _ _ _ _ _ _ _ _ _ _ _
end Go.Proofs.YtjaibjdhfljmmaaDoor
