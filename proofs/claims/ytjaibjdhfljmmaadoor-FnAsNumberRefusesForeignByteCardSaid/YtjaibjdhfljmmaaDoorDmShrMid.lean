/-
  rightShift: a digit read, a digit written.
-/
import Derived.Test.YtjaibjdhfljmmaaDoorDmShrEnd
namespace Go.Proofs.YtjaibjdhfljmmaaDoor
open Go.RowKit
set_option maxRecDepth 100000
set_option maxHeartbeats 4000000

theorem shr_mid (B nd k r0 N0 : Nat) (dp : Int) (d : Nat → Int) (w : World) (hk : 0 < k) (hk' : k < 61) (hr0 : 1 ≤ r0) (hr0' : r0 ≤ 900) (hN : N0 < 10 * 2 ^ k) (hN' : 2 ^ k ≤ N0)
    (hL : Lead d nd) (hp : -1000000000000 ≤ dp ∧ dp ≤ 1000000000000) (hD : Dm w B nd dp d)
    (c2 c3 c7 c8 c9 c10 c11 c12 c13 c14 c15 c16 c17 c18 c19 c20 c21 c22 c23 c24 c25 c26 c27 c28 c29 c30 c31 c32 c33 c34 c35 c36 c37 c38 c39 c40 c41 c42 c43 c44 c45 c46 c47 c48 c49 c50 c51 c52 c53 c54 c55 c56 c57 c58 c59 c60 c61 c62 c63 c64 c65 c66 c67 c68 c69 c70 c71 c72 c73 c74 c75 c76 c77 c78 c79 c80 c81 c82 c83 c84 c85 c86 c87 c88 c89 c90 c91 c92 c93 c94 c95 c96 c97 c98 c99 c100 c101 c102 c103 c104 c105 c106 c107 c108 c109 c110 c111 c112 c113 c114 c115 c116 c117 c118 c119 c120 c121 c122 c123 c124 c125 c126 c127 c128 c129 : Value) :
    Code.wp Tryd.prog (shrStmt 4) (bodyPost Tryd.prog Tryd.f81 fun e w' => Shr0 B (dp - ((r0 : Int) - 1)) (N0 / 2 ^ k) w e w') ⟨(List.toArray ((Value.pointer (some ⟨B, 0, none⟩)) :: (Value.int .u64 (k : Nat)) :: c2 :: c3 :: (Value.int .i64 (r0 : Nat)) :: (Value.int .i64 0) :: (Value.int .u64 (N0 : Nat)) :: c7 :: c8 :: c9 :: c10 :: c11 :: c12 :: c13 :: c14 :: c15 :: c16 :: c17 :: c18 :: c19 :: c20 :: c21 :: c22 :: c23 :: c24 :: c25 :: c26 :: c27 :: c28 :: c29 :: c30 :: c31 :: c32 :: c33 :: c34 :: c35 :: c36 :: c37 :: c38 :: c39 :: c40 :: c41 :: c42 :: c43 :: c44 :: c45 :: c46 :: c47 :: c48 :: c49 :: c50 :: c51 :: c52 :: c53 :: c54 :: c55 :: c56 :: c57 :: c58 :: c59 :: c60 :: c61 :: c62 :: c63 :: c64 :: c65 :: c66 :: c67 :: c68 :: c69 :: c70 :: c71 :: c72 :: c73 :: c74 :: c75 :: c76 :: c77 :: c78 :: c79 :: c80 :: c81 :: c82 :: c83 :: c84 :: c85 :: c86 :: c87 :: c88 :: c89 :: c90 :: c91 :: c92 :: c93 :: c94 :: c95 :: c96 :: c97 :: c98 :: c99 :: c100 :: c101 :: c102 :: c103 :: c104 :: c105 :: c106 :: c107 :: c108 :: c109 :: c110 :: c111 :: c112 :: c113 :: c114 :: c115 :: c116 :: c117 :: c118 :: c119 :: c120 :: c121 :: c122 :: c123 :: c124 :: c125 :: c126 :: c127 :: c128 :: c129 :: [])), []⟩ w := by
  have hle := hD.le
  have hle1 : (nd : Int) ≤ 800 := by omega
  have h60 : 2 ^ k ≤ 2 ^ 60 := Nat.pow_le_pow_right (by omega) (by omega)
  have hms : IntKind.u64.wrap (IntKind.u64.wrap (2 ^ k) - 1) = (2 : Int) ^ k - 1 := by
    have hc : (2 : Int) ^ k = ((2 ^ k : Nat) : Int) := by rw [Int.natCast_pow]; rfl
    have hp2 : 0 < 2 ^ k := Nat.pow_pos (by omega)
    rw [hc]
    obtain ⟨P, hP⟩ : ∃ P, P = 2 ^ k := ⟨_, rfl⟩
    rw [← hP] at hp2 h60 ⊢
    have h61 : P < 18446744073709551616 := Nat.lt_of_le_of_lt h60 (by decide)
    rw [wrap_of (P : Int) (by omega) (by omega), wrap_of ((P : Int) - 1) (by omega) (by omega)]
  have hNh := Lib.hid hN
  have hNh' := Lib.hid hN'
  have hLh := Lib.hid hL
  have hDh := Lib.hid hD
  have c2 := hD.cdp
  have hf1 := hD.free 801
  clear hN hN' hL hD h60
  conv => arg 2; whnf
  go_upto_block 4 with fail
  go_cut [4, 5, 6] from 9 (fun _ a b wx => ∃ (v n : Nat) (d' : Nat → Int), a = .int .i64 v ∧ b = .int .u64 n ∧ v ≤ 800 ∧ Hid (n < 10 * 2 ^ k) ∧ Hid (v = 0 → n = N0) ∧ Hid (Dig d' v) ∧ Hid (0 < v → d' 0 = 48 + ((N0 / 2 ^ k : Nat) : Int)) ∧ Hid (Dm wx B nd (dp - ((r0 : Int) - 1)) d') ∧ Hid (Below B w wx))
  case first =>
    go_wp2_with fail
    go_loopw [4, 5, 6] (fun x a b wr => ∃ (r v n : Nat) (d' : Nat → Int), x = .int .i64 r ∧ a = .int .i64 v ∧ b = .int .u64 n ∧ v ≤ 800 ∧ r ≤ 1700 ∧ Hid (r = v + r0) ∧ Hid (n < 10 * 2 ^ k) ∧ Hid (v = 0 → n = N0) ∧ Hid (Dig d' v) ∧ Hid (0 < v → d' 0 = 48 + ((N0 / 2 ^ k : Nat) : Int)) ∧ Hid (∀ j, v ≤ j → d' j = d j) ∧ Hid (Dm wr B nd (dp - ((r0 : Int) - 1)) d') ∧ Hid (Below B w wr)) (fun x _ _ _ => nd - (intOf x).toNat)
    case atStart => exact ⟨r0, 0, N0, d, rfl, by go_num, rfl, by omega, by omega, Lib.hid (by omega), hNh, Lib.hid (fun _ => rfl), Lib.hid (fun j hj => absurd hj (by omega)), Lib.hid (fun h => absurd h (by omega)), Lib.hid (fun _ _ => rfl), Lib.hid (hDh.out.setDp _), Lib.hid ((Below.refl B w).setCell (p := ⟨B, 801, none⟩) (Nat.le_refl _) _)⟩
    case round =>
      obtain ⟨r, v, n, d', rfl, rfl, rfl, hv, hr, hrv, hn, hz, hdig, hd0, hsame, hD, hB⟩ := hrel
      have cn := hD.out.cnd
      by_cases hrn : r < nd
      · obtain ⟨q, m, hq, hm, hq9', hm1, hm2, hb, e1, e2⟩ := shr_parts n k hk' hn.out
        have hqh := Lib.hid hq
        have e3 : (q : Int) ≤ 9 := by omega
        have hdr := hLh.out.1 r hrn
        have hsr := hsame.out r (by have := hrv.out; omega)
        obtain ⟨c, hc⟩ : ∃ c : Nat, d r = (c : Int) := ⟨(d r).toNat, by omega⟩
        have hc1 : 48 ≤ c := by omega
        have hc2 : c ≤ 57 := by omega
        have c3 := hD.out.dig r (by omega)
        rw [hsr, hc] at c3
        have h800 : v < 800 := by have := hrv.out; omega
        have h800' : (v : Int) < 800 := by omega
        have hrn' : (r : Int) < (nd : Int) := by omega
        have c4 := hD.out.dig v h800
        have hf8 := hD.out.free v
        have hn' : Hid (m * 10 + (c - 48) < 10 * 2 ^ k) := Lib.hid (by omega)
        clear hq hm hm1 hn hb hq9' hdr hsr hc
        go_wp2_with fail
        go_round
        case rel =>
          refine ⟨r + 1, v + 1, m * 10 + (c - 48), fun j => if j = v then (q : Int) + 48 else d' j, by go_num, by go_num, congrArg (Value.int .u64) (by omega), by omega, by omega, Lib.hid (by have := hrv.out; omega), hn', Lib.hid (fun h => absurd h (by omega)), Lib.hid (fun j hj => ?_), Lib.hid (fun _ => ?_), Lib.hid (fun j hj => ?_), Lib.hid (hD.out.set _ h800 _), Lib.hid (hB.out.setCell (Nat.le_refl _) _)⟩
          · by_cases hjv : j = v
            · simp only [if_pos hjv]
              omega
            · simp only [if_neg hjv]
              exact hdig.out j (by omega)
          · by_cases hv0 : 0 = v
            · subst hv0
              have h1 := hz.out rfl
              rw [h1] at hqh
              have h2 := hqh.out
              simp only [if_true]
              omega
            · simp only [if_neg hv0]
              exact hd0.out (by omega)
          · simp only [if_neg (show ¬ j = v by omega)]
            exact hsame.out j (by omega)
        case measure => simp [intOf]; omega
      · have hrn' : ¬ (r : Int) < (nd : Int) := by omega
        go_wp2_with fail
        go_meet
        case rel => exact ⟨v, n, d', rfl, rfl, hv, hn, hz, hdig, hd0, hD, hB⟩
  case rest =>
    clear hDh
    obtain ⟨v, n, d', rfl, rfl, hv, hn, hz, hdig, hd0, hD, hB⟩ := hcut
    rename_i K9 hk9
    apply hk9
    exact shr_end B nd k v n N0 (dp - ((r0 : Int) - 1)) d' w _ hk hk' hv hn.out hNh.out hNh'.out hz.out hdig.out hd0.out hD.out hB.out _ _ _ _ _ _ _ _ _ _ _ _ _ _ _ _ _ _ _ _ _ _ _ _ _ _ _ _ _ _ _ _ _ _ _ _ _ _ _ _ _ _ _ _ _ _ _ _ _ _ _ _ _ _ _ _ _ _ _ _ _ _ _ _ _ _ _ _ _ _ _ _ _ _ _ _ _ _ _ _ _ _ _ _ _ _ _ _ _ _ _ _ _ _ _ _ _ _ _ _ _ _ _ _ _ _ _ _ _ _ _ _ _ _ _ _ _ _ _ _ _ _ _ _ _
end Go.Proofs.YtjaibjdhfljmmaaDoor
