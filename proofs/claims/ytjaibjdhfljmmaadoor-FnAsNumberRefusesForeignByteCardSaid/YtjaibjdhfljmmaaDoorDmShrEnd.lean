/-
  rightShift: its last loop, the end.
-/
import Derived.Test.YtjaibjdhfljmmaaDoorDmShl
import Derived.Test.YtjaibjdhfljmmaaDoorDmRight
namespace Go.Proofs.YtjaibjdhfljmmaaDoor
open Go.RowKit
set_option maxRecDepth 100000
set_option maxHeartbeats 4000000

noncomputable def shrStmt (n : Nat) : Code := seqDrop n (Tryd.f81.body.getD .skip)

/-- What rightShift leaves: digits, the first one q. -/
def Shr0 (B : Nat) (dp : Int) (q : Nat) (w : World) (e : Ending) (w' : World) : Prop :=
  e = .returned (.tuple #[]) ∧ (∃ (n : Nat) (d' : Nat → Int), 0 < n ∧ Lead d' n ∧ Dm w' B n dp d' ∧ d' 0 = 48 + (q : Int)) ∧ Below B w w'

theorem shr_end (B nd k w0 n N0 : Nat) (dp : Int) (d : Nat → Int) (w wr : World) (hk : 0 < k) (hk' : k < 61) (hw0 : w0 ≤ 800) (hn : n < 10 * 2 ^ k) (hN : N0 < 10 * 2 ^ k) (hN' : 2 ^ k ≤ N0)
    (hz : w0 = 0 → n = N0) (hdig : Dig d w0) (hd0 : 0 < w0 → d 0 = 48 + ((N0 / 2 ^ k : Nat) : Int)) (hD : Dm wr B nd dp d) (hB : Below B w wr)
    (c2 c3 c4 c7 c9 c10 c11 c12 c13 c14 c15 c16 c17 c18 c19 c20 c21 c22 c23 c24 c25 c26 c27 c28 c29 c30 c31 c32 c33 c34 c35 c36 c37 c38 c39 c40 c41 c42 c43 c44 c45 c46 c47 c48 c49 c50 c51 c52 c53 c54 c55 c56 c57 c58 c59 c60 c61 c62 c63 c64 c65 c66 c67 c68 c69 c70 c71 c72 c73 c74 c75 c76 c77 c78 c79 c80 c81 c82 c83 c84 c85 c86 c87 c88 c89 c90 c91 c92 c93 c94 c95 c96 c97 c98 c99 c100 c101 c102 c103 c104 c105 c106 c107 c108 c109 c110 c111 c112 c113 c114 c115 c116 c117 c118 c119 c120 c121 c122 c123 c124 c125 c126 c127 c128 c129 : Value) :
    Code.wp Tryd.prog (shrStmt 7) (bodyPost Tryd.prog Tryd.f81 fun e w' => Shr0 B dp (N0 / 2 ^ k) w e w') ⟨(List.toArray ((Value.pointer (some ⟨B, 0, none⟩)) :: (Value.int .u64 (k : Nat)) :: c2 :: c3 :: c4 :: (Value.int .i64 (w0 : Nat)) :: (Value.int .u64 (n : Nat)) :: c7 :: (Value.int .u64 ((2 : Int) ^ k - 1)) :: c9 :: c10 :: c11 :: c12 :: c13 :: c14 :: c15 :: c16 :: c17 :: c18 :: c19 :: c20 :: c21 :: c22 :: c23 :: c24 :: c25 :: c26 :: c27 :: c28 :: c29 :: c30 :: c31 :: c32 :: c33 :: c34 :: c35 :: c36 :: c37 :: c38 :: c39 :: c40 :: c41 :: c42 :: c43 :: c44 :: c45 :: c46 :: c47 :: c48 :: c49 :: c50 :: c51 :: c52 :: c53 :: c54 :: c55 :: c56 :: c57 :: c58 :: c59 :: c60 :: c61 :: c62 :: c63 :: c64 :: c65 :: c66 :: c67 :: c68 :: c69 :: c70 :: c71 :: c72 :: c73 :: c74 :: c75 :: c76 :: c77 :: c78 :: c79 :: c80 :: c81 :: c82 :: c83 :: c84 :: c85 :: c86 :: c87 :: c88 :: c89 :: c90 :: c91 :: c92 :: c93 :: c94 :: c95 :: c96 :: c97 :: c98 :: c99 :: c100 :: c101 :: c102 :: c103 :: c104 :: c105 :: c106 :: c107 :: c108 :: c109 :: c110 :: c111 :: c112 :: c113 :: c114 :: c115 :: c116 :: c117 :: c118 :: c119 :: c120 :: c121 :: c122 :: c123 :: c124 :: c125 :: c126 :: c127 :: c128 :: c129 :: [])), []⟩ wr := by
  have hp2 : 0 < 2 ^ k := Nat.pow_pos (by omega)
  have hN0 : 0 < N0 := by omega
  obtain ⟨q0, hq0⟩ : ∃ q, q = N0 / 2 ^ k := ⟨_, rfl⟩
  have hq1 : 1 ≤ q0 := by rw [hq0]; exact (Nat.le_div_iff_mul_le hp2).2 (by omega)
  have hq9 : q0 ≤ 9 := by
    have := Nat.div_lt_of_lt_mul (show N0 < 2 ^ k * 10 by rw [Nat.mul_comm]; exact hN)
    omega
  rw [← hq0] at hd0 ⊢
  have hnh := Lib.hid hn
  have hNh := Lib.hid hN
  have hNh' := Lib.hid hN'
  have hq0h := Lib.hid hq0
  have hzh := Lib.hid hz
  have hdigh := Lib.hid hdig
  have hd0h := Lib.hid hd0
  have hDh := Lib.hid hD
  have hBh := Lib.hid hB
  clear hn hN hN' hz hdig hd0 hD hB hp2 hq0
  conv => arg 2; whnf
  go_upto_block 6 with fail
  go_cut [5, 6] from 7 (fun a b wx => ∃ (v : Nat) (d' : Nat → Int), a = .int .i64 v ∧ b = .int .u64 0 ∧ 0 < v ∧ v ≤ 800 ∧ Hid (Dig d' v) ∧ Hid (d' 0 = 48 + (q0 : Int)) ∧ Hid (Dm wx B nd dp d') ∧ Hid (Below B w wx))
  case first =>
    go_wp2_with fail
    go_loopw [5, 6] (fun a b wr => ∃ (v n : Nat) (d' : Nat → Int), a = .int .i64 v ∧ b = .int .u64 n ∧ v ≤ 800 ∧ Hid (n < 10 * 2 ^ k) ∧ Hid (v = 0 → n = N0) ∧ Hid (Dig d' v) ∧ Hid (0 < v → d' 0 = 48 + (q0 : Int)) ∧ Hid (Dm wr B nd dp d') ∧ Hid (Below B w wr)) (fun _ b _ => muz k (intOf b).toNat)
    case atStart => exact ⟨w0, n, d, rfl, rfl, hw0, hnh, hzh, hdigh, hd0h, hDh, hBh⟩
    case round =>
      clear hnh hzh hdigh hd0h hDh hBh hw0
      obtain ⟨v, n, d', rfl, rfl, hv, hn, hz, hdig, hd0, hD, hB⟩ := hrel
      by_cases hn0 : n = 0
      · subst hn0
        have hv0 : 0 < v := by
          rcases Nat.eq_zero_or_pos v with h | h
          · have := hz.out h
            omega
          · exact h
        go_wp2_with fail
        go_meet
        case rel => exact ⟨v, d', rfl, rfl, hv0, hv, hdig, Lib.hid (hd0.out hv0), hD, hB⟩
      · obtain ⟨q, r, hq, hr, hq9', hr1, hr2, hb, e1, e2⟩ := shr_parts n k hk' hn.out
        have hms : Hid (muz k (r * 10) < muz k n) := Lib.hid (by rw [hr]; exact muz_step hk (by omega))
        have hn' : Hid (r * 10 < 10 * 2 ^ k) := Lib.hid (by omega)
        have hqh := Lib.hid hq
        have h0 : (0 : Int) < (n : Int) := by omega
        have e3 : (q : Int) ≤ 9 := by omega
        clear hq hr hr1 hn0 hn hb hq9'
        by_cases h8 : v < 800
        · have h8' : (v : Int) < 800 := by omega
          have c4 := hD.out.dig v h8
          have hf8 := hD.out.free v
          go_wp2_with fail
          go_round
          case rel =>
            refine ⟨v + 1, r * 10, fun j => if j = v then (q : Int) + 48 else d' j, by go_num, by go_num, by omega, hn', Lib.hid (fun h => absurd h (by omega)), Lib.hid (fun j hj => ?_), Lib.hid (fun _ => ?_), Lib.hid (hD.out.set _ h8 _), Lib.hid (hB.out.setCell (Nat.le_refl _) _)⟩
            · by_cases hjv : j = v
              · simp only [if_pos hjv]
                omega
              · simp only [if_neg hjv]
                exact hdig.out j (by omega)
            · by_cases hv0 : 0 = v
              · subst hv0
                have h1 := hz.out rfl
                rw [h1] at hqh
                have h2 := hqh.out
                have h3 := hq0h.out
                simp only [if_true]
                omega
              · simp only [if_neg hv0]
                exact hd0.out (by omega)
          case measure =>
            simp [intOf]
            rw [show ((r : Int) * 10).toNat = r * 10 by omega]
            exact hms.out
        · have h8' : ¬ (v : Int) < 800 := by omega
          obtain ⟨tb, ct⟩ := hD.out.ctr
          have hf8 := hD.out.free 803
          by_cases hq0 : 0 < q
          · have hq0' : (0 : Int) < (q : Int) := by omega
            go_wp2_with fail
            go_round
            case rel => exact ⟨v, r * 10, d', rfl, by go_num, hv, hn', Lib.hid (fun h => absurd h (by omega)), hdig, hd0, Lib.hid (hD.out.setTr _), Lib.hid (hB.out.setCell (Nat.le_refl _) _)⟩
            case measure =>
              simp [intOf]
              rw [show ((r : Int) * 10).toNat = r * 10 by omega]
              exact hms.out
          · have hq0' : ¬ (0 : Int) < (q : Int) := by omega
            go_wp2_with fail
            go_round
            case rel => exact ⟨v, r * 10, d', rfl, by go_num, hv, hn', Lib.hid (fun h => absurd h (by omega)), hdig, hd0, hD, hB⟩
            case measure =>
              simp [intOf]
              rw [show ((r : Int) * 10).toNat = r * 10 by omega]
              exact hms.out
  case rest =>
    clear hnh hzh hdigh hd0h hDh hBh hw0
    obtain ⟨v, d', rfl, rfl, hv0, hv, hdig, hd0, hD, hB⟩ := hcut
    rename_i K9 hk9
    apply hk9
    clear hk9 K9
    have c1 := hD.out.cnd
    have hf1 := hD.out.free 800
    have hL : Lead d' v := ⟨hdig.out, by rw [hd0.out]; omega⟩
    have hLh := Lib.hid hL
    clear hL
    have hT := Lib.hid (dtrim_any B v dp d' _ (hD.out.setNd v hv))
    go_wp2_with (go_at_call 87; refine hT.out.mono ?_; rintro e w' ⟨rfl, hF, hb⟩)
    go_end0
    obtain ⟨n, h1, h2, h3⟩ := hF.lead hLh.out hv0
    exact ⟨rfl, ⟨n, d', h1, h2, h3, hd0.out⟩, ((hB.out.setCell (Nat.le_refl _) _).trans hb)⟩
end Go.Proofs.YtjaibjdhfljmmaaDoor
