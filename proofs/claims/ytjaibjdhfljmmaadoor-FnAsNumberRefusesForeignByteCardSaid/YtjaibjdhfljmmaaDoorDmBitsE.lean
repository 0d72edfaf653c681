/-
  floatBits: the first loop, down to a fraction.
-/
import Derived.Test.YtjaibjdhfljmmaaDoorDmBitsD
namespace Go.Proofs.YtjaibjdhfljmmaaDoor
open Go.RowKit
set_option maxRecDepth 1000000
set_option maxHeartbeats 4000000

def highMu (dp c : Int) : Nat := 2 * dp.toNat + (if 56 ≤ c then 1 else 0)

theorem high_le {dp c : Int} (h : dp ≤ 310) : highMu dp c ≤ 621 := by
  unfold highMu
  split <;> omega

theorem high_step {dp c c' : Int} {s k : Nat} (h0 : 0 < dp) (hk : 3 ≤ k) (h : s = 0 → 2 ^ k ≤ (c - 48).toNat ∧ c' < 56) : highMu (dp - s) c' < highMu dp c := by
  unfold highMu
  by_cases hs : s = 0
  · obtain ⟨h2, h3⟩ := h hs
    have h8 : 2 ^ 3 ≤ 2 ^ k := Nat.pow_le_pow_right (by omega) hk
    rw [if_neg (by omega), if_pos (by omega)]
    omega
  · split <;> split <;> omega

theorem fb_high (B nd : Nat) (dp : Int) (d : Nat → Int) (w w0 : World) (hF : F64 w0) (h5 : 11 < B) (hn : 0 < nd) (hD : Dm w0 B nd dp d) (hL : Lead d nd) (hC : Cheats B w0) (hB : Below B w w0) (hP : Pows B w0) (hp : -900 ≤ dp ∧ dp ≤ 310) (c2 c3 c4 c7 c8 c9 c10 c11 c12 c13 c14 c15 c16 c17 c18 c19 c20 c21 c22 c23 c24 c25 c26 c27 c28 c29 c30 c31 c32 c33 c34 c35 c36 c37 c38 c39 c40 c41 c42 c43 c44 c45 c46 c47 c48 c49 c50 c51 c52 c53 c54 c55 c56 c57 c58 c59 c60 c61 c62 c63 c64 c65 c66 c67 c68 c69 c70 c71 c72 c73 c74 c75 c76 c77 c78 c79 c80 c81 c82 c83 c84 c85 c86 c87 c88 c89 c90 c91 c92 c93 c94 c95 c96 c97 c98 c99 c100 c101 c102 c103 c104 c105 c106 c107 c108 c109 c110 c111 c112 c113 c114 c115 c116 c117 c118 c119 c120 c121 c122 c123 c124 c125 c126 c127 c128 c129 c130 c131 c132 c133 c134 c135 c136 c137 c138 c139 c140 c141 c142 c143 c144 c145 c146 c147 c148 c149 c150 c151 c152 c153 c154 c155 c156 c157 c158 c159 c160 c161 c162 c163 c164 c165 c166 c167 c168 c169 c170 c171 c172 c173 c174 c175 c176 c177 c178 c179 c180 c181 c182 c183 c184 c185 c186 c187 c188 c189 c190 c191 c192 c193 c194 c195 c196 c197 c198 c199 c200 c201 c202 c203 c204 c205 c206 c207 c208 c209 c210 c211 c212 c213 c214 c215 c216 c217 c218 c219 c220 c221 c222 c223 c224 c225 c226 c227 c228 c229 c230 c231 c232 c233 c234 c235 c236 c237 c238 c239 c240 c241 c242 : Value) :
    Code.wp Tryd.prog (fbStmt 6) (Exit.fwd Tryd.prog (fbStmt 0) (bodyPost Tryd.prog Tryd.f55 (fun e w' => FbR B w e w'))) ⟨(List.toArray ((Value.pointer (some ⟨B, 0, none⟩)) :: (Value.pointer (some ⟨5, 0, none⟩)) :: c2 :: c3 :: c4 :: (Value.bool false) :: (Value.int .i64 0) :: c7 :: c8 :: c9 :: c10 :: c11 :: c12 :: c13 :: c14 :: c15 :: c16 :: c17 :: c18 :: c19 :: c20 :: c21 :: c22 :: c23 :: c24 :: c25 :: c26 :: c27 :: c28 :: c29 :: c30 :: c31 :: c32 :: c33 :: c34 :: c35 :: c36 :: c37 :: c38 :: c39 :: c40 :: c41 :: c42 :: c43 :: c44 :: c45 :: c46 :: c47 :: c48 :: c49 :: c50 :: c51 :: c52 :: c53 :: c54 :: c55 :: c56 :: c57 :: c58 :: c59 :: c60 :: c61 :: c62 :: c63 :: c64 :: c65 :: c66 :: c67 :: c68 :: c69 :: c70 :: c71 :: c72 :: c73 :: c74 :: c75 :: c76 :: c77 :: c78 :: c79 :: c80 :: c81 :: c82 :: c83 :: c84 :: c85 :: c86 :: c87 :: c88 :: c89 :: c90 :: c91 :: c92 :: c93 :: c94 :: c95 :: c96 :: c97 :: c98 :: c99 :: c100 :: c101 :: c102 :: c103 :: c104 :: c105 :: c106 :: c107 :: c108 :: c109 :: c110 :: c111 :: c112 :: c113 :: c114 :: c115 :: c116 :: c117 :: c118 :: c119 :: c120 :: c121 :: c122 :: c123 :: c124 :: c125 :: c126 :: c127 :: c128 :: c129 :: c130 :: c131 :: c132 :: c133 :: c134 :: c135 :: c136 :: c137 :: c138 :: c139 :: c140 :: c141 :: c142 :: c143 :: c144 :: c145 :: c146 :: c147 :: c148 :: c149 :: c150 :: c151 :: c152 :: c153 :: c154 :: c155 :: c156 :: c157 :: c158 :: c159 :: c160 :: c161 :: c162 :: c163 :: c164 :: c165 :: c166 :: c167 :: c168 :: c169 :: c170 :: c171 :: c172 :: c173 :: c174 :: c175 :: c176 :: c177 :: c178 :: c179 :: c180 :: c181 :: c182 :: c183 :: c184 :: c185 :: c186 :: c187 :: c188 :: c189 :: c190 :: c191 :: c192 :: c193 :: c194 :: c195 :: c196 :: c197 :: c198 :: c199 :: c200 :: c201 :: c202 :: c203 :: c204 :: c205 :: c206 :: c207 :: c208 :: c209 :: c210 :: c211 :: c212 :: c213 :: c214 :: c215 :: c216 :: c217 :: c218 :: c219 :: c220 :: c221 :: c222 :: c223 :: c224 :: c225 :: c226 :: c227 :: c228 :: c229 :: c230 :: c231 :: c232 :: c233 :: c234 :: c235 :: c236 :: c237 :: c238 :: c239 :: c240 :: c241 :: c242 :: [])), []⟩ w0 := by
  have hFh := Lib.hid hF
  have hBh := Lib.hid hB
  have hDh := Lib.hid hD
  have hLh := Lib.hid hL
  have hCh := Lib.hid hC
  have hPh := Lib.hid hP
  clear hF hB hD hL hC hP
  conv => arg 2; whnf
  go_upto_block 0 with fail
  go_cut [6] from 8 (fun e wx => ∃ (x : Int) (nd : Nat) (dp : Int) (d : Nat → Int), e = .int .i64 x ∧ 0 ≤ x ∧ x ≤ 20000 ∧ 0 < nd ∧ -900 ≤ dp ∧ dp ≤ 0 ∧ Hid (Lead d nd) ∧ Hid (Dm wx B nd dp d) ∧ Hid (Below B w0 wx))
  case first =>
    go_wp2_with fail
    go_loopw [6] (fun e wx => ∃ (x : Int) (nd : Nat) (dp : Int) (d : Nat → Int), e = .int .i64 x ∧ 0 ≤ x ∧ Hid (x + 27 * (highMu dp (d 0) : Int) ≤ 16767) ∧ 0 < nd ∧ -900 ≤ dp ∧ dp ≤ 310 ∧ Hid (Lead d nd) ∧ Hid (Dm wx B nd dp d) ∧ Hid (Below B w0 wx)) (fun _ wx => highMu (intAt wx ⟨B, 801, none⟩) (intAt wx ⟨B, 0, none⟩))
    case atStart =>
      exact ⟨0, nd, dp, d, rfl, by omega, Lib.hid (by have := high_le (c := d 0) hp.2; omega), hn, by omega, by omega, hLh, hDh, Lib.hid (Below.refl _ _)⟩
    case round =>
      clear hDh hLh hp
      obtain ⟨x, nd, dp, d, rfl, hx1, hx2, hn, hp1, hp2, hL, hD, hB⟩ := hrel
      have c1 := hD.out.cdp
      have hd0 := hL.out.1 0 hn
      have hxhi : x ≤ 16767 := by have := hx2.out; omega
      by_cases hgo : 0 < dp
      · obtain ⟨i, hi⟩ : ∃ i : Nat, dp = (i : Int) := ⟨dp.toNat, by omega⟩
        subst hi
        obtain ⟨G, o, c, _, _, c7, hpw⟩ := hPh.out.keep hB.out
        have hShr := Lib.hid (fun (k : Nat) (h1 : 0 < k) (h2 : k < 61) (m : Nat) => shift_neg1 B nd k (i : Int) d (wr.drewN m) h1 h2 hn (hD.out.drewN m) hL.out (by omega))
        by_cases h9 : 9 ≤ i
        · have h9' : (9 : Int) ≤ (i : Int) := by omega
          have hS : Hid (∀ m, Calls Tryd.prog 72 #[.pointer (some ⟨B, 0, none⟩), .int .i64 (-27)] (wr.drewN m) fun e w' => Shr B 27 (i : Int) d (wr.drewN m) e w') := Lib.hid (fun m => hShr.out 27 (by omega) (by omega) m)
          clear hpw hShr
          go_wp2_with fail
          go_quiet (fail)
          go_wp2_with (go_at_call 72; refine (hS.out _).mono ?_; rintro e w' ⟨rfl, ⟨n', s, d', a1, a2, a3, a4, a5⟩, hb⟩)
          go_round
          case rel =>
            have hs := high_step (s := s) (k := 27) (show (0 : Int) < (i : Int) by omega) (by omega) a5
            exact ⟨x + 27, n', (i : Int) - s, d', by go_num, by omega, Lib.hid (by have := hx2.out; omega), a1, by omega, by omega, Lib.hid a2, Lib.hid a3, Lib.hid ((below_drewN hB.out _).trans hb)⟩
          case measure =>
            have hs := high_step (s := s) (k := 27) (show (0 : Int) < (i : Int) by omega) (by omega) a5
            rw [a3.dpAt, a3.d0At, hD.out.dpAt, hD.out.d0At]
            exact hs
        · have h9' : ¬ (9 : Int) ≤ (i : Int) := by omega
          obtain ⟨p, cp, hp1', hp27, hp3, _⟩ := hpw i (by omega)
          have hp3' := hp3 (by omega)
          have hS : Hid (∀ m, Calls Tryd.prog 72 #[.pointer (some ⟨B, 0, none⟩), .int .i64 (-(p : Int))] (wr.drewN m) fun e w' => Shr B p (i : Int) d (wr.drewN m) e w') := Lib.hid (fun m => hShr.out p (by omega) (by omega) m)
          have hi9 : (i : Int) < 9 := by omega
          clear hpw hShr hp3
          go_wp2_with fail
          go_quiet (fail)
          go_wp2_with fail
          go_quiet (fail)
          go_wp2_with (go_at_call 72; refine (hS.out _).mono ?_; rintro e w' ⟨rfl, ⟨n', s, d', a1, a2, a3, a4, a5⟩, hb⟩)
          go_round
          case rel =>
            have hs := high_step (s := s) (k := p) (show (0 : Int) < (i : Int) by omega) (by omega) a5
            exact ⟨x + p, n', (i : Int) - s, d', by go_num, by omega, Lib.hid (by have := hx2.out; omega), a1, by omega, by omega, Lib.hid a2, Lib.hid a3, Lib.hid ((below_drewN hB.out _).trans hb)⟩
          case measure =>
            have hs := high_step (s := s) (k := p) (show (0 : Int) < (i : Int) by omega) (by omega) a5
            rw [a3.dpAt, a3.d0At, hD.out.dpAt, hD.out.d0At]
            exact hs
      · go_wp2_with fail
        go_meet
        case rel => exact ⟨x, nd, dp, d, rfl, hx1, by omega, hn, hp1, by omega, hL, hD, hB⟩
  case rest =>
    obtain ⟨x, nd, dp, d, rfl, hx1, hx2, hn, hp1, hp2, hL, hD, hB⟩ := hcut
    rename_i K9 hk9
    apply hk9
    exact fb_low B nd dp d w _ (hFh.out.keep hB.out (by omega)) h5 hn hD.out hL.out (hCh.out.keep hB.out) (hBh.out.trans hB.out) (hPh.out.keep hB.out) (by omega) x (by omega) _ _ _ _ _ _ _ _ _ _ _ _ _ _ _ _ _ _ _ _ _ _ _ _ _ _ _ _ _ _ _ _ _ _ _ _ _ _ _ _ _ _ _ _ _ _ _ _ _ _ _ _ _ _ _ _ _ _ _ _ _ _ _ _ _ _ _ _ _ _ _ _ _ _ _ _ _ _ _ _ _ _ _ _ _ _ _ _ _ _ _ _ _ _ _ _ _ _ _ _ _ _ _ _ _ _ _ _ _ _ _ _ _ _ _ _ _ _ _ _ _ _ _ _ _ _ _ _ _ _ _ _ _ _ _ _ _ _ _ _ _ _ _ _ _ _ _ _ _ _ _ _ _ _ _ _ _ _ _ _ _ _ _ _ _ _ _ _ _ _ _ _ _ _ _ _ _ _ _ _ _ _ _ _ _ _ _ _ _ _ _ _ _ _ _ _ _ _ _ _ _ _ _ _ _ _ _ _ _ _ _ _ _ _ _ _ _ _ _ _ _ _ _ _ _ _ _ _ _ _ _ _ _ _ _ _ _ _ _
end Go.Proofs.YtjaibjdhfljmmaaDoor
