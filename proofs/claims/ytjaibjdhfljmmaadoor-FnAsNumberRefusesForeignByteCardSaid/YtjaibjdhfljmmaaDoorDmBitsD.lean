/-
  floatBits: the second loop, up to a half.
-/
import Derived.Test.YtjaibjdhfljmmaaDoorDmBitsC
namespace Go.Proofs.YtjaibjdhfljmmaaDoor
open Go.RowKit
set_option maxRecDepth 1000000
set_option maxHeartbeats 4000000

/-- powtab: nine small numbers. -/
def Pows (B : Nat) (w : World) : Prop := ∃ G o c, 7 < B ∧ G < B ∧ w.cell? ⟨7, 0, none⟩ = some (.slice (some ⟨G, o, none⟩) 9 c) ∧
  ∀ i, i < 9 → ∃ p : Nat, w.cell? ⟨G, o + i, none⟩ = some (.int .i64 p) ∧ 1 ≤ p ∧ p ≤ 27 ∧ (1 ≤ i → 3 ≤ p) ∧ (2 ≤ i → 4 ≤ p)

theorem Pows.keep {B : Nat} {w w' : World} (h : Pows B w) (hb : Below B w w') : Pows B w' := by
  obtain ⟨G, o, c, h1, h2, h3, h4⟩ := h
  refine ⟨G, o, c, h1, h2, by rw [hb.cell (p := ⟨7, 0, none⟩) h1]; exact h3, fun i hi => ?_⟩
  obtain ⟨p, h5, h6⟩ := h4 i hi
  exact ⟨p, by rw [hb.cell (p := ⟨G, o + i, none⟩) h2]; exact h5, h6⟩

def intAt (w : World) (a : Addr) : Int := match w.cell? a with
  | some (.int _ n) => n
  | _ => 0

theorem Dm.dpAt {w : World} {B nd : Nat} {dp : Int} {d : Nat → Int} (h : Dm w B nd dp d) : intAt w ⟨B, 801, none⟩ = dp := by
  unfold intAt; rw [h.cdp]
theorem Dm.d0At {w : World} {B nd : Nat} {dp : Int} {d : Nat → Int} (h : Dm w B nd dp d) : intAt w ⟨B, 0, none⟩ = d 0 := by
  unfold intAt; rw [h.dig 0 (by omega)]

def lowMu (dp c : Int) : Nat := (1 - dp).toNat * 20 + (58 - c).toNat

theorem low_step {dp c c' : Int} {f : Nat} (h0 : dp ≤ 0) (h1 : 49 ≤ c ∧ c ≤ 57) (h2 : 49 ≤ c' ∧ c' ≤ 57) (h : f = 0 → c < c') : lowMu (dp + f) c' < lowMu dp c := by
  unfold lowMu
  by_cases hf : f = 0
  · have := h hf
    omega
  · omega

theorem fb_low (B nd : Nat) (dp : Int) (d : Nat → Int) (w w0 : World) (hF : F64 w0) (h5 : 11 < B) (hn : 0 < nd) (hD : Dm w0 B nd dp d) (hL : Lead d nd) (hC : Cheats B w0) (hB : Below B w w0) (hP : Pows B w0) (hp : -900 ≤ dp ∧ dp ≤ 0) (x : Int) (hx : 0 ≤ x ∧ x ≤ 20000) (c2 c3 c4 c7 c8 c9 c10 c11 c12 c13 c14 c15 c16 c17 c18 c19 c20 c21 c22 c23 c24 c25 c26 c27 c28 c29 c30 c31 c32 c33 c34 c35 c36 c37 c38 c39 c40 c41 c42 c43 c44 c45 c46 c47 c48 c49 c50 c51 c52 c53 c54 c55 c56 c57 c58 c59 c60 c61 c62 c63 c64 c65 c66 c67 c68 c69 c70 c71 c72 c73 c74 c75 c76 c77 c78 c79 c80 c81 c82 c83 c84 c85 c86 c87 c88 c89 c90 c91 c92 c93 c94 c95 c96 c97 c98 c99 c100 c101 c102 c103 c104 c105 c106 c107 c108 c109 c110 c111 c112 c113 c114 c115 c116 c117 c118 c119 c120 c121 c122 c123 c124 c125 c126 c127 c128 c129 c130 c131 c132 c133 c134 c135 c136 c137 c138 c139 c140 c141 c142 c143 c144 c145 c146 c147 c148 c149 c150 c151 c152 c153 c154 c155 c156 c157 c158 c159 c160 c161 c162 c163 c164 c165 c166 c167 c168 c169 c170 c171 c172 c173 c174 c175 c176 c177 c178 c179 c180 c181 c182 c183 c184 c185 c186 c187 c188 c189 c190 c191 c192 c193 c194 c195 c196 c197 c198 c199 c200 c201 c202 c203 c204 c205 c206 c207 c208 c209 c210 c211 c212 c213 c214 c215 c216 c217 c218 c219 c220 c221 c222 c223 c224 c225 c226 c227 c228 c229 c230 c231 c232 c233 c234 c235 c236 c237 c238 c239 c240 c241 c242 : Value) :
    Code.wp Tryd.prog (fbStmt 7) (Exit.fwd Tryd.prog (fbStmt 0) (bodyPost Tryd.prog Tryd.f55 (fun e w' => FbR B w e w'))) ⟨(List.toArray ((Value.pointer (some ⟨B, 0, none⟩)) :: (Value.pointer (some ⟨5, 0, none⟩)) :: c2 :: c3 :: c4 :: (Value.bool false) :: (Value.int .i64 x) :: c7 :: c8 :: c9 :: c10 :: c11 :: c12 :: c13 :: c14 :: c15 :: c16 :: c17 :: c18 :: c19 :: c20 :: c21 :: c22 :: c23 :: c24 :: c25 :: c26 :: c27 :: c28 :: c29 :: c30 :: c31 :: c32 :: c33 :: c34 :: c35 :: c36 :: c37 :: c38 :: c39 :: c40 :: c41 :: c42 :: c43 :: c44 :: c45 :: c46 :: c47 :: c48 :: c49 :: c50 :: c51 :: c52 :: c53 :: c54 :: c55 :: c56 :: c57 :: c58 :: c59 :: c60 :: c61 :: c62 :: c63 :: c64 :: c65 :: c66 :: c67 :: c68 :: c69 :: c70 :: c71 :: c72 :: c73 :: c74 :: c75 :: c76 :: c77 :: c78 :: c79 :: c80 :: c81 :: c82 :: c83 :: c84 :: c85 :: c86 :: c87 :: c88 :: c89 :: c90 :: c91 :: c92 :: c93 :: c94 :: c95 :: c96 :: c97 :: c98 :: c99 :: c100 :: c101 :: c102 :: c103 :: c104 :: c105 :: c106 :: c107 :: c108 :: c109 :: c110 :: c111 :: c112 :: c113 :: c114 :: c115 :: c116 :: c117 :: c118 :: c119 :: c120 :: c121 :: c122 :: c123 :: c124 :: c125 :: c126 :: c127 :: c128 :: c129 :: c130 :: c131 :: c132 :: c133 :: c134 :: c135 :: c136 :: c137 :: c138 :: c139 :: c140 :: c141 :: c142 :: c143 :: c144 :: c145 :: c146 :: c147 :: c148 :: c149 :: c150 :: c151 :: c152 :: c153 :: c154 :: c155 :: c156 :: c157 :: c158 :: c159 :: c160 :: c161 :: c162 :: c163 :: c164 :: c165 :: c166 :: c167 :: c168 :: c169 :: c170 :: c171 :: c172 :: c173 :: c174 :: c175 :: c176 :: c177 :: c178 :: c179 :: c180 :: c181 :: c182 :: c183 :: c184 :: c185 :: c186 :: c187 :: c188 :: c189 :: c190 :: c191 :: c192 :: c193 :: c194 :: c195 :: c196 :: c197 :: c198 :: c199 :: c200 :: c201 :: c202 :: c203 :: c204 :: c205 :: c206 :: c207 :: c208 :: c209 :: c210 :: c211 :: c212 :: c213 :: c214 :: c215 :: c216 :: c217 :: c218 :: c219 :: c220 :: c221 :: c222 :: c223 :: c224 :: c225 :: c226 :: c227 :: c228 :: c229 :: c230 :: c231 :: c232 :: c233 :: c234 :: c235 :: c236 :: c237 :: c238 :: c239 :: c240 :: c241 :: c242 :: [])), []⟩ w0 := by
  have hFh := Lib.hid hF
  have hBh := Lib.hid hB
  have hDh := Lib.hid hD
  have hLh := Lib.hid hL
  have hCh := Lib.hid hC
  have hPh := Lib.hid hP
  clear hF hB hD hL hC hP
  conv => arg 2; whnf
  go_upto_block 2 with fail
  go_cut [6] from 8 (fun e wx => ∃ (x : Int) (nd : Nat) (dp : Int) (d : Nat → Int), e = .int .i64 x ∧ -900000 ≤ x ∧ x ≤ 900000 ∧ 0 < nd ∧ -900 ≤ dp ∧ dp ≤ 61 ∧ Hid (Lead d nd) ∧ Hid (Dm wx B nd dp d) ∧ Hid (Below B w0 wx))
  case first =>
    go_wp2_with fail
    go_loopw [6] (fun e wx => ∃ (x : Int) (nd : Nat) (dp : Int) (d : Nat → Int), e = .int .i64 x ∧ x ≤ 20000 ∧ Hid (-27 * (18030 - (lowMu dp (d 0) : Int)) ≤ x) ∧ 0 < nd ∧ -900 ≤ dp ∧ dp ≤ 61 ∧ Hid (Lead d nd) ∧ Hid (Dm wx B nd dp d) ∧ Hid (Below B w0 wx)) (fun _ wx => lowMu (intAt wx ⟨B, 801, none⟩) (intAt wx ⟨B, 0, none⟩))
    case atStart =>
      exact ⟨x, nd, dp, d, rfl, by omega, Lib.hid (by unfold lowMu; have := hLh.out.2; omega), hn, by omega, by omega, hLh, hDh, Lib.hid (Below.refl _ _)⟩
    case round =>
      clear hDh hLh hp hx
      obtain ⟨x, nd, dp, d, rfl, hx1, hx2, hn, hp1, hp2, hL, hD, hB⟩ := hrel
      have c1 := hD.out.cdp
      have c0 := hD.out.dig 0 (by omega)
      have hd0 := hL.out.1 0 hn
      have hd49 := hL.out.2
      have hxlo : -486810 ≤ x := by have := hx2.out; omega
      by_cases hgo : dp < 0 ∨ (dp = 0 ∧ d 0 < 53)
      · by_cases hz : dp = 0
        · subst hz
          have hd53 : d 0 < 53 := by omega
          obtain ⟨G, o, c, _, _, c7, hpw⟩ := hPh.out.keep hB.out
          obtain ⟨p, cp, hp1', hp27, _, _⟩ := hpw 0 (by omega)
          rw [Nat.add_zero] at cp
          have hS : Hid (∀ m, Calls Tryd.prog 72 #[.pointer (some ⟨B, 0, none⟩), .int .i64 p] (wr.drewN m) fun e w' => Shl B 0 d (wr.drewN m) e w') :=
            Lib.hid (fun m => shift_pos B nd p 0 d (wr.drewN m) (by omega) (by omega) hn (hD.out.drewN m) hL.out ((hCh.out.keep hB.out).drewN m) (by omega))
          clear hpw hgo
          go_wp2_with fail
          go_quiet (fail)
          go_wp2_with fail
          go_quiet (fail)
          go_wp2_with (go_at_call 72; refine (hS.out _).mono ?_; rintro e w' ⟨rfl, ⟨n', f, d', a1, a2, a3, a4, a5⟩, hb⟩)
          go_round
          case rel =>
            have hs := low_step (f := f) (show (0 : Int) ≤ 0 by omega) (show 49 ≤ d 0 ∧ d 0 ≤ 57 by omega) (show 49 ≤ d' 0 ∧ d' 0 ≤ 57 from ⟨a2.2, (a2.1 0 a1).2⟩) a5
            exact ⟨x - p, n', 0 + f, d', by go_num, by omega, Lib.hid (by have := hx2.out; omega), a1, by omega, by omega, Lib.hid a2, Lib.hid a3, Lib.hid ((below_drewN hB.out _).trans hb)⟩
          case measure =>
            have hs := low_step (f := f) (show (0 : Int) ≤ 0 by omega) (show 49 ≤ d 0 ∧ d 0 ≤ 57 by omega) (show 49 ≤ d' 0 ∧ d' 0 ≤ 57 from ⟨a2.2, (a2.1 0 a1).2⟩) a5
            rw [a3.dpAt, a3.d0At, hD.out.dpAt, hD.out.d0At]
            exact hs
        obtain ⟨i, hi⟩ : ∃ i : Nat, dp = -(i : Int) := ⟨(-dp).toNat, by omega⟩
        subst hi
        obtain ⟨G, o, c, _, _, c7, hpw⟩ := hPh.out.keep hB.out
        have hShl := Lib.hid (fun (k : Nat) (h1 : 0 < k) (h2 : k < 61) (m : Nat) => shift_pos B nd k (-(i : Int)) d (wr.drewN m) h1 h2 hn (hD.out.drewN m) hL.out ((hCh.out.keep hB.out).drewN m) (by omega))
        by_cases h9 : 9 ≤ i
        · have h9' : (9 : Int) ≤ (i : Int) := by omega
          have hneg : -(i : Int) < 0 := by omega
          have hS : Hid (∀ m, Calls Tryd.prog 72 #[.pointer (some ⟨B, 0, none⟩), .int .i64 27] (wr.drewN m) fun e w' => Shl B (-(i : Int)) d (wr.drewN m) e w') := Lib.hid (fun m => hShl.out 27 (by omega) (by omega) m)
          clear hpw hShl hgo
          go_wp2_with fail
          go_quiet (fail)
          go_wp2_with (go_at_call 72; refine (hS.out _).mono ?_; rintro e w' ⟨rfl, ⟨n', f, d', a1, a2, a3, a4, a5⟩, hb⟩)
          go_round
          case rel =>
            have hs := low_step (f := f) (show -(i : Int) ≤ 0 by omega) (show 49 ≤ d 0 ∧ d 0 ≤ 57 by omega) (show 49 ≤ d' 0 ∧ d' 0 ≤ 57 from ⟨a2.2, (a2.1 0 a1).2⟩) a5
            exact ⟨x - 27, n', -(i : Int) + f, d', by go_num, by omega, Lib.hid (by have := hx2.out; omega), a1, by omega, by omega, Lib.hid a2, Lib.hid a3, Lib.hid ((below_drewN hB.out _).trans hb)⟩
          case measure =>
            have hs := low_step (f := f) (show -(i : Int) ≤ 0 by omega) (show 49 ≤ d 0 ∧ d 0 ≤ 57 by omega) (show 49 ≤ d' 0 ∧ d' 0 ≤ 57 from ⟨a2.2, (a2.1 0 a1).2⟩) a5
            rw [a3.dpAt, a3.d0At, hD.out.dpAt, hD.out.d0At]
            exact hs
        · have h9' : ¬ (9 : Int) ≤ (i : Int) := by omega
          obtain ⟨p, cp, hp1', hp27, _, _⟩ := hpw i (by omega)
          have hS : Hid (∀ m, Calls Tryd.prog 72 #[.pointer (some ⟨B, 0, none⟩), .int .i64 p] (wr.drewN m) fun e w' => Shl B (-(i : Int)) d (wr.drewN m) e w') := Lib.hid (fun m => hShl.out p (by omega) (by omega) m)
          have hi9 : (i : Int) < 9 := by omega
          have hneg : -(i : Int) < 0 := by omega
          clear hpw hShl hgo
          go_wp2_with fail
          go_quiet (fail)
          go_wp2_with fail
          go_quiet (fail)
          go_wp2_with (go_at_call 72; refine (hS.out _).mono ?_; rintro e w' ⟨rfl, ⟨n', f, d', a1, a2, a3, a4, a5⟩, hb⟩)
          go_round
          case rel =>
            have hs := low_step (f := f) (show -(i : Int) ≤ 0 by omega) (show 49 ≤ d 0 ∧ d 0 ≤ 57 by omega) (show 49 ≤ d' 0 ∧ d' 0 ≤ 57 from ⟨a2.2, (a2.1 0 a1).2⟩) a5
            exact ⟨x - p, n', -(i : Int) + f, d', by go_num, by omega, Lib.hid (by have := hx2.out; omega), a1, by omega, by omega, Lib.hid a2, Lib.hid a3, Lib.hid ((below_drewN hB.out _).trans hb)⟩
          case measure =>
            have hs := low_step (f := f) (show -(i : Int) ≤ 0 by omega) (show 49 ≤ d 0 ∧ d 0 ≤ 57 by omega) (show 49 ≤ d' 0 ∧ d' 0 ≤ 57 from ⟨a2.2, (a2.1 0 a1).2⟩) a5
            rw [a3.dpAt, a3.d0At, hD.out.dpAt, hD.out.d0At]
            exact hs
      · by_cases hpos : 0 < dp
        · have hneg : ¬ dp < 0 := by omega
          have hne : (dp == 0) = false := by simp; omega
          clear hgo
          go_wp2_with fail
          go_meet
          case rel => exact ⟨x, nd, dp, d, rfl, by have := hx2.out; unfold lowMu at this; omega, by omega, hn, hp1, hp2, hL, hD, hB⟩
        · have hz : dp = 0 := by omega
          subst hz
          have h53 : ¬ d 0 < 53 := by omega
          clear hgo
          go_wp2_with fail
          go_meet
          case rel => exact ⟨x, nd, 0, d, rfl, by have := hx2.out; unfold lowMu at this; omega, by omega, hn, hp1, hp2, hL, hD, hB⟩
  case rest =>
    obtain ⟨x, nd, dp, d, rfl, hx1, hx2, hn, hp1, hp2, hL, hD, hB⟩ := hcut
    rename_i K9 hk9
    apply hk9
    exact fb_den B nd dp d w _ (hFh.out.keep hB.out (by omega)) h5 hn hD.out hL.out (hCh.out.keep hB.out) (hBh.out.trans hB.out) (by omega) x (by omega) _ _ _ _ _ _ _ _ _ _ _ _ _ _ _ _ _ _ _ _ _ _ _ _ _ _ _ _ _ _ _ _ _ _ _ _ _ _ _ _ _ _ _ _ _ _ _ _ _ _ _ _ _ _ _ _ _ _ _ _ _ _ _ _ _ _ _ _ _ _ _ _ _ _ _ _ _ _ _ _ _ _ _ _ _ _ _ _ _ _ _ _ _ _ _ _ _ _ _ _ _ _ _ _ _ _ _ _ _ _ _ _ _ _ _ _ _ _ _ _ _ _ _ _ _ _ _ _ _ _ _ _ _ _ _ _ _ _ _ _ _ _ _ _ _ _ _ _ _ _ _ _ _ _ _ _ _ _ _ _ _ _ _ _ _ _ _ _ _ _ _ _ _ _ _ _ _ _ _ _ _ _ _ _ _ _ _ _ _ _ _ _ _ _ _ _ _ _ _ _ _ _ _ _ _ _ _ _ _ _ _ _ _ _ _ _ _ _ _ _ _ _ _ _ _ _ _ _ _ _ _ _ _ _ _ _ _ _ _
end Go.Proofs.YtjaibjdhfljmmaaDoor
