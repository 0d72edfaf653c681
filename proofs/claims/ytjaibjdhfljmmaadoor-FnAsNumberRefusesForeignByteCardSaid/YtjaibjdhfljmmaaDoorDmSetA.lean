/-
  set: the exponent, the end.
-/
import Derived.Test.YtjaibjdhfljmmaaDoorDmBits
namespace Go.Proofs.YtjaibjdhfljmmaaDoor
open Go.RowKit
set_option maxRecDepth 1000000
set_option maxHeartbeats 4000000

noncomputable def stStmt (n : Nat) : Code := seqDrop n (Tryd.f54.body.getD .skip)

/-- A decimal of digits, the first one not 0 if there is one. -/
def SetOk (B : Nat) (w : World) : Prop := ∃ (nd : Nat) (dp : Int) (d : Nat → Int), Dm w B nd dp d ∧ (0 < nd → Lead d nd)
def SetR (B : Nat) (w : World) (e : Ending) (w' : World) : Prop := (∃ b, e = .returned (.bool b)) ∧ SetOk B w' ∧ Below B w w'

theorem dset_exp (B : Nat) (s : ByteArray) (hs : s.size ≤ 1073741824) (w wr : World) (hO : SetOk B wr) (hB : Below B w wr) (q : Nat) (hq : q ≤ s.size) (c2 c3 c6 c7 c8 c9 c10 c11 c12 c13 c14 c15 c16 c17 c18 c19 c20 c21 c22 c23 c24 c25 c26 c27 c28 c29 c30 c31 c32 c33 c34 c35 c36 c37 c38 c39 c40 c41 c42 c43 c44 c45 c46 c47 c48 c49 c50 c51 c52 c53 c54 c55 c56 c57 c58 c59 c60 c61 c62 c63 c64 c65 c66 c67 c68 c69 c70 c71 c72 c73 c74 c75 c76 c77 c78 c79 c80 c81 c82 c83 c84 c85 c86 c87 c88 c89 c90 c91 c92 c93 c94 c95 c96 c97 c98 c99 c100 c101 c102 c103 c104 c105 c106 c107 c108 c109 c110 c111 c112 c113 c114 c115 c116 c117 c118 c119 c120 c121 c122 c123 c124 c125 c126 c127 c128 c129 c130 c131 c132 c133 c134 c135 c136 c137 c138 c139 c140 c141 c142 c143 c144 c145 c146 c147 c148 c149 c150 c151 c152 c153 c154 c155 c156 c157 c158 c159 c160 c161 c162 c163 c164 c165 c166 c167 c168 c169 c170 c171 c172 c173 c174 c175 c176 c177 c178 c179 c180 c181 c182 c183 c184 c185 c186 c187 c188 c189 c190 c191 c192 c193 c194 c195 c196 c197 c198 c199 c200 c201 c202 c203 c204 c205 c206 c207 c208 c209 c210 c211 c212 c213 c214 c215 c216 c217 c218 c219 c220 c221 c222 c223 : Value) :
    Code.wp Tryd.prog (stStmt 11) (bodyPost Tryd.prog Tryd.f54 fun e w' => SetR B w e w') ⟨(List.toArray ((Value.pointer (some ⟨B, 0, none⟩)) :: (Value.string s) :: c2 :: c3 :: (Value.bool false) :: (Value.int .i64 (q : Nat)) :: c6 :: c7 :: c8 :: c9 :: c10 :: c11 :: c12 :: c13 :: c14 :: c15 :: c16 :: c17 :: c18 :: c19 :: c20 :: c21 :: c22 :: c23 :: c24 :: c25 :: c26 :: c27 :: c28 :: c29 :: c30 :: c31 :: c32 :: c33 :: c34 :: c35 :: c36 :: c37 :: c38 :: c39 :: c40 :: c41 :: c42 :: c43 :: c44 :: c45 :: c46 :: c47 :: c48 :: c49 :: c50 :: c51 :: c52 :: c53 :: c54 :: c55 :: c56 :: c57 :: c58 :: c59 :: c60 :: c61 :: c62 :: c63 :: c64 :: c65 :: c66 :: c67 :: c68 :: c69 :: c70 :: c71 :: c72 :: c73 :: c74 :: c75 :: c76 :: c77 :: c78 :: c79 :: c80 :: c81 :: c82 :: c83 :: c84 :: c85 :: c86 :: c87 :: c88 :: c89 :: c90 :: c91 :: c92 :: c93 :: c94 :: c95 :: c96 :: c97 :: c98 :: c99 :: c100 :: c101 :: c102 :: c103 :: c104 :: c105 :: c106 :: c107 :: c108 :: c109 :: c110 :: c111 :: c112 :: c113 :: c114 :: c115 :: c116 :: c117 :: c118 :: c119 :: c120 :: c121 :: c122 :: c123 :: c124 :: c125 :: c126 :: c127 :: c128 :: c129 :: c130 :: c131 :: c132 :: c133 :: c134 :: c135 :: c136 :: c137 :: c138 :: c139 :: c140 :: c141 :: c142 :: c143 :: c144 :: c145 :: c146 :: c147 :: c148 :: c149 :: c150 :: c151 :: c152 :: c153 :: c154 :: c155 :: c156 :: c157 :: c158 :: c159 :: c160 :: c161 :: c162 :: c163 :: c164 :: c165 :: c166 :: c167 :: c168 :: c169 :: c170 :: c171 :: c172 :: c173 :: c174 :: c175 :: c176 :: c177 :: c178 :: c179 :: c180 :: c181 :: c182 :: c183 :: c184 :: c185 :: c186 :: c187 :: c188 :: c189 :: c190 :: c191 :: c192 :: c193 :: c194 :: c195 :: c196 :: c197 :: c198 :: c199 :: c200 :: c201 :: c202 :: c203 :: c204 :: c205 :: c206 :: c207 :: c208 :: c209 :: c210 :: c211 :: c212 :: c213 :: c214 :: c215 :: c216 :: c217 :: c218 :: c219 :: c220 :: c221 :: c222 :: c223 :: [])), []⟩ wr := by
  have hOh := Lib.hid hO
  have hBh := Lib.hid hB
  obtain ⟨nd, dp, d, hD, hL⟩ := hO
  have c2 := hD.cdp
  have hf := hD.free 801
  have hDp := Lib.hid (fun z => show SetOk B (wr.setCell ⟨B, 801, none⟩ (.int .i64 z)) from ⟨nd, z, d, hD.setDp z, hL⟩)
  clear hD hL hB
  conv => arg 2; whnf
  go_upto_region 32 with fail
  go_cut [138] from 10 (fun t wx => ∃ b : Bool, t = .bool b ∧ Hid (wr = wx) ∧ Hid (b = true → q < s.size))
  case first =>
    by_cases hlt : q < s.size
    · have hlt' : (q : Int) < (s.size : Int) := by omega
      obtain ⟨L, hL⟩ : ∃ L, low s[q].toNat = L := ⟨_, rfl⟩
      have HL := Lib.hid (fun W : World => lower_low s[q] W)
      rw [hL] at HL
      go_wp2_with (go_at_call 39; refine (HL.out _).mono ?_; rintro e w' ⟨rfl, rfl⟩)
      go_meet
      case rel => exact ⟨_, rfl, Lib.hid rfl, Lib.hid (fun _ => hlt)⟩
    · have hlt' : ¬ (q : Int) < (s.size : Int) := by omega
      clear hlt
      go_wp2_with fail
      go_meet
      case rel => exact ⟨false, rfl, Lib.hid rfl, Lib.hid (fun h => by cases h)⟩
  case rest =>
    obtain ⟨b, rfl, hw, hb⟩ := hcut
    have hw' := hw.out
    subst hw'
    clear hw
    cases b with
    | false =>
      clear hb
      go_wp2_with fail
      all_goals
        go_ret
        exact ⟨⟨_, rfl⟩, hOh.out, hBh.out⟩
    | true =>
      have hlt := hb.out rfl
      clear hb
      by_cases hend : q + 1 < s.size
      · have hend' : ¬ (s.size : Int) ≤ (q : Int) + 1 := by omega
        obtain ⟨c, hc⟩ : ∃ c, s[q + 1] = c := ⟨_, rfl⟩
        go_upto_block 4 with fail
        go_cut [5, 8] from 9 (fun i es wx => ∃ (k : Nat) (z : Int), i = .int .i64 k ∧ es = .int .i64 z ∧ k ≤ s.size ∧ Hid (wr = wx))
        case first =>
          by_cases h43 : c = 43
          · have e1 : ((c.toNat : Int) == 43) = true := by rw [h43]; rfl
            clear h43
            go_wp2_with fail
            go_meet
            case rel => exact ⟨q + 1 + 1, 1, by go_num, rfl, by omega, Lib.hid rfl⟩
          have e1 := beq_no c 43 h43
          change (_ == (43 : Int)) = _ at e1
          by_cases h45 : c = 45
          · have e2 : ((c.toNat : Int) == 45) = true := by rw [h45]; rfl
            clear h43 h45
            go_wp2_with fail
            go_meet
            case rel => exact ⟨q + 1 + 1, -1, by go_num, rfl, by omega, Lib.hid rfl⟩
          have e2 := beq_no c 45 h45
          change (_ == (45 : Int)) = _ at e2
          clear h43 h45
          go_wp2_with fail
          go_meet
          case rel => exact ⟨q + 1, 1, by go_num, rfl, by omega, Lib.hid rfl⟩
        case rest =>
          obtain ⟨k, z, rfl, rfl, hk, hw⟩ := hcut
          have hw' := hw.out
          subst hw'
          clear hw
          by_cases hke : k < s.size
          · have hke' : ¬ (s.size : Int) ≤ (k : Int) := by omega
            obtain ⟨d, hd⟩ : ∃ d, s[k] = d := ⟨_, rfl⟩
            by_cases hlo : d.toNat < 48
            · have f1 : (d.toNat : Int) < 48 := by omega
              go_wp2_with fail
              go_ret
              exact ⟨⟨_, rfl⟩, hOh.out, hBh.out⟩
            have f1 : ¬ (d.toNat : Int) < 48 := by omega
            by_cases hhi : 57 < d.toNat
            · have f2 : (57 : Int) < (d.toNat : Int) := by omega
              go_wp2_with fail
              go_ret
              exact ⟨⟨_, rfl⟩, hOh.out, hBh.out⟩
            have f2 : ¬ (57 : Int) < (d.toNat : Int) := by omega
            clear hlo hhi
            go_wp2_with fail
            go_loop [5, 9] (fun i ex => ∃ (k : Nat) (x : Int), i = .int .i64 k ∧ ex = .int .i64 x ∧ k ≤ s.size) (fun i _ => s.size - (intOf i).toNat)
            case atStart => exact ⟨k, 0, rfl, rfl, hk⟩
            case round =>
              obtain ⟨k2, x, rfl, rfl, hk2⟩ := hrel
              clear hd f1 f2 hke'
              by_cases hl2 : k2 < s.size
              · have hl2' : (k2 : Int) < (s.size : Int) := by omega
                obtain ⟨c2, hc2⟩ : ∃ c, s[k2] = c := ⟨_, rfl⟩
                have hc256 : c2.toNat < 256 := c2.toNat_lt
                by_cases h95 : c2 = 95
                · have e5 : ((c2.toNat : Int) == 95) = true := by rw [h95]; rfl
                  have g1 : (48 : Int) ≤ (c2.toNat : Int) := by rw [h95]; decide
                  have g2 : ¬ (c2.toNat : Int) ≤ 57 := by rw [h95]; decide
                  clear h95
                  go_wp2_with fail
                  go_round
                  case rel => exact ⟨k2 + 1, x, by go_num, rfl, by omega⟩
                  case measure => simp [intOf]; omega
                have e5 := beq_no c2 95 h95
                change (_ == (95 : Int)) = _ at e5
                clear h95
                by_cases hdig : 48 ≤ c2.toNat ∧ c2.toNat ≤ 57
                · have g1 : (48 : Int) ≤ (c2.toNat : Int) := by omega
                  have g2 : (c2.toNat : Int) ≤ 57 := by omega
                  clear hdig
                  by_cases hx4 : x < 10000
                  · go_wp2_with fail
                    go_round
                    case rel => exact ⟨k2 + 1, _, by go_num, rfl, by omega⟩
                    case measure => simp [intOf]; omega
                  · go_wp2_with fail
                    go_round
                    case rel => exact ⟨k2 + 1, x, by go_num, rfl, by omega⟩
                    case measure => simp [intOf]; omega
                · by_cases hlo : 48 ≤ c2.toNat
                  · have g1 : (48 : Int) ≤ (c2.toNat : Int) := by omega
                    have g2 : ¬ (c2.toNat : Int) ≤ 57 := by omega
                    clear hdig hlo
                    go_wp2_with fail
                    all_goals
                      go_ret
                      exact ⟨⟨_, rfl⟩, hDp.out _, hBh.out.setCell (Nat.le_refl _) _⟩
                  · have g1 : ¬ (48 : Int) ≤ (c2.toNat : Int) := by omega
                    clear hdig hlo
                    go_wp2_with fail
                    all_goals
                      go_ret
                      exact ⟨⟨_, rfl⟩, hDp.out _, hBh.out.setCell (Nat.le_refl _) _⟩
              · obtain rfl : k2 = s.size := by omega
                go_wp2_with fail
                all_goals
                  go_ret
                  exact ⟨⟨_, rfl⟩, hDp.out _, hBh.out.setCell (Nat.le_refl _) _⟩
          · have hke' : (s.size : Int) ≤ (k : Int) := by omega
            go_wp2_with fail
            go_ret
            exact ⟨⟨_, rfl⟩, hOh.out, hBh.out⟩
      · have hend' : (s.size : Int) ≤ (q : Int) + 1 := by omega
        go_wp2_with fail
        go_ret
        exact ⟨⟨_, rfl⟩, hOh.out, hBh.out⟩
end Go.Proofs.YtjaibjdhfljmmaaDoor
