/-
  readFloat's exponent, whatever the text.
-/
import Derived.Test.YtjaibjdhfljmmaaDoorReadLoop
namespace Go.Proofs.YtjaibjdhfljmmaaDoor
open Go.RowKit
set_option maxHeartbeats 4000000
set_option maxRecDepth 1000000

theorem rd_exp (s : ByteArray) (hs : s.size ≤ 1073741824) (ng hx : Bool) (B M E : Int) (hBE : Hid ((B = 10 ∧ E = 101) ∨ (B = 16 ∧ E = 112))) (w : World) (K : Act → World → Prop)
    (z1 : Int) (b1 : Bool) (q : Nat) (b2 b3 b4 : Bool) (z2 z3 z4 : Int) (hq : q ≤ s.size) (hp : Hid (Pre s q))
    (hK : ∀ (q : Nat) (b2 : Bool) (z4 : Int) (c1 c18 c19 c20 c21 c22 c23 c24 c25 c26 c27 c28 c29 c30 c31 c32 c33 c34 c35 c36 c37 c38 c39 c40 c41 c42 c43 c44 c45 c46 c47 c48 c49 c50 c51 c52 c53 c54 c55 c56 c57 c58 c59 c60 c61 c62 c63 c64 c65 c66 c67 c68 c69 c70 c71 c72 c73 c74 c75 c76 c77 c78 c79 c80 c81 c82 c83 c84 c85 c86 c87 c88 c89 c90 c91 c92 c93 c94 c95 c96 c97 c98 c99 c100 c101 c102 c103 c104 c105 c106 c107 c108 c109 c110 c111 c112 c113 c114 c115 c116 c117 c118 c119 c120 c121 c122 c123 c124 c125 c126 c127 c128 c129 c130 c131 c132 c133 c134 c135 c136 c137 c138 c139 c140 c141 c142 c143 c144 c145 c146 c147 c148 c149 c150 c151 c152 c153 c154 c155 c156 c157 c158 c159 c160 c161 c162 c163 c164 c165 c166 c167 c168 c169 c170 c171 c172 c173 c174 c175 c176 c177 c178 c179 c180 c181 c182 c183 c184 c185 c186 c187 c188 c189 c190 c191 c192 c193 c194 c195 c196 c197 c198 c199 c200 c201 c202 c203 c204 c205 c206 c207 c208 c209 c210 c211 c212 c213 c214 c215 c216 c217 c218 c219 c220 c221 c222 c223 c224 c225 c226 c227 c228 c229 c230 c231 c232 c233 c234 c235 c236 c237 c238 c239 c240 c241 c242 c243 c244 c245 c246 c247 c248 c249 c250 c251 c252 : Value), q ≤ s.size → Hid (Pre s q) → K ⟨(List.toArray ((Value.string s) :: c1 :: (Value.int .u64 z1) :: (Value.int .i64 0) :: (Value.bool ng) :: (Value.bool b1) :: (Value.bool hx) :: (Value.int .i64 (q : Nat)) :: (Value.bool false) :: (Value.bool b2) :: (Value.int .u64 B) :: (Value.int .i64 M) :: (Value.int .u8 E) :: (Value.bool b3) :: (Value.bool b4) :: (Value.int .i64 z2) :: (Value.int .i64 z3) :: (Value.int .i64 z4) :: c18 :: c19 :: c20 :: c21 :: c22 :: c23 :: c24 :: c25 :: c26 :: c27 :: c28 :: c29 :: c30 :: c31 :: c32 :: c33 :: c34 :: c35 :: c36 :: c37 :: c38 :: c39 :: c40 :: c41 :: c42 :: c43 :: c44 :: c45 :: c46 :: c47 :: c48 :: c49 :: c50 :: c51 :: c52 :: c53 :: c54 :: c55 :: c56 :: c57 :: c58 :: c59 :: c60 :: c61 :: c62 :: c63 :: c64 :: c65 :: c66 :: c67 :: c68 :: c69 :: c70 :: c71 :: c72 :: c73 :: c74 :: c75 :: c76 :: c77 :: c78 :: c79 :: c80 :: c81 :: c82 :: c83 :: c84 :: c85 :: c86 :: c87 :: c88 :: c89 :: c90 :: c91 :: c92 :: c93 :: c94 :: c95 :: c96 :: c97 :: c98 :: c99 :: c100 :: c101 :: c102 :: c103 :: c104 :: c105 :: c106 :: c107 :: c108 :: c109 :: c110 :: c111 :: c112 :: c113 :: c114 :: c115 :: c116 :: c117 :: c118 :: c119 :: c120 :: c121 :: c122 :: c123 :: c124 :: c125 :: c126 :: c127 :: c128 :: c129 :: c130 :: c131 :: c132 :: c133 :: c134 :: c135 :: c136 :: c137 :: c138 :: c139 :: c140 :: c141 :: c142 :: c143 :: c144 :: c145 :: c146 :: c147 :: c148 :: c149 :: c150 :: c151 :: c152 :: c153 :: c154 :: c155 :: c156 :: c157 :: c158 :: c159 :: c160 :: c161 :: c162 :: c163 :: c164 :: c165 :: c166 :: c167 :: c168 :: c169 :: c170 :: c171 :: c172 :: c173 :: c174 :: c175 :: c176 :: c177 :: c178 :: c179 :: c180 :: c181 :: c182 :: c183 :: c184 :: c185 :: c186 :: c187 :: c188 :: c189 :: c190 :: c191 :: c192 :: c193 :: c194 :: c195 :: c196 :: c197 :: c198 :: c199 :: c200 :: c201 :: c202 :: c203 :: c204 :: c205 :: c206 :: c207 :: c208 :: c209 :: c210 :: c211 :: c212 :: c213 :: c214 :: c215 :: c216 :: c217 :: c218 :: c219 :: c220 :: c221 :: c222 :: c223 :: c224 :: c225 :: c226 :: c227 :: c228 :: c229 :: c230 :: c231 :: c232 :: c233 :: c234 :: c235 :: c236 :: c237 :: c238 :: c239 :: c240 :: c241 :: c242 :: c243 :: c244 :: c245 :: c246 :: c247 :: c248 :: c249 :: c250 :: c251 :: c252 :: [])), []⟩ w)
    (c1 c18 c19 c20 c21 c22 c23 c24 c25 c26 c27 c28 c29 c30 c31 c32 c33 c34 c35 c36 c37 c38 c39 c40 c41 c42 c43 c44 c45 c46 c47 c48 c49 c50 c51 c52 c53 c54 c55 c56 c57 c58 c59 c60 c61 c62 c63 c64 c65 c66 c67 c68 c69 c70 c71 c72 c73 c74 c75 c76 c77 c78 c79 c80 c81 c82 c83 c84 c85 c86 c87 c88 c89 c90 c91 c92 c93 c94 c95 c96 c97 c98 c99 c100 c101 c102 c103 c104 c105 c106 c107 c108 c109 c110 c111 c112 c113 c114 c115 c116 c117 c118 c119 c120 c121 c122 c123 c124 c125 c126 c127 c128 c129 c130 c131 c132 c133 c134 c135 c136 c137 c138 c139 c140 c141 c142 c143 c144 c145 c146 c147 c148 c149 c150 c151 c152 c153 c154 c155 c156 c157 c158 c159 c160 c161 c162 c163 c164 c165 c166 c167 c168 c169 c170 c171 c172 c173 c174 c175 c176 c177 c178 c179 c180 c181 c182 c183 c184 c185 c186 c187 c188 c189 c190 c191 c192 c193 c194 c195 c196 c197 c198 c199 c200 c201 c202 c203 c204 c205 c206 c207 c208 c209 c210 c211 c212 c213 c214 c215 c216 c217 c218 c219 c220 c221 c222 c223 c224 c225 c226 c227 c228 c229 c230 c231 c232 c233 c234 c235 c236 c237 c238 c239 c240 c241 c242 c243 c244 c245 c246 c247 c248 c249 c250 c251 c252 : Value) :
    Code.wp Tryd.prog (seqHead (rdStmt 17)) (Exit.then K (Exit.noGoto (bodyPost Tryd.prog Tryd.f48 fun e w' => Rf s e ∧ w = w'))) ⟨(List.toArray ((Value.string s) :: c1 :: (Value.int .u64 z1) :: (Value.int .i64 0) :: (Value.bool ng) :: (Value.bool b1) :: (Value.bool hx) :: (Value.int .i64 (q : Nat)) :: (Value.bool false) :: (Value.bool b2) :: (Value.int .u64 B) :: (Value.int .i64 M) :: (Value.int .u8 E) :: (Value.bool b3) :: (Value.bool b4) :: (Value.int .i64 z2) :: (Value.int .i64 z3) :: (Value.int .i64 z4) :: c18 :: c19 :: c20 :: c21 :: c22 :: c23 :: c24 :: c25 :: c26 :: c27 :: c28 :: c29 :: c30 :: c31 :: c32 :: c33 :: c34 :: c35 :: c36 :: c37 :: c38 :: c39 :: c40 :: c41 :: c42 :: c43 :: c44 :: c45 :: c46 :: c47 :: c48 :: c49 :: c50 :: c51 :: c52 :: c53 :: c54 :: c55 :: c56 :: c57 :: c58 :: c59 :: c60 :: c61 :: c62 :: c63 :: c64 :: c65 :: c66 :: c67 :: c68 :: c69 :: c70 :: c71 :: c72 :: c73 :: c74 :: c75 :: c76 :: c77 :: c78 :: c79 :: c80 :: c81 :: c82 :: c83 :: c84 :: c85 :: c86 :: c87 :: c88 :: c89 :: c90 :: c91 :: c92 :: c93 :: c94 :: c95 :: c96 :: c97 :: c98 :: c99 :: c100 :: c101 :: c102 :: c103 :: c104 :: c105 :: c106 :: c107 :: c108 :: c109 :: c110 :: c111 :: c112 :: c113 :: c114 :: c115 :: c116 :: c117 :: c118 :: c119 :: c120 :: c121 :: c122 :: c123 :: c124 :: c125 :: c126 :: c127 :: c128 :: c129 :: c130 :: c131 :: c132 :: c133 :: c134 :: c135 :: c136 :: c137 :: c138 :: c139 :: c140 :: c141 :: c142 :: c143 :: c144 :: c145 :: c146 :: c147 :: c148 :: c149 :: c150 :: c151 :: c152 :: c153 :: c154 :: c155 :: c156 :: c157 :: c158 :: c159 :: c160 :: c161 :: c162 :: c163 :: c164 :: c165 :: c166 :: c167 :: c168 :: c169 :: c170 :: c171 :: c172 :: c173 :: c174 :: c175 :: c176 :: c177 :: c178 :: c179 :: c180 :: c181 :: c182 :: c183 :: c184 :: c185 :: c186 :: c187 :: c188 :: c189 :: c190 :: c191 :: c192 :: c193 :: c194 :: c195 :: c196 :: c197 :: c198 :: c199 :: c200 :: c201 :: c202 :: c203 :: c204 :: c205 :: c206 :: c207 :: c208 :: c209 :: c210 :: c211 :: c212 :: c213 :: c214 :: c215 :: c216 :: c217 :: c218 :: c219 :: c220 :: c221 :: c222 :: c223 :: c224 :: c225 :: c226 :: c227 :: c228 :: c229 :: c230 :: c231 :: c232 :: c233 :: c234 :: c235 :: c236 :: c237 :: c238 :: c239 :: c240 :: c241 :: c242 :: c243 :: c244 :: c245 :: c246 :: c247 :: c248 :: c249 :: c250 :: c251 :: c252 :: [])), []⟩ w := by
  conv => arg 2; whnf
  have hK' := Lib.hid hK
  clear hK
  go_upto_region 57 with fail
  go_cut [161] from 18 (fun t wx => ∃ b : Bool, t = .bool b ∧ Hid (w = wx) ∧ Hid (b = true → q < s.size ∧ Pre s (q + 1)))
  case first =>
    by_cases hlt : q < s.size
    · have hlt' : (q : Int) < (s.size : Int) := by omega
      obtain ⟨L, hL⟩ : ∃ L, low s[q].toNat = L := ⟨_, rfl⟩
      have HL := Lib.hid (fun W : World => lower_low s[q] W)
      rw [hL] at HL
      by_cases hE : (L : Int) = E
      · have e1 : ((L : Int) == E) = true := by simpa using hE
        have hn := Lib.hid (show q < s.size ∧ Pre s (q + 1) from ⟨hlt, hp.out.next hlt (num_low _ (by rw [hL]; rcases hBE.out with ⟨_, h⟩ | ⟨_, h⟩ <;> omega))⟩)
        clear hE hL
        go_wp2_with (go_at_call 39; refine (HL.out _).mono ?_; rintro e w' ⟨rfl, rfl⟩)
        go_meet
        case rel => exact ⟨true, rfl, Lib.hid rfl, Lib.hid (fun _ => hn.out)⟩
      · have e1 : ((L : Int) == E) = false := by simpa using hE
        clear hE hL
        go_wp2_with (go_at_call 39; refine (HL.out _).mono ?_; rintro e w' ⟨rfl, rfl⟩)
        go_meet
        case rel => exact ⟨false, rfl, Lib.hid rfl, Lib.hid (fun h => by cases h)⟩
    · have hlt' : ¬ (q : Int) < (s.size : Int) := by omega
      clear hlt
      go_wp2_with fail
      go_meet
      case rel => exact ⟨false, rfl, Lib.hid rfl, Lib.hid (fun h => by cases h)⟩
  case rest =>
    obtain ⟨b, rfl, hw, hb⟩ := hcut
    have hw' := hw.out
    subst hw'
    clear hw
    cases b with
    | false =>
      clear hb
      rcases hBE.out with ⟨rfl, rfl⟩ | ⟨rfl, rfl⟩
      · go_wp2_with fail
        exact hK'.out q b2 z4 _ _ _ _ _ _ _ _ _ _ _ _ _ _ _ _ _ _ _ _ _ _ _ _ _ _ _ _ _ _ _ _ _ _ _ _ _ _ _ _ _ _ _ _ _ _ _ _ _ _ _ _ _ _ _ _ _ _ _ _ _ _ _ _ _ _ _ _ _ _ _ _ _ _ _ _ _ _ _ _ _ _ _ _ _ _ _ _ _ _ _ _ _ _ _ _ _ _ _ _ _ _ _ _ _ _ _ _ _ _ _ _ _ _ _ _ _ _ _ _ _ _ _ _ _ _ _ _ _ _ _ _ _ _ _ _ _ _ _ _ _ _ _ _ _ _ _ _ _ _ _ _ _ _ _ _ _ _ _ _ _ _ _ _ _ _ _ _ _ _ _ _ _ _ _ _ _ _ _ _ _ _ _ _ _ _ _ _ _ _ _ _ _ _ _ _ _ _ _ _ _ _ _ _ _ _ _ _ _ _ _ _ _ _ _ _ _ _ _ _ _ _ _ _ _ _ _ _ _ _ _ _ _ _ _ _ hq hp
      · go_wp2_with fail
        try rw [Exit.noGoto_ret]
        exact bodyPost_ret (results_tmp7 rfl _ _ _) rfl ⟨rf_fail, rfl⟩
    | true =>
      obtain ⟨hlt, hn⟩ := hb.out rfl
      have hn' := Lib.hid hn
      clear hb hn
      by_cases hend : q + 1 < s.size
      · have hend' : ¬ (s.size : Int) ≤ (q : Int) + 1 := by omega
        obtain ⟨c, hc⟩ : ∃ c, s[q + 1] = c := ⟨_, rfl⟩
        have hnx : Hid (num c = true → Pre s (q + 1 + 1)) := Lib.hid (fun h => hn'.out.next hend (by rw [hc]; exact h))
        go_upto_block 4 with fail
        go_cut [7, 19] from 20 (fun i es wx => ∃ (k : Nat) (z : Int), i = .int .i64 k ∧ es = .int .i64 z ∧ k ≤ s.size ∧ Hid (w = wx) ∧ Hid (Pre s k))
        case first =>
          by_cases h43 : c = 43
          · have e1 : ((c.toNat : Int) == 43) = true := by rw [h43]; rfl
            have hn2 := Lib.hid (hnx.out (by rw [h43]; rfl))
            clear h43 hnx
            go_wp2_with fail
            go_meet
            case rel => exact ⟨q + 1 + 1, 1, by go_num, rfl, by omega, Lib.hid rfl, hn2⟩
          have e1 := beq_no c 43 h43
          change (_ == (43 : Int)) = _ at e1
          by_cases h45 : c = 45
          · have e2 : ((c.toNat : Int) == 45) = true := by rw [h45]; rfl
            have hn2 := Lib.hid (hnx.out (by rw [h45]; rfl))
            clear h43 h45 hnx
            go_wp2_with fail
            go_meet
            case rel => exact ⟨q + 1 + 1, -1, by go_num, rfl, by omega, Lib.hid rfl, hn2⟩
          have e2 := beq_no c 45 h45
          change (_ == (45 : Int)) = _ at e2
          clear h43 h45 hnx
          go_wp2_with fail
          go_meet
          case rel => exact ⟨q + 1, 1, by go_num, rfl, by omega, Lib.hid rfl, hn'⟩
        case rest =>
          obtain ⟨k, z, rfl, rfl, hk, hw, hpk⟩ := hcut
          have hw' := hw.out
          subst hw'
          clear hw hnx hn'
          by_cases hke : k < s.size
          · have hke' : ¬ (s.size : Int) ≤ (k : Int) := by omega
            obtain ⟨d, hd⟩ : ∃ d, s[k] = d := ⟨_, rfl⟩
            by_cases hlo : d.toNat < 48
            · have f1 : (d.toNat : Int) < 48 := by omega
              go_wp2_with fail
              try rw [Exit.noGoto_ret]
              exact bodyPost_ret (results_tmp7 rfl _ _ _) rfl ⟨rf_fail, rfl⟩
            have f1 : ¬ (d.toNat : Int) < 48 := by omega
            by_cases hhi : 57 < d.toNat
            · have f2 : (57 : Int) < (d.toNat : Int) := by omega
              go_wp2_with fail
              try rw [Exit.noGoto_ret]
              exact bodyPost_ret (results_tmp7 rfl _ _ _) rfl ⟨rf_fail, rfl⟩
            have f2 : ¬ (57 : Int) < (d.toNat : Int) := by omega
            clear hlo hhi
            go_wp2_with fail
            go_loop [7, 9, 20] (fun i us ex => ∃ (k : Nat) (b : Bool) (x : Int), i = .int .i64 k ∧ us = .bool b ∧ ex = .int .i64 x ∧ k ≤ s.size ∧ Hid (Pre s k)) (fun i _ _ => s.size - (intOf i).toNat)
            case atStart => exact ⟨k, b2, 0, rfl, rfl, rfl, hk, hpk⟩
            case round =>
              obtain ⟨k2, b, x, rfl, rfl, rfl, hk2, hp2⟩ := hrel
              clear hd f1 f2 hke'
              by_cases hl2 : k2 < s.size
              · have hl2' : (k2 : Int) < (s.size : Int) := by omega
                obtain ⟨c2, hc2⟩ : ∃ c, s[k2] = c := ⟨_, rfl⟩
                have hc256 : c2.toNat < 256 := c2.toNat_lt
                by_cases h95 : c2 = 95
                · have e5 : ((c2.toNat : Int) == 95) = true := by rw [h95]; rfl
                  have g1 : (48 : Int) ≤ (c2.toNat : Int) := by rw [h95]; decide
                  have g2 : ¬ (c2.toNat : Int) ≤ 57 := by rw [h95]; decide
                  have hn3 := Lib.hid (hp2.out.next hl2 (by rw [hc2, h95]; rfl))
                  clear h95
                  go_wp2_with fail
                  go_round
                  case rel => exact ⟨k2 + 1, true, x, by go_num, rfl, rfl, by omega, hn3⟩
                  case measure => simp [intOf]; omega
                have e5 := beq_no c2 95 h95
                change (_ == (95 : Int)) = _ at e5
                clear h95
                by_cases hdig : 48 ≤ c2.toNat ∧ c2.toNat ≤ 57
                · have g1 : (48 : Int) ≤ (c2.toNat : Int) := by omega
                  have g2 : (c2.toNat : Int) ≤ 57 := by omega
                  have hn3 := Lib.hid (hp2.out.next hl2 (by rw [hc2]; exact num_dig c2 hdig.1 hdig.2))
                  clear hdig
                  by_cases hx4 : x < 10000
                  · go_wp2_with fail
                    go_round
                    case rel => exact ⟨k2 + 1, b, _, by go_num, rfl, rfl, by omega, hn3⟩
                    case measure => simp [intOf]; omega
                  · go_wp2_with fail
                    go_round
                    case rel => exact ⟨k2 + 1, b, x, by go_num, rfl, rfl, by omega, hn3⟩
                    case measure => simp [intOf]; omega
                · by_cases hlo : 48 ≤ c2.toNat
                  · have g1 : (48 : Int) ≤ (c2.toNat : Int) := by omega
                    have g2 : ¬ (c2.toNat : Int) ≤ 57 := by omega
                    clear hdig hlo
                    go_wp2_with fail
                    exact hK'.out k2 b _ _ _ _ _ _ _ _ _ _ _ _ _ _ _ _ _ _ _ _ _ _ _ _ _ _ _ _ _ _ _ _ _ _ _ _ _ _ _ _ _ _ _ _ _ _ _ _ _ _ _ _ _ _ _ _ _ _ _ _ _ _ _ _ _ _ _ _ _ _ _ _ _ _ _ _ _ _ _ _ _ _ _ _ _ _ _ _ _ _ _ _ _ _ _ _ _ _ _ _ _ _ _ _ _ _ _ _ _ _ _ _ _ _ _ _ _ _ _ _ _ _ _ _ _ _ _ _ _ _ _ _ _ _ _ _ _ _ _ _ _ _ _ _ _ _ _ _ _ _ _ _ _ _ _ _ _ _ _ _ _ _ _ _ _ _ _ _ _ _ _ _ _ _ _ _ _ _ _ _ _ _ _ _ _ _ _ _ _ _ _ _ _ _ _ _ _ _ _ _ _ _ _ _ _ _ _ _ _ _ _ _ _ _ _ _ _ _ _ _ _ _ _ _ _ _ _ _ _ _ _ _ _ _ _ _ _ hk2 hp2
                  · have g1 : ¬ (48 : Int) ≤ (c2.toNat : Int) := by omega
                    clear hdig hlo
                    go_wp2_with fail
                    exact hK'.out k2 b _ _ _ _ _ _ _ _ _ _ _ _ _ _ _ _ _ _ _ _ _ _ _ _ _ _ _ _ _ _ _ _ _ _ _ _ _ _ _ _ _ _ _ _ _ _ _ _ _ _ _ _ _ _ _ _ _ _ _ _ _ _ _ _ _ _ _ _ _ _ _ _ _ _ _ _ _ _ _ _ _ _ _ _ _ _ _ _ _ _ _ _ _ _ _ _ _ _ _ _ _ _ _ _ _ _ _ _ _ _ _ _ _ _ _ _ _ _ _ _ _ _ _ _ _ _ _ _ _ _ _ _ _ _ _ _ _ _ _ _ _ _ _ _ _ _ _ _ _ _ _ _ _ _ _ _ _ _ _ _ _ _ _ _ _ _ _ _ _ _ _ _ _ _ _ _ _ _ _ _ _ _ _ _ _ _ _ _ _ _ _ _ _ _ _ _ _ _ _ _ _ _ _ _ _ _ _ _ _ _ _ _ _ _ _ _ _ _ _ _ _ _ _ _ _ _ _ _ _ _ _ _ _ _ _ _ _ hk2 hp2
              · obtain rfl : k2 = s.size := by omega
                go_wp2_with fail
                exact hK'.out _ b _ _ _ _ _ _ _ _ _ _ _ _ _ _ _ _ _ _ _ _ _ _ _ _ _ _ _ _ _ _ _ _ _ _ _ _ _ _ _ _ _ _ _ _ _ _ _ _ _ _ _ _ _ _ _ _ _ _ _ _ _ _ _ _ _ _ _ _ _ _ _ _ _ _ _ _ _ _ _ _ _ _ _ _ _ _ _ _ _ _ _ _ _ _ _ _ _ _ _ _ _ _ _ _ _ _ _ _ _ _ _ _ _ _ _ _ _ _ _ _ _ _ _ _ _ _ _ _ _ _ _ _ _ _ _ _ _ _ _ _ _ _ _ _ _ _ _ _ _ _ _ _ _ _ _ _ _ _ _ _ _ _ _ _ _ _ _ _ _ _ _ _ _ _ _ _ _ _ _ _ _ _ _ _ _ _ _ _ _ _ _ _ _ _ _ _ _ _ _ _ _ _ _ _ _ _ _ _ _ _ _ _ _ _ _ _ _ _ _ _ _ _ _ _ _ _ _ _ _ _ _ _ _ _ _ _ _ hk2 hp2
          · have hke' : (s.size : Int) ≤ (k : Int) := by omega
            go_wp2_with fail
            try rw [Exit.noGoto_ret]
            exact bodyPost_ret (results_tmp7 rfl _ _ _) rfl ⟨rf_fail, rfl⟩
      · have hend' : (s.size : Int) ≤ (q : Int) + 1 := by omega
        go_wp2_with fail
        try rw [Exit.noGoto_ret]
        exact bodyPost_ret (results_tmp7 rfl _ _ _) rfl ⟨rf_fail, rfl⟩
end Go.Proofs.YtjaibjdhfljmmaaDoor
