/-
  readFloat between the sign and the digits, whatever the text.
-/
import Derived.Test.YtjaibjdhfljmmaaDoorReadEnd
namespace Go.Proofs.YtjaibjdhfljmmaaDoor
open Go.RowKit
set_option maxHeartbeats 4000000
set_option maxRecDepth 1000000

theorem rd_mid (s : ByteArray) (hs : s.size ≤ 1073741824) (hne : 0 < s.size) (ng : Bool) (w : World) (k : Nat) (hks : k ≤ s.size) (hpre : Hid (Pre s k))
    (c1 c10 c11 c12 c13 c14 c15 c16 c17 c18 c19 c20 c21 c22 c23 c24 c25 c26 c27 c28 c29 c30 c31 c32 c33 c34 c35 c36 c37 c38 c39 c40 c41 c42 c43 c44 c45 c46 c47 c48 c49 c50 c51 c52 c53 c54 c55 c56 c57 c58 c59 c60 c61 c62 c63 c64 c65 c66 c67 c68 c69 c70 c71 c72 c73 c74 c75 c76 c77 c78 c79 c80 c81 c82 c83 c84 c85 c86 c87 c88 c89 c90 c91 c92 c93 c94 c95 c96 c97 c98 c99 c100 c101 c102 c103 c104 c105 c106 c107 c108 c109 c110 c111 c112 c113 c114 c115 c116 c117 c118 c119 c120 c121 c122 c123 c124 c125 c126 c127 c128 c129 c130 c131 c132 c133 c134 c135 c136 c137 c138 c139 c140 c141 c142 c143 c144 c145 c146 c147 c148 c149 c150 c151 c152 c153 c154 c155 c156 c157 c158 c159 c160 c161 c162 c163 c164 c165 c166 c167 c168 c169 c170 c171 c172 c173 c174 c175 c176 c177 c178 c179 c180 c181 c182 c183 c184 c185 c186 c187 c188 c189 c190 c191 c192 c193 c194 c195 c196 c197 c198 c199 c200 c201 c202 c203 c204 c205 c206 c207 c208 c209 c210 c211 c212 c213 c214 c215 c216 c217 c218 c219 c220 c221 c222 c223 c224 c225 c226 c227 c228 c229 c230 c231 c232 c233 c234 c235 c236 c237 c238 c239 c240 c241 c242 c243 c244 c245 c246 c247 c248 c249 c250 c251 c252 : Value) :
    Code.wp Tryd.prog (rdStmt 3) (Exit.noGoto (bodyPost Tryd.prog Tryd.f48 fun e w' => Rf s e ∧ w = w')) ⟨(List.toArray ((Value.string s) :: c1 :: (Value.int .u64 0) :: (Value.int .i64 0) :: (Value.bool ng) :: (Value.bool false) :: (Value.bool false) :: (Value.int .i64 (k : Nat)) :: (Value.bool false) :: (Value.bool false) :: c10 :: c11 :: c12 :: c13 :: c14 :: c15 :: c16 :: c17 :: c18 :: c19 :: c20 :: c21 :: c22 :: c23 :: c24 :: c25 :: c26 :: c27 :: c28 :: c29 :: c30 :: c31 :: c32 :: c33 :: c34 :: c35 :: c36 :: c37 :: c38 :: c39 :: c40 :: c41 :: c42 :: c43 :: c44 :: c45 :: c46 :: c47 :: c48 :: c49 :: c50 :: c51 :: c52 :: c53 :: c54 :: c55 :: c56 :: c57 :: c58 :: c59 :: c60 :: c61 :: c62 :: c63 :: c64 :: c65 :: c66 :: c67 :: c68 :: c69 :: c70 :: c71 :: c72 :: c73 :: c74 :: c75 :: c76 :: c77 :: c78 :: c79 :: c80 :: c81 :: c82 :: c83 :: c84 :: c85 :: c86 :: c87 :: c88 :: c89 :: c90 :: c91 :: c92 :: c93 :: c94 :: c95 :: c96 :: c97 :: c98 :: c99 :: c100 :: c101 :: c102 :: c103 :: c104 :: c105 :: c106 :: c107 :: c108 :: c109 :: c110 :: c111 :: c112 :: c113 :: c114 :: c115 :: c116 :: c117 :: c118 :: c119 :: c120 :: c121 :: c122 :: c123 :: c124 :: c125 :: c126 :: c127 :: c128 :: c129 :: c130 :: c131 :: c132 :: c133 :: c134 :: c135 :: c136 :: c137 :: c138 :: c139 :: c140 :: c141 :: c142 :: c143 :: c144 :: c145 :: c146 :: c147 :: c148 :: c149 :: c150 :: c151 :: c152 :: c153 :: c154 :: c155 :: c156 :: c157 :: c158 :: c159 :: c160 :: c161 :: c162 :: c163 :: c164 :: c165 :: c166 :: c167 :: c168 :: c169 :: c170 :: c171 :: c172 :: c173 :: c174 :: c175 :: c176 :: c177 :: c178 :: c179 :: c180 :: c181 :: c182 :: c183 :: c184 :: c185 :: c186 :: c187 :: c188 :: c189 :: c190 :: c191 :: c192 :: c193 :: c194 :: c195 :: c196 :: c197 :: c198 :: c199 :: c200 :: c201 :: c202 :: c203 :: c204 :: c205 :: c206 :: c207 :: c208 :: c209 :: c210 :: c211 :: c212 :: c213 :: c214 :: c215 :: c216 :: c217 :: c218 :: c219 :: c220 :: c221 :: c222 :: c223 :: c224 :: c225 :: c226 :: c227 :: c228 :: c229 :: c230 :: c231 :: c232 :: c233 :: c234 :: c235 :: c236 :: c237 :: c238 :: c239 :: c240 :: c241 :: c242 :: c243 :: c244 :: c245 :: c246 :: c247 :: c248 :: c249 :: c250 :: c251 :: c252 :: [])), []⟩ w := by
  conv => arg 2; whnf
  go_upto_region 12 with fail
  go_cut [54] from 18 (fun t wx => ∃ b : Bool, t = .bool b ∧ Hid (w = wx) ∧ Hid (b = true → k + 2 < s.size ∧ Pre s (k + 2)))
  case first =>
    by_cases h2 : k + 2 < s.size
    · have h2' : (k : Int) + 2 < (s.size : Int) := by omega
      have hk : k < s.size := by omega
      have hk1' : k + 1 < s.size := by omega
      obtain ⟨L, hL⟩ : ∃ L, low s[k + 1].toNat = L := ⟨_, rfl⟩
      have HL := Lib.hid (fun W : World => lower_low s[k + 1] W)
      rw [hL] at HL
      by_cases h48 : s[k] = 48
      · have e1 : (((s[k]).toNat : Int) == 48) = true := by rw [h48]; rfl
        by_cases h120 : L = 120
        · have e2 : ((L : Int) == 120) = true := by rw [h120]; rfl
          have hf := Lib.hid (show k + 2 < s.size ∧ Pre s (k + 2) from ⟨h2, (hpre.out.next hk (by rw [h48]; rfl)).next hk1' (num_low _ (Or.inr (Or.inr (hL.trans h120))))⟩)
          clear h48 h120 hL h2
          go_wp2_with (go_at_call 39; refine (HL.out _).mono ?_; rintro e w' ⟨rfl, rfl⟩)
          go_meet
          case rel => exact ⟨true, rfl, Lib.hid rfl, Lib.hid (fun _ => hf.out)⟩
        · have e2 : ((L : Int) == 120) = false := by rw [beq_eq_false_iff_ne]; omega
          clear h48 h120 hL h2
          go_wp2_with (go_at_call 39; refine (HL.out _).mono ?_; rintro e w' ⟨rfl, rfl⟩)
          go_meet
          case rel => exact ⟨false, rfl, Lib.hid rfl, Lib.hid (fun h => by cases h)⟩
      · have e1 := beq_no s[k] 48 h48
        change (_ == (48 : Int)) = _ at e1
        clear h48 hL h2
        go_wp2_with fail
        go_meet
        case rel => exact ⟨false, rfl, Lib.hid rfl, Lib.hid (fun h => by cases h)⟩
    · have h2' : ¬ (k : Int) + 2 < (s.size : Int) := by omega
      clear h2
      go_wp2_with fail
      go_meet
      case rel => exact ⟨false, rfl, Lib.hid rfl, Lib.hid (fun h => by cases h)⟩
  case rest =>
    obtain ⟨b, rfl, hw, hb⟩ := hcut
    have hw' := hw.out
    subst hw'
    clear hw
    go_upto_if 54 with fail
    go_cut [6, 7, 10, 11, 12] from 13 (fun hx i bs mx ec wx => ∃ (hb : Bool) (j : Nat) (M : Int), hx = .bool hb ∧ i = .int .i64 j ∧ bs = .int .u64 (if hb then 16 else 10) ∧ mx = .int .i64 M ∧ ec = .int .u8 (if hb then 112 else 101) ∧ j ≤ s.size ∧ Hid (w = wx) ∧ Hid (Pre s j))
    case first =>
      cases b with
      | false =>
        clear hb
        go_wp2_with fail
        go_meet
        case rel => exact ⟨false, k, 19, rfl, rfl, rfl, rfl, rfl, hks, Lib.hid rfl, hpre⟩
      | true =>
        obtain ⟨hb1, hb2⟩ := hb.out rfl
        have hb2' := Lib.hid hb2
        clear hb hb2
        go_wp2_with fail
        go_meet
        case rel => exact ⟨true, k + 2, 16, rfl, by go_num, rfl, rfl, rfl, by omega, Lib.hid rfl, hb2'⟩
    case rest =>
      obtain ⟨hx, j, M, rfl, rfl, rfl, rfl, rfl, hjs, hw, hpj⟩ := hcut
      have hw' := hw.out
      subst hw'
      clear hw hb hpre
      obtain ⟨B, hB⟩ : ∃ B : Int, (if hx then 16 else 10) = B := ⟨_, rfl⟩
      obtain ⟨E, hE⟩ : ∃ E : Int, (if hx then 112 else 101) = E := ⟨_, rfl⟩
      rw [hB, hE]
      have hBE : Hid ((B = 10 ∧ E = 101) ∨ (B = 16 ∧ E = 112)) := Lib.hid (by cases hx <;> simp at hB hE <;> omega)
      clear hB hE
      go_wp2_with fail
      go_step3
      go_upto_block 1 with fail
      rename_i K hk
      refine rd_loop s hs ng hx B M E hBE w K _ j hjs hpj ?_ _ _ _ _ _ _ _ _ _ _ _ _ _ _ _ _ _ _ _ _ _ _ _ _ _ _ _ _ _ _ _ _ _ _ _ _ _ _ _ _ _ _ _ _ _ _ _ _ _ _ _ _ _ _ _ _ _ _ _ _ _ _ _ _ _ _ _ _ _ _ _ _ _ _ _ _ _ _ _ _ _ _ _ _ _ _ _ _ _ _ _ _ _ _ _ _ _ _ _ _ _ _ _ _ _ _ _ _ _ _ _ _ _ _ _ _ _ _ _ _ _ _ _ _ _ _ _ _ _ _ _ _ _ _ _ _ _ _ _ _ _ _ _ _ _ _ _ _ _ _ _ _ _ _ _ _ _ _ _ _ _ _ _ _ _ _ _ _ _ _ _ _ _ _ _ _ _ _ _ _ _ _ _ _ _ _ _ _ _ _ _ _ _ _ _ _ _ _ _ _ _ _ _ _ _ _ _ _ _ _ _ _ _ _ _ _ _ _ _ _ _ _ _ _ _ _ _ _ _ _ _ _ _ _ _ _
      intro z1 b1 q b2 b3 b4 z2 z3 z4 c1 c18 c19 c20 c21 c22 c23 c24 c25 c26 c27 c28 c29 c30 c31 c32 c33 c34 c35 c36 c37 c38 c39 c40 c41 c42 c43 c44 c45 c46 c47 c48 c49 c50 c51 c52 c53 c54 c55 c56 c57 c58 c59 c60 c61 c62 c63 c64 c65 c66 c67 c68 c69 c70 c71 c72 c73 c74 c75 c76 c77 c78 c79 c80 c81 c82 c83 c84 c85 c86 c87 c88 c89 c90 c91 c92 c93 c94 c95 c96 c97 c98 c99 c100 c101 c102 c103 c104 c105 c106 c107 c108 c109 c110 c111 c112 c113 c114 c115 c116 c117 c118 c119 c120 c121 c122 c123 c124 c125 c126 c127 c128 c129 c130 c131 c132 c133 c134 c135 c136 c137 c138 c139 c140 c141 c142 c143 c144 c145 c146 c147 c148 c149 c150 c151 c152 c153 c154 c155 c156 c157 c158 c159 c160 c161 c162 c163 c164 c165 c166 c167 c168 c169 c170 c171 c172 c173 c174 c175 c176 c177 c178 c179 c180 c181 c182 c183 c184 c185 c186 c187 c188 c189 c190 c191 c192 c193 c194 c195 c196 c197 c198 c199 c200 c201 c202 c203 c204 c205 c206 c207 c208 c209 c210 c211 c212 c213 c214 c215 c216 c217 c218 c219 c220 c221 c222 c223 c224 c225 c226 c227 c228 c229 c230 c231 c232 c233 c234 c235 c236 c237 c238 c239 c240 c241 c242 c243 c244 c245 c246 c247 c248 c249 c250 c251 c252 hq hz1 hz2 hp
      exact hk _ _ (rd_tail s hs ng hx B M E hBE w z1 b1 q b2 b3 b4 z2 z3 z4 hq hz1 hz2 hp c1 c18 c19 c20 c21 c22 c23 c24 c25 c26 c27 c28 c29 c30 c31 c32 c33 c34 c35 c36 c37 c38 c39 c40 c41 c42 c43 c44 c45 c46 c47 c48 c49 c50 c51 c52 c53 c54 c55 c56 c57 c58 c59 c60 c61 c62 c63 c64 c65 c66 c67 c68 c69 c70 c71 c72 c73 c74 c75 c76 c77 c78 c79 c80 c81 c82 c83 c84 c85 c86 c87 c88 c89 c90 c91 c92 c93 c94 c95 c96 c97 c98 c99 c100 c101 c102 c103 c104 c105 c106 c107 c108 c109 c110 c111 c112 c113 c114 c115 c116 c117 c118 c119 c120 c121 c122 c123 c124 c125 c126 c127 c128 c129 c130 c131 c132 c133 c134 c135 c136 c137 c138 c139 c140 c141 c142 c143 c144 c145 c146 c147 c148 c149 c150 c151 c152 c153 c154 c155 c156 c157 c158 c159 c160 c161 c162 c163 c164 c165 c166 c167 c168 c169 c170 c171 c172 c173 c174 c175 c176 c177 c178 c179 c180 c181 c182 c183 c184 c185 c186 c187 c188 c189 c190 c191 c192 c193 c194 c195 c196 c197 c198 c199 c200 c201 c202 c203 c204 c205 c206 c207 c208 c209 c210 c211 c212 c213 c214 c215 c216 c217 c218 c219 c220 c221 c222 c223 c224 c225 c226 c227 c228 c229 c230 c231 c232 c233 c234 c235 c236 c237 c238 c239 c240 c241 c242 c243 c244 c245 c246 c247 c248 c249 c250 c251 c252)
end Go.Proofs.YtjaibjdhfljmmaaDoor
