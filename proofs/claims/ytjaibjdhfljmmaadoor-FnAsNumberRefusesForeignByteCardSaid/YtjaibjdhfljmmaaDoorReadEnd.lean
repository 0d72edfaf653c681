/-
  readFloat's end, whatever the text.
-/
import Derived.Test.YtjaibjdhfljmmaaDoorReadExp
namespace Go.Proofs.YtjaibjdhfljmmaaDoor
open Go.RowKit
set_option maxHeartbeats 4000000
set_option maxRecDepth 1000000

theorem rd_end (s : ByteArray) (hs : s.size ≤ 1073741824) (ng hx : Bool) (B M E : Int) (w : World)
    (z1 : Int) (b1 : Bool) (q : Nat) (b2 b3 b4 : Bool) (z2 z3 z4 : Int) (hq : q ≤ s.size) (hz1 : 0 ≤ z1) (hz2 : z1 < 18446744073709551616) (hp : Hid (Pre s q))
    (c1 c18 c19 c20 c21 c22 c23 c24 c25 c26 c27 c28 c29 c30 c31 c32 c33 c34 c35 c36 c37 c38 c39 c40 c41 c42 c43 c44 c45 c46 c47 c48 c49 c50 c51 c52 c53 c54 c55 c56 c57 c58 c59 c60 c61 c62 c63 c64 c65 c66 c67 c68 c69 c70 c71 c72 c73 c74 c75 c76 c77 c78 c79 c80 c81 c82 c83 c84 c85 c86 c87 c88 c89 c90 c91 c92 c93 c94 c95 c96 c97 c98 c99 c100 c101 c102 c103 c104 c105 c106 c107 c108 c109 c110 c111 c112 c113 c114 c115 c116 c117 c118 c119 c120 c121 c122 c123 c124 c125 c126 c127 c128 c129 c130 c131 c132 c133 c134 c135 c136 c137 c138 c139 c140 c141 c142 c143 c144 c145 c146 c147 c148 c149 c150 c151 c152 c153 c154 c155 c156 c157 c158 c159 c160 c161 c162 c163 c164 c165 c166 c167 c168 c169 c170 c171 c172 c173 c174 c175 c176 c177 c178 c179 c180 c181 c182 c183 c184 c185 c186 c187 c188 c189 c190 c191 c192 c193 c194 c195 c196 c197 c198 c199 c200 c201 c202 c203 c204 c205 c206 c207 c208 c209 c210 c211 c212 c213 c214 c215 c216 c217 c218 c219 c220 c221 c222 c223 c224 c225 c226 c227 c228 c229 c230 c231 c232 c233 c234 c235 c236 c237 c238 c239 c240 c241 c242 c243 c244 c245 c246 c247 c248 c249 c250 c251 c252 : Value) :
    Code.wp Tryd.prog (rdStmt 18) (Exit.noGoto (bodyPost Tryd.prog Tryd.f48 fun e w' => Rf s e ∧ w = w')) ⟨(List.toArray ((Value.string s) :: c1 :: (Value.int .u64 z1) :: (Value.int .i64 0) :: (Value.bool ng) :: (Value.bool b1) :: (Value.bool hx) :: (Value.int .i64 (q : Nat)) :: (Value.bool false) :: (Value.bool b2) :: (Value.int .u64 B) :: (Value.int .i64 M) :: (Value.int .u8 E) :: (Value.bool b3) :: (Value.bool b4) :: (Value.int .i64 z2) :: (Value.int .i64 z3) :: (Value.int .i64 z4) :: c18 :: c19 :: c20 :: c21 :: c22 :: c23 :: c24 :: c25 :: c26 :: c27 :: c28 :: c29 :: c30 :: c31 :: c32 :: c33 :: c34 :: c35 :: c36 :: c37 :: c38 :: c39 :: c40 :: c41 :: c42 :: c43 :: c44 :: c45 :: c46 :: c47 :: c48 :: c49 :: c50 :: c51 :: c52 :: c53 :: c54 :: c55 :: c56 :: c57 :: c58 :: c59 :: c60 :: c61 :: c62 :: c63 :: c64 :: c65 :: c66 :: c67 :: c68 :: c69 :: c70 :: c71 :: c72 :: c73 :: c74 :: c75 :: c76 :: c77 :: c78 :: c79 :: c80 :: c81 :: c82 :: c83 :: c84 :: c85 :: c86 :: c87 :: c88 :: c89 :: c90 :: c91 :: c92 :: c93 :: c94 :: c95 :: c96 :: c97 :: c98 :: c99 :: c100 :: c101 :: c102 :: c103 :: c104 :: c105 :: c106 :: c107 :: c108 :: c109 :: c110 :: c111 :: c112 :: c113 :: c114 :: c115 :: c116 :: c117 :: c118 :: c119 :: c120 :: c121 :: c122 :: c123 :: c124 :: c125 :: c126 :: c127 :: c128 :: c129 :: c130 :: c131 :: c132 :: c133 :: c134 :: c135 :: c136 :: c137 :: c138 :: c139 :: c140 :: c141 :: c142 :: c143 :: c144 :: c145 :: c146 :: c147 :: c148 :: c149 :: c150 :: c151 :: c152 :: c153 :: c154 :: c155 :: c156 :: c157 :: c158 :: c159 :: c160 :: c161 :: c162 :: c163 :: c164 :: c165 :: c166 :: c167 :: c168 :: c169 :: c170 :: c171 :: c172 :: c173 :: c174 :: c175 :: c176 :: c177 :: c178 :: c179 :: c180 :: c181 :: c182 :: c183 :: c184 :: c185 :: c186 :: c187 :: c188 :: c189 :: c190 :: c191 :: c192 :: c193 :: c194 :: c195 :: c196 :: c197 :: c198 :: c199 :: c200 :: c201 :: c202 :: c203 :: c204 :: c205 :: c206 :: c207 :: c208 :: c209 :: c210 :: c211 :: c212 :: c213 :: c214 :: c215 :: c216 :: c217 :: c218 :: c219 :: c220 :: c221 :: c222 :: c223 :: c224 :: c225 :: c226 :: c227 :: c228 :: c229 :: c230 :: c231 :: c232 :: c233 :: c234 :: c235 :: c236 :: c237 :: c238 :: c239 :: c240 :: c241 :: c242 :: c243 :: c244 :: c245 :: c246 :: c247 :: c248 :: c249 :: c250 :: c251 :: c252 :: [])), []⟩ w := by
  conv => arg 2; whnf
  have hqz : (s.extract 0 q).size ≤ 1073741824 := by
    have e : (s.extract 0 q).data.toList = s.data.toList.take q := by rw [Lib.extract_data]; simp
    rw [Lib.size_eq, e, List.length_take, ← Lib.size_eq]
    omega
  have HU := Lib.hid (uok_any (s.extract 0 q) hqz w)
  clear hqz
  by_cases hm : z1 = 0
  · have e1 : (z1 != 0) = false := by simpa using hm
    clear hm
    cases b2 with
    | false =>
      go_wp2_with fail
      try rw [Exit.noGoto_ret]
      exact bodyPost_ret (results_tmp7 rfl _ _ _) rfl ⟨⟨z1, _, ng, b1, hx, true, q, rfl, fun _ => ⟨hq, hp.out, hz1, hz2⟩⟩, rfl⟩
    | true =>
      go_wp2_with fail
      refine HU.out.mono ?_
      rintro e w' ⟨⟨r, rfl⟩, rfl⟩
      clear HU
      cases r with
      | false =>
        go_wp2_with fail
        try rw [Exit.noGoto_ret]
        exact bodyPost_ret (results_tmp7 rfl _ _ _) rfl ⟨rf_fail, rfl⟩
      | true =>
        go_wp2_with fail
        try rw [Exit.noGoto_ret]
        exact bodyPost_ret (results_tmp7 rfl _ _ _) rfl ⟨⟨z1, _, ng, b1, hx, true, q, rfl, fun _ => ⟨hq, hp.out, hz1, hz2⟩⟩, rfl⟩
  · have e1 : (z1 != 0) = true := by simpa using hm
    clear hm
    cases b2 with
    | false =>
      go_wp2_with fail
      try rw [Exit.noGoto_ret]
      exact bodyPost_ret (results_tmp7 rfl _ _ _) rfl ⟨⟨z1, _, ng, b1, hx, true, q, rfl, fun _ => ⟨hq, hp.out, hz1, hz2⟩⟩, rfl⟩
    | true =>
      go_wp2_with fail
      refine HU.out.mono ?_
      rintro e w' ⟨⟨r, rfl⟩, rfl⟩
      clear HU
      cases r with
      | false =>
        go_wp2_with fail
        try rw [Exit.noGoto_ret]
        exact bodyPost_ret (results_tmp7 rfl _ _ _) rfl ⟨rf_fail, rfl⟩
      | true =>
        go_wp2_with fail
        try rw [Exit.noGoto_ret]
        exact bodyPost_ret (results_tmp7 rfl _ _ _) rfl ⟨⟨z1, _, ng, b1, hx, true, q, rfl, fun _ => ⟨hq, hp.out, hz1, hz2⟩⟩, rfl⟩


theorem rd_tail (s : ByteArray) (hs : s.size ≤ 1073741824) (ng hx : Bool) (B M E : Int) (hBE : Hid ((B = 10 ∧ E = 101) ∨ (B = 16 ∧ E = 112))) (w : World)
    (z1 : Int) (b1 : Bool) (q : Nat) (b2 b3 b4 : Bool) (z2 z3 z4 : Int) (hq : q ≤ s.size) (hz1 : 0 ≤ z1) (hz2 : z1 < 18446744073709551616) (hp : Hid (Pre s q))
    (c1 c18 c19 c20 c21 c22 c23 c24 c25 c26 c27 c28 c29 c30 c31 c32 c33 c34 c35 c36 c37 c38 c39 c40 c41 c42 c43 c44 c45 c46 c47 c48 c49 c50 c51 c52 c53 c54 c55 c56 c57 c58 c59 c60 c61 c62 c63 c64 c65 c66 c67 c68 c69 c70 c71 c72 c73 c74 c75 c76 c77 c78 c79 c80 c81 c82 c83 c84 c85 c86 c87 c88 c89 c90 c91 c92 c93 c94 c95 c96 c97 c98 c99 c100 c101 c102 c103 c104 c105 c106 c107 c108 c109 c110 c111 c112 c113 c114 c115 c116 c117 c118 c119 c120 c121 c122 c123 c124 c125 c126 c127 c128 c129 c130 c131 c132 c133 c134 c135 c136 c137 c138 c139 c140 c141 c142 c143 c144 c145 c146 c147 c148 c149 c150 c151 c152 c153 c154 c155 c156 c157 c158 c159 c160 c161 c162 c163 c164 c165 c166 c167 c168 c169 c170 c171 c172 c173 c174 c175 c176 c177 c178 c179 c180 c181 c182 c183 c184 c185 c186 c187 c188 c189 c190 c191 c192 c193 c194 c195 c196 c197 c198 c199 c200 c201 c202 c203 c204 c205 c206 c207 c208 c209 c210 c211 c212 c213 c214 c215 c216 c217 c218 c219 c220 c221 c222 c223 c224 c225 c226 c227 c228 c229 c230 c231 c232 c233 c234 c235 c236 c237 c238 c239 c240 c241 c242 c243 c244 c245 c246 c247 c248 c249 c250 c251 c252 : Value) :
    Code.wp Tryd.prog (rdStmt 14) (Exit.noGoto (bodyPost Tryd.prog Tryd.f48 fun e w' => Rf s e ∧ w = w')) ⟨(List.toArray ((Value.string s) :: c1 :: (Value.int .u64 z1) :: (Value.int .i64 0) :: (Value.bool ng) :: (Value.bool b1) :: (Value.bool hx) :: (Value.int .i64 (q : Nat)) :: (Value.bool false) :: (Value.bool b2) :: (Value.int .u64 B) :: (Value.int .i64 M) :: (Value.int .u8 E) :: (Value.bool b3) :: (Value.bool b4) :: (Value.int .i64 z2) :: (Value.int .i64 z3) :: (Value.int .i64 z4) :: c18 :: c19 :: c20 :: c21 :: c22 :: c23 :: c24 :: c25 :: c26 :: c27 :: c28 :: c29 :: c30 :: c31 :: c32 :: c33 :: c34 :: c35 :: c36 :: c37 :: c38 :: c39 :: c40 :: c41 :: c42 :: c43 :: c44 :: c45 :: c46 :: c47 :: c48 :: c49 :: c50 :: c51 :: c52 :: c53 :: c54 :: c55 :: c56 :: c57 :: c58 :: c59 :: c60 :: c61 :: c62 :: c63 :: c64 :: c65 :: c66 :: c67 :: c68 :: c69 :: c70 :: c71 :: c72 :: c73 :: c74 :: c75 :: c76 :: c77 :: c78 :: c79 :: c80 :: c81 :: c82 :: c83 :: c84 :: c85 :: c86 :: c87 :: c88 :: c89 :: c90 :: c91 :: c92 :: c93 :: c94 :: c95 :: c96 :: c97 :: c98 :: c99 :: c100 :: c101 :: c102 :: c103 :: c104 :: c105 :: c106 :: c107 :: c108 :: c109 :: c110 :: c111 :: c112 :: c113 :: c114 :: c115 :: c116 :: c117 :: c118 :: c119 :: c120 :: c121 :: c122 :: c123 :: c124 :: c125 :: c126 :: c127 :: c128 :: c129 :: c130 :: c131 :: c132 :: c133 :: c134 :: c135 :: c136 :: c137 :: c138 :: c139 :: c140 :: c141 :: c142 :: c143 :: c144 :: c145 :: c146 :: c147 :: c148 :: c149 :: c150 :: c151 :: c152 :: c153 :: c154 :: c155 :: c156 :: c157 :: c158 :: c159 :: c160 :: c161 :: c162 :: c163 :: c164 :: c165 :: c166 :: c167 :: c168 :: c169 :: c170 :: c171 :: c172 :: c173 :: c174 :: c175 :: c176 :: c177 :: c178 :: c179 :: c180 :: c181 :: c182 :: c183 :: c184 :: c185 :: c186 :: c187 :: c188 :: c189 :: c190 :: c191 :: c192 :: c193 :: c194 :: c195 :: c196 :: c197 :: c198 :: c199 :: c200 :: c201 :: c202 :: c203 :: c204 :: c205 :: c206 :: c207 :: c208 :: c209 :: c210 :: c211 :: c212 :: c213 :: c214 :: c215 :: c216 :: c217 :: c218 :: c219 :: c220 :: c221 :: c222 :: c223 :: c224 :: c225 :: c226 :: c227 :: c228 :: c229 :: c230 :: c231 :: c232 :: c233 :: c234 :: c235 :: c236 :: c237 :: c238 :: c239 :: c240 :: c241 :: c242 :: c243 :: c244 :: c245 :: c246 :: c247 :: c248 :: c249 :: c250 :: c251 :: c252 :: [])), []⟩ w := by
  conv => arg 2; whnf
  cases b4 with
  | false =>
    go_wp2_with fail
    try rw [Exit.noGoto_ret]
    exact bodyPost_ret (results_tmp7 rfl _ _ _) rfl ⟨rf_fail, rfl⟩
  | true =>
    go_upto_if 142 with fail
    go_cut [17] from 18 (fun dp wx => ∃ z : Int, dp = .int .i64 z ∧ Hid (w = wx))
    case first =>
      cases b3 with
      | false =>
        go_wp2_with fail
        go_meet
        case rel => exact ⟨_, rfl, Lib.hid rfl⟩
      | true =>
        go_wp2_with fail
        go_meet
        case rel => exact ⟨_, rfl, Lib.hid rfl⟩
    case rest =>
      obtain ⟨y4, rfl, hw⟩ := hcut
      have hw' := hw.out
      subst hw'
      clear hw
      go_upto_if 145 with fail
      go_cut [16, 17] from 18 (fun nm dp wx => ∃ y z : Int, nm = .int .i64 y ∧ dp = .int .i64 z ∧ Hid (w = wx))
      case first =>
        rcases hBE.out with ⟨rfl, rfl⟩ | ⟨rfl, rfl⟩
        · go_wp2_with fail
          go_meet
          case rel => exact ⟨_, _, rfl, rfl, Lib.hid rfl⟩
        · go_wp2_with fail
          go_meet
          case rel => exact ⟨_, _, rfl, rfl, Lib.hid rfl⟩
      case rest =>
        obtain ⟨y3, y5, rfl, rfl, hw⟩ := hcut
        have hw' := hw.out
        subst hw'
        clear hw
        rename_i K9 hk9
        apply hk9
        refine wp_seq_k fun K hk => ?_
        exact rd_exp s hs ng hx B M E hBE w K z1 b1 q b2 b3 true z2 y3 y5 hq hp (fun q' b2' z4' c1 c18 c19 c20 c21 c22 c23 c24 c25 c26 c27 c28 c29 c30 c31 c32 c33 c34 c35 c36 c37 c38 c39 c40 c41 c42 c43 c44 c45 c46 c47 c48 c49 c50 c51 c52 c53 c54 c55 c56 c57 c58 c59 c60 c61 c62 c63 c64 c65 c66 c67 c68 c69 c70 c71 c72 c73 c74 c75 c76 c77 c78 c79 c80 c81 c82 c83 c84 c85 c86 c87 c88 c89 c90 c91 c92 c93 c94 c95 c96 c97 c98 c99 c100 c101 c102 c103 c104 c105 c106 c107 c108 c109 c110 c111 c112 c113 c114 c115 c116 c117 c118 c119 c120 c121 c122 c123 c124 c125 c126 c127 c128 c129 c130 c131 c132 c133 c134 c135 c136 c137 c138 c139 c140 c141 c142 c143 c144 c145 c146 c147 c148 c149 c150 c151 c152 c153 c154 c155 c156 c157 c158 c159 c160 c161 c162 c163 c164 c165 c166 c167 c168 c169 c170 c171 c172 c173 c174 c175 c176 c177 c178 c179 c180 c181 c182 c183 c184 c185 c186 c187 c188 c189 c190 c191 c192 c193 c194 c195 c196 c197 c198 c199 c200 c201 c202 c203 c204 c205 c206 c207 c208 c209 c210 c211 c212 c213 c214 c215 c216 c217 c218 c219 c220 c221 c222 c223 c224 c225 c226 c227 c228 c229 c230 c231 c232 c233 c234 c235 c236 c237 c238 c239 c240 c241 c242 c243 c244 c245 c246 c247 c248 c249 c250 c251 c252 hq' hp' => hk _ _ (rd_end s hs ng hx B M E w z1 b1 q' b2' b3 true z2 y3 z4' hq' hz1 hz2 hp' c1 c18 c19 c20 c21 c22 c23 c24 c25 c26 c27 c28 c29 c30 c31 c32 c33 c34 c35 c36 c37 c38 c39 c40 c41 c42 c43 c44 c45 c46 c47 c48 c49 c50 c51 c52 c53 c54 c55 c56 c57 c58 c59 c60 c61 c62 c63 c64 c65 c66 c67 c68 c69 c70 c71 c72 c73 c74 c75 c76 c77 c78 c79 c80 c81 c82 c83 c84 c85 c86 c87 c88 c89 c90 c91 c92 c93 c94 c95 c96 c97 c98 c99 c100 c101 c102 c103 c104 c105 c106 c107 c108 c109 c110 c111 c112 c113 c114 c115 c116 c117 c118 c119 c120 c121 c122 c123 c124 c125 c126 c127 c128 c129 c130 c131 c132 c133 c134 c135 c136 c137 c138 c139 c140 c141 c142 c143 c144 c145 c146 c147 c148 c149 c150 c151 c152 c153 c154 c155 c156 c157 c158 c159 c160 c161 c162 c163 c164 c165 c166 c167 c168 c169 c170 c171 c172 c173 c174 c175 c176 c177 c178 c179 c180 c181 c182 c183 c184 c185 c186 c187 c188 c189 c190 c191 c192 c193 c194 c195 c196 c197 c198 c199 c200 c201 c202 c203 c204 c205 c206 c207 c208 c209 c210 c211 c212 c213 c214 c215 c216 c217 c218 c219 c220 c221 c222 c223 c224 c225 c226 c227 c228 c229 c230 c231 c232 c233 c234 c235 c236 c237 c238 c239 c240 c241 c242 c243 c244 c245 c246 c247 c248 c249 c250 c251 c252)) _ _ _ _ _ _ _ _ _ _ _ _ _ _ _ _ _ _ _ _ _ _ _ _ _ _ _ _ _ _ _ _ _ _ _ _ _ _ _ _ _ _ _ _ _ _ _ _ _ _ _ _ _ _ _ _ _ _ _ _ _ _ _ _ _ _ _ _ _ _ _ _ _ _ _ _ _ _ _ _ _ _ _ _ _ _ _ _ _ _ _ _ _ _ _ _ _ _ _ _ _ _ _ _ _ _ _ _ _ _ _ _ _ _ _ _ _ _ _ _ _ _ _ _ _ _ _ _ _ _ _ _ _ _ _ _ _ _ _ _ _ _ _ _ _ _ _ _ _ _ _ _ _ _ _ _ _ _ _ _ _ _ _ _ _ _ _ _ _ _ _ _ _ _ _ _ _ _ _ _ _ _ _ _ _ _ _ _ _ _ _ _ _ _ _ _ _ _ _ _ _ _ _ _ _ _ _ _ _ _ _ _ _ _ _ _ _ _ _ _ _ _ _ _ _ _ _ _ _ _ _ _ _ _ _ _
end Go.Proofs.YtjaibjdhfljmmaaDoor
