/-
  readFloat's first loop, whatever the text.
-/
import Derived.Test.YtjaibjdhfljmmaaDoorForeign
import Derived.Test.YtjaibjdhfljmmaaDoorUnder
namespace Go.Proofs.YtjaibjdhfljmmaaDoor
open Go.RowKit
set_option maxRecDepth 100000
set_option maxHeartbeats 4000000

def Pre (s : ByteArray) (i : Nat) : Prop := ∀ x ∈ s.data.toList.take i, num x = true

theorem Pre.zero (s : ByteArray) : Pre s 0 := fun x hx => by simp at hx
theorem Pre.next {s : ByteArray} {i : Nat} (h : Pre s i) (hi : i < s.size) (hn : num s[i] = true) : Pre s (i + 1) := by
  intro x hx
  rw [List.take_succ_eq_append_getElem (by rw [← Lib.size_eq]; exact hi)] at hx
  rcases List.mem_append.1 hx with hx | hx
  · exact h x hx
  · simp at hx
    rw [hx]
    exact hn

theorem num_dig (c : UInt8) (h1 : 48 ≤ c.toNat) (h2 : c.toNat ≤ 57) : num c = true := by simp [num, h1, h2]
theorem num_low (c : UInt8) (h : (97 ≤ low c.toNat ∧ low c.toNat ≤ 102) ∨ low c.toNat = 112 ∨ low c.toNat = 120) : num c = true := by
  have key : ∀ n, n < 256 → ((97 ≤ low n ∧ low n ≤ 102) ∨ low n = 112 ∨ low n = 120) → ((48 ≤ n && n ≤ 57) || (97 ≤ n && n ≤ 102) || (65 ≤ n && n ≤ 70) || [105, 73, 110, 78, 111, 79, 112, 80, 116, 84, 120, 88, 121, 89, 46, 43, 45, 95, 32, 9, 10].contains n) = true := by_256 (by decide)
  unfold num
  by_cases h' : (97 ≤ low c.toNat ∧ low c.toNat ≤ 102) ∨ low c.toNat = 112 ∨ low c.toNat = 120
  · exact key c.toNat c.toNat_lt h
  · exact absurd h h'

def Rf (s : ByteArray) (e : Ending) : Prop := ∃ (m ex : Int) (ng tr hx ok : Bool) (i : Nat), e = .returned (.tuple #[.int .u64 m, .int .i64 ex, .bool ng, .bool tr, .bool hx, .int .i64 i, .bool ok]) ∧
  (ok = true → i ≤ s.size ∧ Pre s i ∧ 0 ≤ m ∧ m < 18446744073709551616)

theorem rf_fail {s : ByteArray} {m ex : Int} {ng tr hx : Bool} {i : Nat} : Rf s (.returned (.tuple #[.int .u64 m, .int .i64 ex, .bool ng, .bool tr, .bool hx, .int .i64 i, .bool false])) :=
  ⟨m, ex, ng, tr, hx, false, i, rfl, fun h => by cases h⟩

theorem wrap_bd (x : Int) : 0 ≤ IntKind.u64.wrap x ∧ IntKind.u64.wrap x < 18446744073709551616 := by
  rw [IntKind.wrap_u64]
  omega

/-- Of a sequence what stands behind its first n statements; its first one; what a scope holds. -/
def seqDrop : Nat → Code → Code
  | 0, c => c
  | n + 1, .seq _ b => seqDrop n b
  | _, c => c
def seqHead : Code → Code
  | .seq a _ => a
  | c => c
def scopeOf : Code → Code
  | .scope c => c
  | .seq _ b => scopeOf b
  | c => c
noncomputable def rdStmt (n : Nat) : Code := seqDrop n (scopeOf (Tryd.f48.body.getD .skip))
set_option maxRecDepth 1000000 in
theorem rd_loop (s : ByteArray) (hs : s.size ≤ 1073741824) (ng hx : Bool) (B M E : Int) (hBE : Hid ((B = 10 ∧ E = 101) ∨ (B = 16 ∧ E = 112))) (w : World) (K : Act → World → Prop) (Q' : Exit → Act → World → Prop)
    (j : Nat) (hjs : j ≤ s.size) (hpj : Hid (Pre s j))
    (hK : ∀ (z1 : Int) (b1 : Bool) (q : Nat) (b2 b3 b4 : Bool) (z2 z3 z4 : Int) (c1 c18 c19 c20 c21 c22 c23 c24 c25 c26 c27 c28 c29 c30 c31 c32 c33 c34 c35 c36 c37 c38 c39 c40 c41 c42 c43 c44 c45 c46 c47 c48 c49 c50 c51 c52 c53 c54 c55 c56 c57 c58 c59 c60 c61 c62 c63 c64 c65 c66 c67 c68 c69 c70 c71 c72 c73 c74 c75 c76 c77 c78 c79 c80 c81 c82 c83 c84 c85 c86 c87 c88 c89 c90 c91 c92 c93 c94 c95 c96 c97 c98 c99 c100 c101 c102 c103 c104 c105 c106 c107 c108 c109 c110 c111 c112 c113 c114 c115 c116 c117 c118 c119 c120 c121 c122 c123 c124 c125 c126 c127 c128 c129 c130 c131 c132 c133 c134 c135 c136 c137 c138 c139 c140 c141 c142 c143 c144 c145 c146 c147 c148 c149 c150 c151 c152 c153 c154 c155 c156 c157 c158 c159 c160 c161 c162 c163 c164 c165 c166 c167 c168 c169 c170 c171 c172 c173 c174 c175 c176 c177 c178 c179 c180 c181 c182 c183 c184 c185 c186 c187 c188 c189 c190 c191 c192 c193 c194 c195 c196 c197 c198 c199 c200 c201 c202 c203 c204 c205 c206 c207 c208 c209 c210 c211 c212 c213 c214 c215 c216 c217 c218 c219 c220 c221 c222 c223 c224 c225 c226 c227 c228 c229 c230 c231 c232 c233 c234 c235 c236 c237 c238 c239 c240 c241 c242 c243 c244 c245 c246 c247 c248 c249 c250 c251 c252 : Value), q ≤ s.size → 0 ≤ z1 → z1 < 18446744073709551616 → Hid (Pre s q) →  K ⟨(List.toArray ((Value.string s) :: c1 :: (Value.int .u64 z1) :: (Value.int .i64 0) :: (Value.bool ng) :: (Value.bool b1) :: (Value.bool hx) :: (Value.int .i64 (q : Nat)) :: (Value.bool false) :: (Value.bool b2) :: (Value.int .u64 B) :: (Value.int .i64 M) :: (Value.int .u8 E) :: (Value.bool b3) :: (Value.bool b4) :: (Value.int .i64 z2) :: (Value.int .i64 z3) :: (Value.int .i64 z4) :: c18 :: c19 :: c20 :: c21 :: c22 :: c23 :: c24 :: c25 :: c26 :: c27 :: c28 :: c29 :: c30 :: c31 :: c32 :: c33 :: c34 :: c35 :: c36 :: c37 :: c38 :: c39 :: c40 :: c41 :: c42 :: c43 :: c44 :: c45 :: c46 :: c47 :: c48 :: c49 :: c50 :: c51 :: c52 :: c53 :: c54 :: c55 :: c56 :: c57 :: c58 :: c59 :: c60 :: c61 :: c62 :: c63 :: c64 :: c65 :: c66 :: c67 :: c68 :: c69 :: c70 :: c71 :: c72 :: c73 :: c74 :: c75 :: c76 :: c77 :: c78 :: c79 :: c80 :: c81 :: c82 :: c83 :: c84 :: c85 :: c86 :: c87 :: c88 :: c89 :: c90 :: c91 :: c92 :: c93 :: c94 :: c95 :: c96 :: c97 :: c98 :: c99 :: c100 :: c101 :: c102 :: c103 :: c104 :: c105 :: c106 :: c107 :: c108 :: c109 :: c110 :: c111 :: c112 :: c113 :: c114 :: c115 :: c116 :: c117 :: c118 :: c119 :: c120 :: c121 :: c122 :: c123 :: c124 :: c125 :: c126 :: c127 :: c128 :: c129 :: c130 :: c131 :: c132 :: c133 :: c134 :: c135 :: c136 :: c137 :: c138 :: c139 :: c140 :: c141 :: c142 :: c143 :: c144 :: c145 :: c146 :: c147 :: c148 :: c149 :: c150 :: c151 :: c152 :: c153 :: c154 :: c155 :: c156 :: c157 :: c158 :: c159 :: c160 :: c161 :: c162 :: c163 :: c164 :: c165 :: c166 :: c167 :: c168 :: c169 :: c170 :: c171 :: c172 :: c173 :: c174 :: c175 :: c176 :: c177 :: c178 :: c179 :: c180 :: c181 :: c182 :: c183 :: c184 :: c185 :: c186 :: c187 :: c188 :: c189 :: c190 :: c191 :: c192 :: c193 :: c194 :: c195 :: c196 :: c197 :: c198 :: c199 :: c200 :: c201 :: c202 :: c203 :: c204 :: c205 :: c206 :: c207 :: c208 :: c209 :: c210 :: c211 :: c212 :: c213 :: c214 :: c215 :: c216 :: c217 :: c218 :: c219 :: c220 :: c221 :: c222 :: c223 :: c224 :: c225 :: c226 :: c227 :: c228 :: c229 :: c230 :: c231 :: c232 :: c233 :: c234 :: c235 :: c236 :: c237 :: c238 :: c239 :: c240 :: c241 :: c242 :: c243 :: c244 :: c245 :: c246 :: c247 :: c248 :: c249 :: c250 :: c251 :: c252 :: [])), []⟩ w)
    (c1 c18 c19 c20 c21 c22 c23 c24 c25 c26 c27 c28 c29 c30 c31 c32 c33 c34 c35 c36 c37 c38 c39 c40 c41 c42 c43 c44 c45 c46 c47 c48 c49 c50 c51 c52 c53 c54 c55 c56 c57 c58 c59 c60 c61 c62 c63 c64 c65 c66 c67 c68 c69 c70 c71 c72 c73 c74 c75 c76 c77 c78 c79 c80 c81 c82 c83 c84 c85 c86 c87 c88 c89 c90 c91 c92 c93 c94 c95 c96 c97 c98 c99 c100 c101 c102 c103 c104 c105 c106 c107 c108 c109 c110 c111 c112 c113 c114 c115 c116 c117 c118 c119 c120 c121 c122 c123 c124 c125 c126 c127 c128 c129 c130 c131 c132 c133 c134 c135 c136 c137 c138 c139 c140 c141 c142 c143 c144 c145 c146 c147 c148 c149 c150 c151 c152 c153 c154 c155 c156 c157 c158 c159 c160 c161 c162 c163 c164 c165 c166 c167 c168 c169 c170 c171 c172 c173 c174 c175 c176 c177 c178 c179 c180 c181 c182 c183 c184 c185 c186 c187 c188 c189 c190 c191 c192 c193 c194 c195 c196 c197 c198 c199 c200 c201 c202 c203 c204 c205 c206 c207 c208 c209 c210 c211 c212 c213 c214 c215 c216 c217 c218 c219 c220 c221 c222 c223 c224 c225 c226 c227 c228 c229 c230 c231 c232 c233 c234 c235 c236 c237 c238 c239 c240 c241 c242 c243 c244 c245 c246 c247 c248 c249 c250 c251 c252 : Value) :
    Code.wp Tryd.prog (seqHead (rdStmt 13)) (Exit.then K Q') ⟨(List.toArray ((Value.string s) :: c1 :: (Value.int .u64 0) :: (Value.int .i64 0) :: (Value.bool ng) :: (Value.bool false) :: (Value.bool hx) :: (Value.int .i64 (j : Nat)) :: (Value.bool false) :: (Value.bool false) :: (Value.int .u64 B) :: (Value.int .i64 M) :: (Value.int .u8 E) :: (Value.bool false) :: (Value.bool false) :: (Value.int .i64 0) :: (Value.int .i64 0) :: (Value.int .i64 0) :: c18 :: c19 :: c20 :: c21 :: c22 :: c23 :: c24 :: c25 :: c26 :: c27 :: c28 :: c29 :: c30 :: c31 :: c32 :: c33 :: c34 :: c35 :: c36 :: c37 :: c38 :: c39 :: c40 :: c41 :: c42 :: c43 :: c44 :: c45 :: c46 :: c47 :: c48 :: c49 :: c50 :: c51 :: c52 :: c53 :: c54 :: c55 :: c56 :: c57 :: c58 :: c59 :: c60 :: c61 :: c62 :: c63 :: c64 :: c65 :: c66 :: c67 :: c68 :: c69 :: c70 :: c71 :: c72 :: c73 :: c74 :: c75 :: c76 :: c77 :: c78 :: c79 :: c80 :: c81 :: c82 :: c83 :: c84 :: c85 :: c86 :: c87 :: c88 :: c89 :: c90 :: c91 :: c92 :: c93 :: c94 :: c95 :: c96 :: c97 :: c98 :: c99 :: c100 :: c101 :: c102 :: c103 :: c104 :: c105 :: c106 :: c107 :: c108 :: c109 :: c110 :: c111 :: c112 :: c113 :: c114 :: c115 :: c116 :: c117 :: c118 :: c119 :: c120 :: c121 :: c122 :: c123 :: c124 :: c125 :: c126 :: c127 :: c128 :: c129 :: c130 :: c131 :: c132 :: c133 :: c134 :: c135 :: c136 :: c137 :: c138 :: c139 :: c140 :: c141 :: c142 :: c143 :: c144 :: c145 :: c146 :: c147 :: c148 :: c149 :: c150 :: c151 :: c152 :: c153 :: c154 :: c155 :: c156 :: c157 :: c158 :: c159 :: c160 :: c161 :: c162 :: c163 :: c164 :: c165 :: c166 :: c167 :: c168 :: c169 :: c170 :: c171 :: c172 :: c173 :: c174 :: c175 :: c176 :: c177 :: c178 :: c179 :: c180 :: c181 :: c182 :: c183 :: c184 :: c185 :: c186 :: c187 :: c188 :: c189 :: c190 :: c191 :: c192 :: c193 :: c194 :: c195 :: c196 :: c197 :: c198 :: c199 :: c200 :: c201 :: c202 :: c203 :: c204 :: c205 :: c206 :: c207 :: c208 :: c209 :: c210 :: c211 :: c212 :: c213 :: c214 :: c215 :: c216 :: c217 :: c218 :: c219 :: c220 :: c221 :: c222 :: c223 :: c224 :: c225 :: c226 :: c227 :: c228 :: c229 :: c230 :: c231 :: c232 :: c233 :: c234 :: c235 :: c236 :: c237 :: c238 :: c239 :: c240 :: c241 :: c242 :: c243 :: c244 :: c245 :: c246 :: c247 :: c248 :: c249 :: c250 :: c251 :: c252 :: [])), []⟩ w := by
  conv => arg 2; whnf
  have hK' := Lib.hid hK
  clear hK
  go_cut [2, 5, 7, 9, 13, 14, 15, 16, 17] from 18 (fun m t i us dot sd nd nm dp wx => ∃ (z1 : Int) (b1 : Bool) (q : Nat) (b2 b3 b4 : Bool) (z2 z3 z4 : Int), m = .int .u64 z1 ∧ t = .bool b1 ∧ i = .int .i64 q ∧ us = .bool b2 ∧ dot = .bool b3 ∧ sd = .bool b4 ∧ nd = .int .i64 z2 ∧ nm = .int .i64 z3 ∧ dp = .int .i64 z4 ∧ q ≤ s.size ∧ 0 ≤ z1 ∧ z1 < 18446744073709551616 ∧ Hid (w = wx) ∧ Hid (Pre s q))
  case first =>
    go_wp2_with fail
    go_loop [2, 5, 7, 9, 13, 14, 15, 16, 17] (fun m t i us dot sd nd nm dp => ∃ (z1 : Int) (b1 : Bool) (q : Nat) (b2 b3 b4 : Bool) (z2 z3 z4 : Int), m = .int .u64 z1 ∧ t = .bool b1 ∧ i = .int .i64 q ∧ us = .bool b2 ∧ dot = .bool b3 ∧ sd = .bool b4 ∧ nd = .int .i64 z2 ∧ nm = .int .i64 z3 ∧ dp = .int .i64 z4 ∧ q ≤ s.size ∧ 0 ≤ z1 ∧ z1 < 18446744073709551616 ∧ Hid (Pre s q)) (fun _ _ i _ _ _ _ _ _ => s.size - (intOf i).toNat)
    case atStart => exact ⟨0, false, j, false, false, false, 0, 0, 0, rfl, rfl, rfl, rfl, rfl, rfl, rfl, rfl, rfl, hjs, by omega, by omega, hpj⟩
    case round =>
      obtain ⟨z1, b1, q, b2, b3, b4, z2, z3, z4, rfl, rfl, rfl, rfl, rfl, rfl, rfl, rfl, rfl, hq, hz1, hz2, hp⟩ := hrel
      by_cases hlt : q < s.size
      · obtain ⟨c, hc⟩ : ∃ c, s[q] = c := ⟨_, rfl⟩
        have hc256 : c.toNat < 256 := c.toNat_lt
        have hnx : Hid (num c = true → Pre s (q + 1)) := Lib.hid (fun hn => hp.out.next hlt (by rw [hc]; exact hn))
        by_cases h95 : c = 95
        · have e1 : ((c.toNat : Int) == 95) = true := by rw [h95]; rfl
          have hn := Lib.hid (hnx.out (by rw [h95]; rfl))
          clear h95 hnx
          go_wp2_with fail
          go_round
          case rel => exact ⟨_, _, q + 1, _, _, _, _, _, _, rfl, rfl, by go_num, rfl, rfl, rfl, rfl, rfl, rfl, by omega, by first | exact (wrap_bd _).1 | omega, by first | exact (wrap_bd _).2 | omega, hn⟩
          case measure => simp [intOf]; omega
        have e1 := beq_no c 95 h95
        change (_ == (95 : Int)) = _ at e1
        clear h95
        by_cases h46 : c = 46
        · have e2 : ((c.toNat : Int) == 46) = true := by rw [h46]; rfl
          have hn := Lib.hid (hnx.out (by rw [h46]; rfl))
          clear h46 hnx
          cases b3 with
          | false =>
            go_wp2_with fail
            go_round
            case rel => exact ⟨_, _, q + 1, _, _, _, _, _, _, rfl, rfl, by go_num, rfl, rfl, rfl, rfl, rfl, rfl, by omega, by first | exact (wrap_bd _).1 | omega, by first | exact (wrap_bd _).2 | omega, hn⟩
            case measure => simp [intOf]; omega
          | true =>
            go_wp2_with fail
            go_meet
            case rel => exact ⟨z1, b1, q, b2, true, b4, z2, z3, z4, rfl, rfl, rfl, rfl, rfl, rfl, rfl, rfl, rfl, hq, hz1, hz2, Lib.hid rfl, hp⟩
        have e2 := beq_no c 46 h46
        change (_ == (46 : Int)) = _ at e2
        clear h46
        by_cases hdig : 48 ≤ c.toNat ∧ c.toNat ≤ 57
        · have f1 : (48 : Int) ≤ (c.toNat : Int) := by omega
          have f2 : (c.toNat : Int) ≤ 57 := by omega
          have hn := Lib.hid (hnx.out (num_dig c hdig.1 hdig.2))
          clear hdig hnx
          by_cases h48 : c = 48
          · have e3 : ((c.toNat : Int) == 48) = true := by rw [h48]; rfl
            have e4 : ((c.toNat : Int) != 48) = false := by rw [h48]; rfl
            clear h48
            by_cases hnd : z2 = 0
            · subst hnd
              go_wp2_with fail
              go_round
              case rel => exact ⟨_, _, q + 1, _, _, _, _, _, _, rfl, rfl, by go_num, rfl, rfl, rfl, rfl, rfl, rfl, by omega, by first | exact (wrap_bd _).1 | omega, by first | exact (wrap_bd _).2 | omega, hn⟩
              case measure => simp [intOf]; omega
            · have e5 : (z2 == 0) = false := by simpa using hnd
              clear hnd
              by_cases hM : z3 < M
              · go_wp2_with fail
                go_round
                case rel => exact ⟨_, _, q + 1, _, _, _, _, _, _, rfl, rfl, by go_num, rfl, rfl, rfl, rfl, rfl, rfl, by omega, by first | exact (wrap_bd _).1 | omega, by first | exact (wrap_bd _).2 | omega, hn⟩
                case measure => simp [intOf]; omega
              · go_wp2_with fail
                go_round
                case rel => exact ⟨_, _, q + 1, _, _, _, _, _, _, rfl, rfl, by go_num, rfl, rfl, rfl, rfl, rfl, rfl, by omega, by first | exact (wrap_bd _).1 | omega, by first | exact (wrap_bd _).2 | omega, hn⟩
                case measure => simp [intOf]; omega
          · have e3 := beq_no c 48 h48
            change (_ == (48 : Int)) = _ at e3
            have e4 : ((c.toNat : Int) != 48) = true := by simp only [bne, e3]; rfl
            clear h48
            by_cases hM : z3 < M
            · go_wp2_with fail
              go_round
              case rel => exact ⟨_, _, q + 1, _, _, _, _, _, _, rfl, rfl, by go_num, rfl, rfl, rfl, rfl, rfl, rfl, by omega, by first | exact (wrap_bd _).1 | omega, by first | exact (wrap_bd _).2 | omega, hn⟩
              case measure => simp [intOf]; omega
            · go_wp2_with fail
              go_round
              case rel => exact ⟨_, _, q + 1, _, _, _, _, _, _, rfl, rfl, by go_num, rfl, rfl, rfl, rfl, rfl, rfl, by omega, by first | exact (wrap_bd _).1 | omega, by first | exact (wrap_bd _).2 | omega, hn⟩
              case measure => simp [intOf]; omega
        have hdg : Hid (¬ (48 ≤ c.toNat ∧ c.toNat ≤ 57)) := Lib.hid hdig
        obtain ⟨L, hL⟩ : ∃ L, low c.toNat = L := ⟨_, rfl⟩
        have HL := Lib.hid (fun W : World => lower_low c W)
        rw [hL] at HL
        have hL256 : L < 256 := by rw [← hL]; exact low_lt c
        have hnl : Hid (97 ≤ L ∧ L ≤ 102 → Pre s (q + 1)) := Lib.hid (fun h => hnx.out (num_low c (Or.inl (by rw [hL]; exact h))))
        clear hL hnx hdig
        rcases hBE.out with ⟨rfl, rfl⟩ | ⟨rfl, rfl⟩
        · by_cases hlo : 48 ≤ c.toNat
          · have f1 : (48 : Int) ≤ (c.toNat : Int) := by omega
            have f2 : ¬ (c.toNat : Int) ≤ 57 := by have := hdg.out; omega
            clear hlo
            go_wp2_with fail
            go_meet
            case rel => exact ⟨z1, b1, q, b2, b3, b4, z2, z3, z4, rfl, rfl, rfl, rfl, rfl, rfl, rfl, rfl, rfl, hq, hz1, hz2, Lib.hid rfl, hp⟩
          · have f1 : ¬ (48 : Int) ≤ (c.toNat : Int) := by omega
            clear hlo
            go_wp2_with fail
            go_meet
            case rel => exact ⟨z1, b1, q, b2, b3, b4, z2, z3, z4, rfl, rfl, rfl, rfl, rfl, rfl, rfl, rfl, rfl, hq, hz1, hz2, Lib.hid rfl, hp⟩
        · by_cases hlo : 48 ≤ c.toNat
          · have f1 : (48 : Int) ≤ (c.toNat : Int) := by omega
            have f2 : ¬ (c.toNat : Int) ≤ 57 := by have := hdg.out; omega
            clear hlo
            by_cases h97 : 97 ≤ L
            · have g1 : (97 : Int) ≤ (L : Int) := by omega
              by_cases h102 : L ≤ 102
              · have g2 : (L : Int) ≤ 102 := by omega
                have hn := Lib.hid (hnl.out ⟨h97, h102⟩)
                clear h97 h102 hnl
                by_cases hM : z3 < M
                · go_wp2_with (go_at_call 39; refine (HL.out _).mono ?_; rintro e w' ⟨rfl, rfl⟩)
                  go_round
                  case rel => exact ⟨_, _, q + 1, _, _, _, _, _, _, rfl, rfl, by go_num, rfl, rfl, rfl, rfl, rfl, rfl, by omega, by first | exact (wrap_bd _).1 | omega, by first | exact (wrap_bd _).2 | omega, hn⟩
                  case measure => simp [intOf]; omega
                · go_wp2_with (go_at_call 39; refine (HL.out _).mono ?_; rintro e w' ⟨rfl, rfl⟩)
                  go_round
                  case rel => exact ⟨_, _, q + 1, _, _, _, _, _, _, rfl, rfl, by go_num, rfl, rfl, rfl, rfl, rfl, rfl, by omega, by first | exact (wrap_bd _).1 | omega, by first | exact (wrap_bd _).2 | omega, hn⟩
                  case measure => simp [intOf]; omega
              · have g2 : ¬ (L : Int) ≤ 102 := by omega
                clear h97 h102 hnl
                go_wp2_with (go_at_call 39; refine (HL.out _).mono ?_; rintro e w' ⟨rfl, rfl⟩)
                go_meet
                case rel => exact ⟨z1, b1, q, b2, b3, b4, z2, z3, z4, rfl, rfl, rfl, rfl, rfl, rfl, rfl, rfl, rfl, hq, hz1, hz2, Lib.hid rfl, hp⟩
            · have g1 : ¬ (97 : Int) ≤ (L : Int) := by omega
              clear h97 hnl
              go_wp2_with (go_at_call 39; refine (HL.out _).mono ?_; rintro e w' ⟨rfl, rfl⟩)
              go_meet
              case rel => exact ⟨z1, b1, q, b2, b3, b4, z2, z3, z4, rfl, rfl, rfl, rfl, rfl, rfl, rfl, rfl, rfl, hq, hz1, hz2, Lib.hid rfl, hp⟩
          · have f1 : ¬ (48 : Int) ≤ (c.toNat : Int) := by omega
            clear hlo
            by_cases h97 : 97 ≤ L
            · have g1 : (97 : Int) ≤ (L : Int) := by omega
              by_cases h102 : L ≤ 102
              · have g2 : (L : Int) ≤ 102 := by omega
                have hn := Lib.hid (hnl.out ⟨h97, h102⟩)
                clear h97 h102 hnl
                by_cases hM : z3 < M
                · go_wp2_with (go_at_call 39; refine (HL.out _).mono ?_; rintro e w' ⟨rfl, rfl⟩)
                  go_round
                  case rel => exact ⟨_, _, q + 1, _, _, _, _, _, _, rfl, rfl, by go_num, rfl, rfl, rfl, rfl, rfl, rfl, by omega, by first | exact (wrap_bd _).1 | omega, by first | exact (wrap_bd _).2 | omega, hn⟩
                  case measure => simp [intOf]; omega
                · go_wp2_with (go_at_call 39; refine (HL.out _).mono ?_; rintro e w' ⟨rfl, rfl⟩)
                  go_round
                  case rel => exact ⟨_, _, q + 1, _, _, _, _, _, _, rfl, rfl, by go_num, rfl, rfl, rfl, rfl, rfl, rfl, by omega, by first | exact (wrap_bd _).1 | omega, by first | exact (wrap_bd _).2 | omega, hn⟩
                  case measure => simp [intOf]; omega
              · have g2 : ¬ (L : Int) ≤ 102 := by omega
                clear h97 h102 hnl
                go_wp2_with (go_at_call 39; refine (HL.out _).mono ?_; rintro e w' ⟨rfl, rfl⟩)
                go_meet
                case rel => exact ⟨z1, b1, q, b2, b3, b4, z2, z3, z4, rfl, rfl, rfl, rfl, rfl, rfl, rfl, rfl, rfl, hq, hz1, hz2, Lib.hid rfl, hp⟩
            · have g1 : ¬ (97 : Int) ≤ (L : Int) := by omega
              clear h97 hnl
              go_wp2_with (go_at_call 39; refine (HL.out _).mono ?_; rintro e w' ⟨rfl, rfl⟩)
              go_meet
              case rel => exact ⟨z1, b1, q, b2, b3, b4, z2, z3, z4, rfl, rfl, rfl, rfl, rfl, rfl, rfl, rfl, rfl, hq, hz1, hz2, Lib.hid rfl, hp⟩
      · obtain rfl : q = s.size := by omega
        go_wp2_with fail
        go_meet
        case rel => exact ⟨z1, b1, _, b2, b3, b4, z2, z3, z4, rfl, rfl, rfl, rfl, rfl, rfl, rfl, rfl, rfl, hq, hz1, hz2, Lib.hid rfl, hp⟩
  case rest =>
    obtain ⟨z1, b1, q, b2, b3, b4, z2, z3, z4, rfl, rfl, rfl, rfl, rfl, rfl, rfl, rfl, rfl, hq, hz1, hz2, hw, hp⟩ := hcut
    have hw' := hw.out
    subst hw'
    exact hK'.out z1 b1 q b2 b3 b4 z2 z3 z4 _ _ _ _ _ _ _ _ _ _ _ _ _ _ _ _ _ _ _ _ _ _ _ _ _ _ _ _ _ _ _ _ _ _ _ _ _ _ _ _ _ _ _ _ _ _ _ _ _ _ _ _ _ _ _ _ _ _ _ _ _ _ _ _ _ _ _ _ _ _ _ _ _ _ _ _ _ _ _ _ _ _ _ _ _ _ _ _ _ _ _ _ _ _ _ _ _ _ _ _ _ _ _ _ _ _ _ _ _ _ _ _ _ _ _ _ _ _ _ _ _ _ _ _ _ _ _ _ _ _ _ _ _ _ _ _ _ _ _ _ _ _ _ _ _ _ _ _ _ _ _ _ _ _ _ _ _ _ _ _ _ _ _ _ _ _ _ _ _ _ _ _ _ _ _ _ _ _ _ _ _ _ _ _ _ _ _ _ _ _ _ _ _ _ _ _ _ _ _ _ _ _ _ _ _ _ _ _ _ _ _ _ _ _ _ _ _ _ _ _ _ _ _ _ _ _ _ _ _ _ _ _ _ _ _ _ hq hz1 hz2 hp
end Go.Proofs.YtjaibjdhfljmmaaDoor
