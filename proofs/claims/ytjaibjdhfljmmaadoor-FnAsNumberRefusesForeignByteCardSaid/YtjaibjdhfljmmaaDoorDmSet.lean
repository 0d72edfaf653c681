/-
  set: its loop over the digits.
  set: it answers a bool and leaves a decimal.
-/
import Derived.Test.YtjaibjdhfljmmaaDoorDmSetA
namespace Go.Proofs.YtjaibjdhfljmmaaDoor
open Go.RowKit
set_option maxRecDepth 1000000
set_option maxHeartbeats 4000000

theorem dset_mid (B : Nat) (s : ByteArray) (hs : s.size ≤ 1073741824) (w wr : World) (hO : SetOk B wr) (hB : Below B w wr) (q : Nat) (hq : q ≤ s.size) (b1 b2 : Bool) (c2 c3 c8 c9 c10 c11 c12 c13 c14 c15 c16 c17 c18 c19 c20 c21 c22 c23 c24 c25 c26 c27 c28 c29 c30 c31 c32 c33 c34 c35 c36 c37 c38 c39 c40 c41 c42 c43 c44 c45 c46 c47 c48 c49 c50 c51 c52 c53 c54 c55 c56 c57 c58 c59 c60 c61 c62 c63 c64 c65 c66 c67 c68 c69 c70 c71 c72 c73 c74 c75 c76 c77 c78 c79 c80 c81 c82 c83 c84 c85 c86 c87 c88 c89 c90 c91 c92 c93 c94 c95 c96 c97 c98 c99 c100 c101 c102 c103 c104 c105 c106 c107 c108 c109 c110 c111 c112 c113 c114 c115 c116 c117 c118 c119 c120 c121 c122 c123 c124 c125 c126 c127 c128 c129 c130 c131 c132 c133 c134 c135 c136 c137 c138 c139 c140 c141 c142 c143 c144 c145 c146 c147 c148 c149 c150 c151 c152 c153 c154 c155 c156 c157 c158 c159 c160 c161 c162 c163 c164 c165 c166 c167 c168 c169 c170 c171 c172 c173 c174 c175 c176 c177 c178 c179 c180 c181 c182 c183 c184 c185 c186 c187 c188 c189 c190 c191 c192 c193 c194 c195 c196 c197 c198 c199 c200 c201 c202 c203 c204 c205 c206 c207 c208 c209 c210 c211 c212 c213 c214 c215 c216 c217 c218 c219 c220 c221 c222 c223 : Value) :
    Code.wp Tryd.prog (stStmt 9) (bodyPost Tryd.prog Tryd.f54 fun e w' => SetR B w e w') ⟨(List.toArray ((Value.pointer (some ⟨B, 0, none⟩)) :: (Value.string s) :: c2 :: c3 :: (Value.bool false) :: (Value.int .i64 (q : Nat)) :: (Value.bool b1) :: (Value.bool b2) :: c8 :: c9 :: c10 :: c11 :: c12 :: c13 :: c14 :: c15 :: c16 :: c17 :: c18 :: c19 :: c20 :: c21 :: c22 :: c23 :: c24 :: c25 :: c26 :: c27 :: c28 :: c29 :: c30 :: c31 :: c32 :: c33 :: c34 :: c35 :: c36 :: c37 :: c38 :: c39 :: c40 :: c41 :: c42 :: c43 :: c44 :: c45 :: c46 :: c47 :: c48 :: c49 :: c50 :: c51 :: c52 :: c53 :: c54 :: c55 :: c56 :: c57 :: c58 :: c59 :: c60 :: c61 :: c62 :: c63 :: c64 :: c65 :: c66 :: c67 :: c68 :: c69 :: c70 :: c71 :: c72 :: c73 :: c74 :: c75 :: c76 :: c77 :: c78 :: c79 :: c80 :: c81 :: c82 :: c83 :: c84 :: c85 :: c86 :: c87 :: c88 :: c89 :: c90 :: c91 :: c92 :: c93 :: c94 :: c95 :: c96 :: c97 :: c98 :: c99 :: c100 :: c101 :: c102 :: c103 :: c104 :: c105 :: c106 :: c107 :: c108 :: c109 :: c110 :: c111 :: c112 :: c113 :: c114 :: c115 :: c116 :: c117 :: c118 :: c119 :: c120 :: c121 :: c122 :: c123 :: c124 :: c125 :: c126 :: c127 :: c128 :: c129 :: c130 :: c131 :: c132 :: c133 :: c134 :: c135 :: c136 :: c137 :: c138 :: c139 :: c140 :: c141 :: c142 :: c143 :: c144 :: c145 :: c146 :: c147 :: c148 :: c149 :: c150 :: c151 :: c152 :: c153 :: c154 :: c155 :: c156 :: c157 :: c158 :: c159 :: c160 :: c161 :: c162 :: c163 :: c164 :: c165 :: c166 :: c167 :: c168 :: c169 :: c170 :: c171 :: c172 :: c173 :: c174 :: c175 :: c176 :: c177 :: c178 :: c179 :: c180 :: c181 :: c182 :: c183 :: c184 :: c185 :: c186 :: c187 :: c188 :: c189 :: c190 :: c191 :: c192 :: c193 :: c194 :: c195 :: c196 :: c197 :: c198 :: c199 :: c200 :: c201 :: c202 :: c203 :: c204 :: c205 :: c206 :: c207 :: c208 :: c209 :: c210 :: c211 :: c212 :: c213 :: c214 :: c215 :: c216 :: c217 :: c218 :: c219 :: c220 :: c221 :: c222 :: c223 :: [])), []⟩ wr := by
  have hOh := Lib.hid hO
  have hBh := Lib.hid hB
  obtain ⟨nd, dp, d, hD, hL⟩ := hO
  have c1 := hD.cnd
  have c2 := hD.cdp
  have hf := hD.free 801
  have hDp := Lib.hid (fun z => show SetOk B (wr.setCell ⟨B, 801, none⟩ (.int .i64 z)) from ⟨nd, z, d, hD.setDp z, hL⟩)
  clear hD hL hB
  conv => arg 2; whnf
  cases b2
  · go_wp2_with fail
    go_ret
    exact ⟨⟨_, rfl⟩, hOh.out, hBh.out⟩
  · go_upto_if 120 with fail
    go_cut [5] from 8 (fun i wx => i = .int .i64 q ∧ Hid (SetOk B wx) ∧ Hid (Below B w wx))
    case first =>
      cases b1
      all_goals
        go_wp2_with fail
        go_meet
        case rel => first | exact ⟨rfl, hOh, hBh⟩ | exact ⟨rfl, Lib.hid (hDp.out _), Lib.hid (hBh.out.setCell (Nat.le_refl _) _)⟩
    case rest =>
      obtain ⟨rfl, hO, hB⟩ := hcut
      rename_i K9 hk9
      apply hk9
      exact dset_exp B s hs w _ hO.out hB.out q hq _ _ _ _ _ _ _ _ _ _ _ _ _ _ _ _ _ _ _ _ _ _ _ _ _ _ _ _ _ _ _ _ _ _ _ _ _ _ _ _ _ _ _ _ _ _ _ _ _ _ _ _ _ _ _ _ _ _ _ _ _ _ _ _ _ _ _ _ _ _ _ _ _ _ _ _ _ _ _ _ _ _ _ _ _ _ _ _ _ _ _ _ _ _ _ _ _ _ _ _ _ _ _ _ _ _ _ _ _ _ _ _ _ _ _ _ _ _ _ _ _ _ _ _ _ _ _ _ _ _ _ _ _ _ _ _ _ _ _ _ _ _ _ _ _ _ _ _ _ _ _ _ _ _ _ _ _ _ _ _ _ _ _ _ _ _ _ _ _ _ _ _ _ _ _ _ _ _ _ _ _ _ _ _ _ _ _ _ _ _ _ _ _ _ _ _ _ _ _ _ _ _ _ _ _ _ _ _ _ _ _ _ _ _ _ _ _ _ _ _

theorem SetOk.tr {B : Nat} {w : World} (h : SetOk B w) (n : Nat) : SetOk B (w.drewN n) := by
  obtain ⟨nd, dp, d, hD, hL⟩ := h
  exact ⟨nd, dp, d, hD.drewN n, hL⟩

theorem Dm.drew {w : World} {B nd : Nat} {dp : Int} {d : Nat → Int} (h : Dm w B nd dp d) : Dm w.drew B nd dp d := ⟨h.blk, h.dig, h.cnd, h.cdp, h.cng, h.ctr, h.le⟩

/-- A digit more. -/
theorem Lead.more {d : Nat → Int} {nd : Nat} {c : Int} (h : 0 < nd → Lead d nd) (h1 : 48 ≤ c ∧ c ≤ 57) (h2 : nd = 0 → 49 ≤ c) : Lead (fun j => if j = nd then c else d j) (nd + 1) := by
  refine ⟨fun j hj => ?_, ?_⟩
  · by_cases e : j = nd
    · simp only [if_pos e]; exact h1
    · simp only [if_neg e]; exact (h (by omega)).1 j (by omega)
  · by_cases e : 0 = nd
    · simp only [if_pos e]; exact h2 e.symm
    · simp only [if_neg e]; exact (h (by omega)).2

theorem dset_loop (B : Nat) (s : ByteArray) (hs : s.size ≤ 1073741824) (w w0 : World) (hO : SetOk B w0) (hB : Below B w w0) (q : Nat) (hq : q ≤ s.size) (c2 c3 c6 c7 c8 c9 c10 c11 c12 c13 c14 c15 c16 c17 c18 c19 c20 c21 c22 c23 c24 c25 c26 c27 c28 c29 c30 c31 c32 c33 c34 c35 c36 c37 c38 c39 c40 c41 c42 c43 c44 c45 c46 c47 c48 c49 c50 c51 c52 c53 c54 c55 c56 c57 c58 c59 c60 c61 c62 c63 c64 c65 c66 c67 c68 c69 c70 c71 c72 c73 c74 c75 c76 c77 c78 c79 c80 c81 c82 c83 c84 c85 c86 c87 c88 c89 c90 c91 c92 c93 c94 c95 c96 c97 c98 c99 c100 c101 c102 c103 c104 c105 c106 c107 c108 c109 c110 c111 c112 c113 c114 c115 c116 c117 c118 c119 c120 c121 c122 c123 c124 c125 c126 c127 c128 c129 c130 c131 c132 c133 c134 c135 c136 c137 c138 c139 c140 c141 c142 c143 c144 c145 c146 c147 c148 c149 c150 c151 c152 c153 c154 c155 c156 c157 c158 c159 c160 c161 c162 c163 c164 c165 c166 c167 c168 c169 c170 c171 c172 c173 c174 c175 c176 c177 c178 c179 c180 c181 c182 c183 c184 c185 c186 c187 c188 c189 c190 c191 c192 c193 c194 c195 c196 c197 c198 c199 c200 c201 c202 c203 c204 c205 c206 c207 c208 c209 c210 c211 c212 c213 c214 c215 c216 c217 c218 c219 c220 c221 c222 c223 : Value) :
    Code.wp Tryd.prog (stStmt 6) (bodyPost Tryd.prog Tryd.f54 fun e w' => SetR B w e w') ⟨(List.toArray ((Value.pointer (some ⟨B, 0, none⟩)) :: (Value.string s) :: c2 :: c3 :: (Value.bool false) :: (Value.int .i64 (q : Nat)) :: c6 :: c7 :: c8 :: c9 :: c10 :: c11 :: c12 :: c13 :: c14 :: c15 :: c16 :: c17 :: c18 :: c19 :: c20 :: c21 :: c22 :: c23 :: c24 :: c25 :: c26 :: c27 :: c28 :: c29 :: c30 :: c31 :: c32 :: c33 :: c34 :: c35 :: c36 :: c37 :: c38 :: c39 :: c40 :: c41 :: c42 :: c43 :: c44 :: c45 :: c46 :: c47 :: c48 :: c49 :: c50 :: c51 :: c52 :: c53 :: c54 :: c55 :: c56 :: c57 :: c58 :: c59 :: c60 :: c61 :: c62 :: c63 :: c64 :: c65 :: c66 :: c67 :: c68 :: c69 :: c70 :: c71 :: c72 :: c73 :: c74 :: c75 :: c76 :: c77 :: c78 :: c79 :: c80 :: c81 :: c82 :: c83 :: c84 :: c85 :: c86 :: c87 :: c88 :: c89 :: c90 :: c91 :: c92 :: c93 :: c94 :: c95 :: c96 :: c97 :: c98 :: c99 :: c100 :: c101 :: c102 :: c103 :: c104 :: c105 :: c106 :: c107 :: c108 :: c109 :: c110 :: c111 :: c112 :: c113 :: c114 :: c115 :: c116 :: c117 :: c118 :: c119 :: c120 :: c121 :: c122 :: c123 :: c124 :: c125 :: c126 :: c127 :: c128 :: c129 :: c130 :: c131 :: c132 :: c133 :: c134 :: c135 :: c136 :: c137 :: c138 :: c139 :: c140 :: c141 :: c142 :: c143 :: c144 :: c145 :: c146 :: c147 :: c148 :: c149 :: c150 :: c151 :: c152 :: c153 :: c154 :: c155 :: c156 :: c157 :: c158 :: c159 :: c160 :: c161 :: c162 :: c163 :: c164 :: c165 :: c166 :: c167 :: c168 :: c169 :: c170 :: c171 :: c172 :: c173 :: c174 :: c175 :: c176 :: c177 :: c178 :: c179 :: c180 :: c181 :: c182 :: c183 :: c184 :: c185 :: c186 :: c187 :: c188 :: c189 :: c190 :: c191 :: c192 :: c193 :: c194 :: c195 :: c196 :: c197 :: c198 :: c199 :: c200 :: c201 :: c202 :: c203 :: c204 :: c205 :: c206 :: c207 :: c208 :: c209 :: c210 :: c211 :: c212 :: c213 :: c214 :: c215 :: c216 :: c217 :: c218 :: c219 :: c220 :: c221 :: c222 :: c223 :: [])), []⟩ w0 := by
  have hOh := Lib.hid hO
  have hBh := Lib.hid hB
  clear hO hB
  conv => arg 2; whnf
  go_upto_block 1 with fail
  go_cut [5, 6, 7] from 8 (fun i sd sg wx => ∃ (q : Nat) (b1 b2 : Bool), i = .int .i64 q ∧ sd = .bool b1 ∧ sg = .bool b2 ∧ q ≤ s.size ∧ Hid (SetOk B wx) ∧ Hid (Below B w wx))
  case first =>
    go_wp2_with fail
    go_loopw [5, 6, 7] (fun i sd sg wx => ∃ (q : Nat) (b1 b2 : Bool), i = .int .i64 q ∧ sd = .bool b1 ∧ sg = .bool b2 ∧ q ≤ s.size ∧ Hid (SetOk B wx) ∧ Hid (Below B w wx)) (fun i _ _ _ => s.size - (intOf i).toNat)
    case atStart => exact ⟨q, false, false, rfl, rfl, rfl, hq, hOh, hBh⟩
    case round =>
      clear hOh hBh hq
      obtain ⟨q, b1, b2, rfl, rfl, rfl, hq, hO, hB⟩ := hrel
      by_cases hlt : q < s.size
      · have hlt' : (q : Int) < (s.size : Int) := by omega
        obtain ⟨c, hc⟩ : ∃ c, s[q] = c := ⟨_, rfl⟩
        have hc256 : c.toNat < 256 := c.toNat_lt
        by_cases h95 : c = 95
        · have e1 : ((c.toNat : Int) == 95) = true := by rw [h95]; rfl
          clear h95
          go_wp2_with fail
          go_round
          case rel => exact ⟨q + 1, b1, b2, by go_num, rfl, rfl, by omega, hO, hB⟩
          case measure => simp [intOf]; omega
        have e1 := beq_no c 95 h95
        change (_ == (95 : Int)) = _ at e1
        obtain ⟨nd, dp, d, hD, hL⟩ := hO.out
        have c1 := hD.cnd
        have c2 := hD.cdp
        have hf := hD.free 801
        have hDp := Lib.hid (fun z => show SetOk B (wr.setCell ⟨B, 801, none⟩ (.int .i64 z)) from ⟨nd, z, d, hD.setDp z, hL⟩)
        have hDh := Lib.hid hD
        have hLh := Lib.hid hL
        clear hD hL
        by_cases h46 : c = 46
        · have e2 : ((c.toNat : Int) == 46) = true := by rw [h46]; rfl
          clear h46 h95
          cases b1
          · go_wp2_with fail
            go_round
            case rel => exact ⟨q + 1, true, b2, by go_num, rfl, rfl, by omega, Lib.hid (hDp.out _), Lib.hid (hB.out.setCell (Nat.le_refl _) _)⟩
            case measure => simp [intOf]; omega
          · go_wp2_with fail
            go_ret
            exact ⟨⟨_, rfl⟩, hO.out, hB.out⟩
        have e2 := beq_no c 46 h46
        change (_ == (46 : Int)) = _ at e2
        clear h46 h95
        by_cases hdig : 48 ≤ c.toNat ∧ c.toNat ≤ 57
        · have g1 : (48 : Int) ≤ (c.toNat : Int) := by omega
          have g2 : (c.toNat : Int) ≤ 57 := by omega
          clear hdig
          by_cases hz : c.toNat = 48 ∧ nd = 0
          · obtain ⟨z1, rfl⟩ := hz
            have e3 : ((c.toNat : Int) == 48) = true := by simp; omega
            clear z1
            go_wp2_with fail
            go_round
            case rel => exact ⟨q + 1, b1, true, by go_num, rfl, rfl, by omega, Lib.hid (hDp.out _), Lib.hid (hB.out.setCell (Nat.le_refl _) _)⟩
            case measure => simp [intOf]; omega
          · by_cases h800 : nd < 800
            · have h800' : (nd : Int) < 800 := by omega
              have cd := hDh.out.dig nd h800
              have hfd := hDh.out.free nd
              have hfn := hDh.out.free 800
              have hSt : Hid (SetOk B ((wr.setCell ⟨B, nd, none⟩ (.int .u8 c.toNat)).setCell ⟨B, 800, none⟩ (.int .i64 ((nd : Int) + 1))).drew) := by
                have h1 := (hDh.out.set nd h800 (c.toNat : Int)).setNd (nd + 1) (by omega)
                rw [show ((nd + 1 : Nat) : Int) = (nd : Int) + 1 by omega] at h1
                exact Lib.hid ⟨nd + 1, dp, _, h1.drew, fun _ => Lead.more hLh.out ⟨g1, g2⟩ (fun h => by omega)⟩
              have hBt : Hid (Below B w ((wr.setCell ⟨B, nd, none⟩ (.int .u8 c.toNat)).setCell ⟨B, 800, none⟩ (.int .i64 ((nd : Int) + 1))).drew) :=
                Lib.hid (((hB.out.setCell (Nat.le_refl _) _).setCell (Nat.le_refl _) _).drew)
              by_cases z1 : c.toNat = 48
              · have e3 : ((c.toNat : Int) == 48) = true := by simp; omega
                have e4 : ((nd : Int) == 0) = false := by simp; omega
                clear z1 hz
                go_wp2_with fail
                go_region
                all_goals go_wp2_with fail
                all_goals
                  go_round
                  case rel => exact ⟨q + 1, b1, true, by go_num, rfl, rfl, by omega, hSt, hBt⟩
                  case measure => simp [intOf]; omega
              · have e3 : ((c.toNat : Int) == 48) = false := by simp; omega
                clear z1 hz
                go_wp2_with fail
                go_region
                all_goals go_wp2_with fail
                all_goals
                  go_round
                  case rel => exact ⟨q + 1, b1, true, by go_num, rfl, rfl, by omega, hSt, hBt⟩
                  case measure => simp [intOf]; omega
            · have h800' : ¬ (nd : Int) < 800 := by omega
              obtain ⟨tb, ct⟩ := hDh.out.ctr
              have hft := hDh.out.free 803
              have e4 : ((nd : Int) == 0) = false := by simp; omega
              by_cases z1 : c.toNat = 48
              · have e3 : ((c.toNat : Int) == 48) = true := by simp; omega
                have e5 : ((c.toNat : Int) != 48) = false := by simp; omega
                clear z1 hz
                go_wp2_with fail
                go_round
                case rel => exact ⟨q + 1, b1, true, by go_num, rfl, rfl, by omega, hO, hB⟩
                case measure => simp [intOf]; omega
              · have e3 : ((c.toNat : Int) == 48) = false := by simp; omega
                have e5 : ((c.toNat : Int) != 48) = true := by simp; omega
                clear z1 hz
                go_wp2_with fail
                go_round
                case rel => exact ⟨q + 1, b1, true, by go_num, rfl, rfl, by omega, Lib.hid ⟨nd, dp, d, hDh.out.setTr _, hLh.out⟩, Lib.hid (hB.out.setCell (Nat.le_refl _) _)⟩
                case measure => simp [intOf]; omega
        · by_cases hlo : 48 ≤ c.toNat
          · have g1 : (48 : Int) ≤ (c.toNat : Int) := by omega
            have g2 : ¬ (c.toNat : Int) ≤ 57 := by omega
            clear hdig hlo
            go_wp2_with fail
            go_meet
            case rel => exact ⟨q, b1, b2, rfl, rfl, rfl, hq, hO, hB⟩
          · have g1 : ¬ (48 : Int) ≤ (c.toNat : Int) := by omega
            clear hdig hlo
            go_wp2_with fail
            go_meet
            case rel => exact ⟨q, b1, b2, rfl, rfl, rfl, hq, hO, hB⟩
      · have hlt' : ¬ (q : Int) < (s.size : Int) := by omega
        go_wp2_with fail
        go_meet
        case rel => exact ⟨q, b1, b2, rfl, rfl, rfl, hq, hO, hB⟩
  case rest =>
    obtain ⟨q, b1, b2, rfl, rfl, rfl, hq, hO, hB⟩ := hcut
    rename_i K9 hk9
    apply hk9
    exact dset_mid B s hs w _ hO.out hB.out q hq b1 b2 _ _ _ _ _ _ _ _ _ _ _ _ _ _ _ _ _ _ _ _ _ _ _ _ _ _ _ _ _ _ _ _ _ _ _ _ _ _ _ _ _ _ _ _ _ _ _ _ _ _ _ _ _ _ _ _ _ _ _ _ _ _ _ _ _ _ _ _ _ _ _ _ _ _ _ _ _ _ _ _ _ _ _ _ _ _ _ _ _ _ _ _ _ _ _ _ _ _ _ _ _ _ _ _ _ _ _ _ _ _ _ _ _ _ _ _ _ _ _ _ _ _ _ _ _ _ _ _ _ _ _ _ _ _ _ _ _ _ _ _ _ _ _ _ _ _ _ _ _ _ _ _ _ _ _ _ _ _ _ _ _ _ _ _ _ _ _ _ _ _ _ _ _ _ _ _ _ _ _ _ _ _ _ _ _ _ _ _ _ _ _ _ _ _ _ _ _ _ _ _ _ _ _ _ _ _ _ _ _ _ _ _ _ _ _ _ _ _
end Go.Proofs.YtjaibjdhfljmmaaDoor

namespace Go.Proofs.YtjaibjdhfljmmaaDoor
open Go.RowKit
set_option maxRecDepth 1000000
set_option maxHeartbeats 4000000

theorem dset_any (B : Nat) (s : ByteArray) (hs : s.size ≤ 1073741824) (dp : Int) (d : Nat → Int) (w : World) (hD : Dm w B 0 dp d) :
    Calls Tryd.prog 54 #[.pointer (some ⟨B, 0, none⟩), .string s] w fun e w' => SetR B w e w' := by
  obtain ⟨b1, cng⟩ := hD.cng
  obtain ⟨b2, ctr⟩ := hD.ctr
  have hf1 := hD.free 802
  have hf2 := hD.free 803
  have hDh : Hid (Dm ((w.setCell ⟨B, 802, none⟩ (.bool false)).setCell ⟨B, 803, none⟩ (.bool false)) B 0 dp d) := Lib.hid ((hD.setNg false).setTr false)
  have hBh : Hid (Below B w ((w.setCell ⟨B, 802, none⟩ (.bool false)).setCell ⟨B, 803, none⟩ (.bool false))) := Lib.hid (((Below.refl B w).setCell (p := ⟨B, 802, none⟩) (Nat.le_refl _) _).setCell (p := ⟨B, 803, none⟩) (Nat.le_refl _) _)
  clear hD
  go_enter Tryd.func54, Tryd.ntmps54
  by_cases h0 : 0 < s.size
  · have h0' : ¬ (s.size : Int) ≤ 0 := by omega
    have hne : ¬ s = ByteArray.empty := by rintro rfl; exact absurd h0 (by decide)
    obtain ⟨c, hc⟩ : ∃ c, s[0] = c := ⟨_, rfl⟩
    go_upto_block 0 with fail
    go_cut [5] from 6 (fun i wx => ∃ q : Nat, i = .int .i64 q ∧ q ≤ s.size ∧ Hid (SetOk B wx) ∧ Hid (Below B w wx))
    case first =>
      have hO : Hid (SetOk B ((w.setCell ⟨B, 802, none⟩ (.bool false)).setCell ⟨B, 803, none⟩ (.bool false))) := Lib.hid ⟨0, dp, d, hDh.out, fun h => absurd h (by omega)⟩
      by_cases h43 : c = 43
      · have e1 : ((c.toNat : Int) == 43) = true := by rw [h43]; rfl
        clear h43
        go_wp2_with fail
        go_meet
        case rel => exact ⟨1, by go_num, by omega, hO, hBh⟩
      have e1 := beq_no c 43 h43
      change (_ == (43 : Int)) = _ at e1
      by_cases h45 : c = 45
      · have e2 : ((c.toNat : Int) == 45) = true := by rw [h45]; rfl
        clear h43 h45
        go_wp2_with fail
        go_meet
        case rel => exact ⟨1, by go_num, by omega, Lib.hid ⟨0, dp, d, hDh.out.setNg true, fun h => absurd h (by omega)⟩, Lib.hid (hBh.out.setCell (Nat.le_refl _) _)⟩
      have e2 := beq_no c 45 h45
      change (_ == (45 : Int)) = _ at e2
      clear h43 h45
      go_wp2_with fail
      go_meet
      case rel => exact ⟨0, by go_num, by omega, hO, hBh⟩
    case rest =>
      obtain ⟨q, rfl, hq, hO, hB⟩ := hcut
      rename_i K9 hk9
      apply hk9
      exact dset_loop B s hs w _ hO.out hB.out q hq _ _ _ _ _ _ _ _ _ _ _ _ _ _ _ _ _ _ _ _ _ _ _ _ _ _ _ _ _ _ _ _ _ _ _ _ _ _ _ _ _ _ _ _ _ _ _ _ _ _ _ _ _ _ _ _ _ _ _ _ _ _ _ _ _ _ _ _ _ _ _ _ _ _ _ _ _ _ _ _ _ _ _ _ _ _ _ _ _ _ _ _ _ _ _ _ _ _ _ _ _ _ _ _ _ _ _ _ _ _ _ _ _ _ _ _ _ _ _ _ _ _ _ _ _ _ _ _ _ _ _ _ _ _ _ _ _ _ _ _ _ _ _ _ _ _ _ _ _ _ _ _ _ _ _ _ _ _ _ _ _ _ _ _ _ _ _ _ _ _ _ _ _ _ _ _ _ _ _ _ _ _ _ _ _ _ _ _ _ _ _ _ _ _ _ _ _ _ _ _ _ _ _ _ _ _ _ _ _ _ _ _ _ _ _ _ _ _ _ _
  · have he : s = ByteArray.empty := by
      cases s with
      | mk a =>
        have : a = #[] := Array.eq_empty_of_size_eq_zero (by have h1 : ¬ 0 < a.size := h0; omega)
        subst this
        rfl
    subst he
    go_wp2_with fail
    go_ret
    exact ⟨⟨_, rfl⟩, ⟨0, dp, d, hDh.out, fun h => absurd h (by omega)⟩, hBh.out⟩
end Go.Proofs.YtjaibjdhfljmmaaDoor
