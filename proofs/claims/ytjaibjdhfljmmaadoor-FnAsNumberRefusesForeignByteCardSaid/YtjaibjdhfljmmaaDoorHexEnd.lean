/-
  atofHex: it returns a float and an error or nil; the values are left open. Its end.
-/
import Derived.Test.YtjaibjdhfljmmaaDoorPre
import Derived.Test.YtjaibjdhfljmmaaDoorReadLoop
import Derived.Laws.Bits64b
import Derived.LaidEqlPtr
namespace Go.Proofs.YtjaibjdhfljmmaaDoor
open Go.RowKit
set_option maxRecDepth 1000000
set_option maxHeartbeats 4000000

/-- The layout of float64. -/
structure F64 (w : World) : Prop where
  mb : w.cell? ⟨5, 0, none⟩ = some (.int .u64 52)
  eb : w.cell? ⟨5, 1, none⟩ = some (.int .u64 11)
  bi : w.cell? ⟨5, 2, none⟩ = some (.int .i64 (-1023))

theorem wrap_u (x : Int) : 0 ≤ IntKind.u64.wrap x ∧ IntKind.u64.wrap x < 18446744073709551616 := by
  rw [IntKind.wrap_u64]
  omega

theorem wrap_is (x : Int) (h0 : 0 ≤ x) (h1 : x < 18446744073709551616) : IntKind.u64.wrap x = x := by
  rw [IntKind.wrap_u64]
  omega

theorem bits_u (op : BinOp) (x y : Int) (h0 : op = .or ∨ op = .and) : 0 ≤ bits op .u64 x y ∧ bits op .u64 x y < 18446744073709551616 := by
  unfold bits
  rcases h0 with rfl | rfl
  all_goals exact wrap_u _
/-- A shift that keeps the bit that falls out. -/
theorem sticky (y : Int) (h2 : 2 ≤ y) (h : y < 18446744073709551616) : bits .or .u64 (y / 2) (bits .and .u64 y 1) < y := by
  obtain ⟨n, rfl⟩ : ∃ n : Nat, y = n := ⟨y.toNat, by omega⟩
  have e1 : ((n : Int) / 2) = ((n / 2 : Nat) : Int) := by omega
  have ea : bits .and .u64 (n : Int) 1 = ((n &&& 1 : Nat) : Int) := bits_and_u64_nat n 1 (by omega) (by omega)
  rw [e1, ea, Nat.and_one_is_mod, bits_or_u64_nat _ _ (by omega) (by omega)]
  have h2' : 2 ≤ n := by omega
  have hd : (n / 2 ||| n % 2) / 2 = n / 2 / 2 := by
    rw [Nat.or_div_two]
    have : n % 2 / 2 = 0 := by omega
    rw [this, Nat.or_zero]
  by_cases hz : n % 2 = 0
  · rw [hz, Nat.or_zero]
    omega
  · omega

theorem toNat_lt {a b : Int} (h0 : 0 ≤ a) (h : a < b) : a.toNat < b.toNat := by omega

/-- The blocks of float64info and float32info. -/
def At53 (w : World) : Prop := (∃ ca ta, w.heap[5]? = some (.cells ca ta (0, 0))) ∧ ∃ ca ta, w.heap[3]? = some (.cells ca ta (0, 0))
@[go_sem] theorem at53_drewN (w : World) (n : Nat) : At53 (w.drewN n) = At53 w := rfl
theorem Tryd.und98 : Tryd.prog.underlying 98 = some (.pointer 100) := by kernel_rfl
theorem Tryd.info100 : (Tryd.prog.info? 100).map (·.size != 0) = some true := by kernel_rfl
@[go_sem] theorem run_ptr98 (w : World) (h : At53 w) : (binOp .eql 98 (.pointer (some ⟨5, 0, none⟩)) (.pointer (some ⟨3, 0, none⟩))).run Tryd.prog w = .ok (.bool false) w := by
  obtain ⟨⟨ca, ta, ha⟩, cb, tb, hb⟩ := h
  obtain ⟨j, hj⟩ : ∃ j, Tryd.prog.info? 100 = some j := by
    have := Tryd.info100
    cases h : Tryd.prog.info? 100 with
    | none => rw [h] at this; cases this
    | some j => exact ⟨j, rfl⟩
  have hs : j.size ≠ 0 := by
    have := Tryd.info100
    rw [hj] at this
    simpa using this
  exact run_eql_ptr_other w Tryd.und98 hj hs (by simp) ha hb

noncomputable def hxStmt (n : Nat) : Code := seqDrop n (Tryd.f49.body.getD .skip)

attribute [local go_sem] fb57

theorem hex_fin (s : ByteArray) (ng tr : Bool) (w : World) (nq : Nat) (c0 : w.cell? ⟨5, 0, none⟩ = some (.int .u64 52)) (c1 : w.cell? ⟨5, 1, none⟩ = some (.int .u64 11)) (c2 : w.cell? ⟨5, 2, none⟩ = some (.int .i64 (-1023))) (hA : At53 w)
    (y z : Int) (er : Value) (her : Hid (er = .nilIface ∨ er = .iface 70 (.int .i64 1))) (c6 c7 c8 c9 c10 c11 c16 c18 c19 c20 c21 c22 c23 c24 c25 c26 c27 c28 c29 c30 c31 c32 c33 c34 c35 c36 c37 c38 c39 c40 c41 c42 c43 c44 c45 c46 c47 c48 c49 c50 c51 c52 c53 c54 c55 c56 c57 c58 c59 c60 c61 c62 c63 c64 c65 c66 c67 c68 c69 c70 c71 c72 c73 c74 c75 c76 c77 c78 c79 c80 c81 c82 c83 c84 c85 c86 c87 c88 c89 c90 c91 c92 c93 c94 c95 c96 c97 c98 c99 c100 c101 c102 c103 c104 c105 c106 c107 c108 c109 c110 c111 c112 c113 c114 c115 c116 c117 c118 c119 c120 c121 c122 c123 c124 c125 c126 c127 c128 c129 c130 c131 c132 c133 c134 c135 c136 c137 c138 c139 c140 c141 c142 c143 c144 c145 c146 c147 c148 c149 c150 c151 c152 c153 c154 c155 c156 c157 c158 c159 c160 c161 c162 c163 c164 c165 c166 c167 c168 c169 c170 c171 c172 c173 c174 c175 c176 c177 c178 c179 c180 c181 c182 c183 c184 c185 c186 c187 c188 c189 c190 c191 : Value) :
    Code.wp Tryd.prog (hxStmt 16) (bodyPost Tryd.prog Tryd.f49 fun e w' => FloatEr e ∧ Below w.heap.size w w') ⟨(List.toArray ((Value.string s) :: (Value.pointer (some ⟨5, 0, none⟩)) :: (Value.int .u64 y) :: (Value.int .i64 z) :: (Value.bool ng) :: (Value.bool tr) :: c6 :: c7 :: c8 :: c9 :: c10 :: c11 :: (Value.float .f64 0) :: Value.nilIface :: (Value.int .i64 1023) :: (Value.int .i64 (-1022)) :: c16 :: er :: c18 :: c19 :: c20 :: c21 :: c22 :: c23 :: c24 :: c25 :: c26 :: c27 :: c28 :: c29 :: c30 :: c31 :: c32 :: c33 :: c34 :: c35 :: c36 :: c37 :: c38 :: c39 :: c40 :: c41 :: c42 :: c43 :: c44 :: c45 :: c46 :: c47 :: c48 :: c49 :: c50 :: c51 :: c52 :: c53 :: c54 :: c55 :: c56 :: c57 :: c58 :: c59 :: c60 :: c61 :: c62 :: c63 :: c64 :: c65 :: c66 :: c67 :: c68 :: c69 :: c70 :: c71 :: c72 :: c73 :: c74 :: c75 :: c76 :: c77 :: c78 :: c79 :: c80 :: c81 :: c82 :: c83 :: c84 :: c85 :: c86 :: c87 :: c88 :: c89 :: c90 :: c91 :: c92 :: c93 :: c94 :: c95 :: c96 :: c97 :: c98 :: c99 :: c100 :: c101 :: c102 :: c103 :: c104 :: c105 :: c106 :: c107 :: c108 :: c109 :: c110 :: c111 :: c112 :: c113 :: c114 :: c115 :: c116 :: c117 :: c118 :: c119 :: c120 :: c121 :: c122 :: c123 :: c124 :: c125 :: c126 :: c127 :: c128 :: c129 :: c130 :: c131 :: c132 :: c133 :: c134 :: c135 :: c136 :: c137 :: c138 :: c139 :: c140 :: c141 :: c142 :: c143 :: c144 :: c145 :: c146 :: c147 :: c148 :: c149 :: c150 :: c151 :: c152 :: c153 :: c154 :: c155 :: c156 :: c157 :: c158 :: c159 :: c160 :: c161 :: c162 :: c163 :: c164 :: c165 :: c166 :: c167 :: c168 :: c169 :: c170 :: c171 :: c172 :: c173 :: c174 :: c175 :: c176 :: c177 :: c178 :: c179 :: c180 :: c181 :: c182 :: c183 :: c184 :: c185 :: c186 :: c187 :: c188 :: c189 :: c190 :: c191 :: [])), []⟩ (w.drewN nq) := by
  conv => arg 2; whnf
  go_wp2_with fail
  go_quiet (fail)
  cases ng with
  | false =>
    go_wp2_with fail
    simp (config := {maxSteps := 200000}) only [go_sem, Oper.upon]
    rw [run_ptr98 (w.drewN _) hA]
    rename_i K9 hk9
    refine hk9 _ _ ?_
    go_wp2_with fail
    go_ret2
    exact ⟨⟨_, _, rfl, her.out⟩, ⟨rfl, rfl, rfl, Nat.le_refl _, fun _ _ => rfl⟩⟩
  | true =>
    go_wp2_with fail
    go_quiet (fail)
    go_wp2_with fail
    simp (config := {maxSteps := 200000}) only [go_sem, Oper.upon]
    rw [run_ptr98 (w.drewN _) hA]
    rename_i K9 hk9
    refine hk9 _ _ ?_
    go_wp2_with fail
    go_ret2
    exact ⟨⟨_, _, rfl, her.out⟩, ⟨rfl, rfl, rfl, Nat.le_refl _, fun _ _ => rfl⟩⟩

theorem hex_mid (s : ByteArray) (ng tr : Bool) (w : World) (nq : Nat) (c0 : w.cell? ⟨5, 0, none⟩ = some (.int .u64 52)) (c1 : w.cell? ⟨5, 1, none⟩ = some (.int .u64 11)) (c2 : w.cell? ⟨5, 2, none⟩ = some (.int .i64 (-1023))) (hA : At53 w)
    (y z : Int) (c6 c7 c8 c9 c10 c11 c16 c17 c18 c19 c20 c21 c22 c23 c24 c25 c26 c27 c28 c29 c30 c31 c32 c33 c34 c35 c36 c37 c38 c39 c40 c41 c42 c43 c44 c45 c46 c47 c48 c49 c50 c51 c52 c53 c54 c55 c56 c57 c58 c59 c60 c61 c62 c63 c64 c65 c66 c67 c68 c69 c70 c71 c72 c73 c74 c75 c76 c77 c78 c79 c80 c81 c82 c83 c84 c85 c86 c87 c88 c89 c90 c91 c92 c93 c94 c95 c96 c97 c98 c99 c100 c101 c102 c103 c104 c105 c106 c107 c108 c109 c110 c111 c112 c113 c114 c115 c116 c117 c118 c119 c120 c121 c122 c123 c124 c125 c126 c127 c128 c129 c130 c131 c132 c133 c134 c135 c136 c137 c138 c139 c140 c141 c142 c143 c144 c145 c146 c147 c148 c149 c150 c151 c152 c153 c154 c155 c156 c157 c158 c159 c160 c161 c162 c163 c164 c165 c166 c167 c168 c169 c170 c171 c172 c173 c174 c175 c176 c177 c178 c179 c180 c181 c182 c183 c184 c185 c186 c187 c188 c189 c190 c191 : Value) :
    Code.wp Tryd.prog (hxStmt 13) (bodyPost Tryd.prog Tryd.f49 fun e w' => FloatEr e ∧ Below w.heap.size w w') ⟨(List.toArray ((Value.string s) :: (Value.pointer (some ⟨5, 0, none⟩)) :: (Value.int .u64 y) :: (Value.int .i64 z) :: (Value.bool ng) :: (Value.bool tr) :: c6 :: c7 :: c8 :: c9 :: c10 :: c11 :: (Value.float .f64 0) :: Value.nilIface :: (Value.int .i64 1023) :: (Value.int .i64 (-1022)) :: c16 :: c17 :: c18 :: c19 :: c20 :: c21 :: c22 :: c23 :: c24 :: c25 :: c26 :: c27 :: c28 :: c29 :: c30 :: c31 :: c32 :: c33 :: c34 :: c35 :: c36 :: c37 :: c38 :: c39 :: c40 :: c41 :: c42 :: c43 :: c44 :: c45 :: c46 :: c47 :: c48 :: c49 :: c50 :: c51 :: c52 :: c53 :: c54 :: c55 :: c56 :: c57 :: c58 :: c59 :: c60 :: c61 :: c62 :: c63 :: c64 :: c65 :: c66 :: c67 :: c68 :: c69 :: c70 :: c71 :: c72 :: c73 :: c74 :: c75 :: c76 :: c77 :: c78 :: c79 :: c80 :: c81 :: c82 :: c83 :: c84 :: c85 :: c86 :: c87 :: c88 :: c89 :: c90 :: c91 :: c92 :: c93 :: c94 :: c95 :: c96 :: c97 :: c98 :: c99 :: c100 :: c101 :: c102 :: c103 :: c104 :: c105 :: c106 :: c107 :: c108 :: c109 :: c110 :: c111 :: c112 :: c113 :: c114 :: c115 :: c116 :: c117 :: c118 :: c119 :: c120 :: c121 :: c122 :: c123 :: c124 :: c125 :: c126 :: c127 :: c128 :: c129 :: c130 :: c131 :: c132 :: c133 :: c134 :: c135 :: c136 :: c137 :: c138 :: c139 :: c140 :: c141 :: c142 :: c143 :: c144 :: c145 :: c146 :: c147 :: c148 :: c149 :: c150 :: c151 :: c152 :: c153 :: c154 :: c155 :: c156 :: c157 :: c158 :: c159 :: c160 :: c161 :: c162 :: c163 :: c164 :: c165 :: c166 :: c167 :: c168 :: c169 :: c170 :: c171 :: c172 :: c173 :: c174 :: c175 :: c176 :: c177 :: c178 :: c179 :: c180 :: c181 :: c182 :: c183 :: c184 :: c185 :: c186 :: c187 :: c188 :: c189 :: c190 :: c191 :: [])), []⟩ (w.drewN nq) := by
  conv => arg 2; whnf
  go_upto_if 124 with fail
  go_cut [3] from 16 (fun b wx => ∃ z : Int, b = .int .i64 z ∧ Hid (w.drewN nq = wx))
  case first =>
    go_wp2_with fail
    all_goals
      go_meet
      case rel => exact ⟨_, rfl, Lib.hid rfl⟩
  case rest =>
    obtain ⟨z, rfl, hw⟩ := hcut
    have hw' := hw.out
    subst hw'
    clear hw
    rename_i K9 hk9
    apply hk9
    go_upto_if 131 with fail
    go_cut [2, 3, 17] from 18 (fun a b c wx => ∃ (y z : Int) (er : Value), a = .int .u64 y ∧ b = .int .i64 z ∧ c = er ∧ Hid (er = .nilIface ∨ er = .iface 70 (.int .i64 1)) ∧ Hid (w.drewN nq = wx))
    case first =>
      go_wp2_with fail
      all_goals
        go_meet
        case rel => first | exact ⟨_, _, _, rfl, rfl, rfl, Lib.hid (.inl rfl), Lib.hid rfl⟩ | exact ⟨_, _, _, rfl, rfl, rfl, Lib.hid (.inr rfl), Lib.hid rfl⟩
    case rest =>
      obtain ⟨y, z, er, rfl, rfl, rfl, her, hw⟩ := hcut
      have hw' := hw.out
      subst hw'
      clear hw
      rename_i K9 hk9
      apply hk9
      exact hex_fin s ng tr w nq c0 c1 c2 hA _ _ _ her _ _ _ _ _ _ _ _ _ _ _ _ _ _ _ _ _ _ _ _ _ _ _ _ _ _ _ _ _ _ _ _ _ _ _ _ _ _ _ _ _ _ _ _ _ _ _ _ _ _ _ _ _ _ _ _ _ _ _ _ _ _ _ _ _ _ _ _ _ _ _ _ _ _ _ _ _ _ _ _ _ _ _ _ _ _ _ _ _ _ _ _ _ _ _ _ _ _ _ _ _ _ _ _ _ _ _ _ _ _ _ _ _ _ _ _ _ _ _ _ _ _ _ _ _ _ _ _ _ _ _ _ _ _ _ _ _ _ _ _ _ _ _ _ _ _ _ _ _ _ _ _ _ _ _ _ _ _ _ _ _ _ _ _ _ _ _ _ _ _ _ _ _ _ _ _ _ _ _ _ _

theorem hex_round (s : ByteArray) (ng tr : Bool) (w : World) (nq : Nat) (c0 : w.cell? ⟨5, 0, none⟩ = some (.int .u64 52)) (c1 : w.cell? ⟨5, 1, none⟩ = some (.int .u64 11)) (c2 : w.cell? ⟨5, 2, none⟩ = some (.int .i64 (-1023))) (hA : At53 w)
    (y z : Int) (c6 c7 c8 c9 c10 c11 c16 c17 c18 c19 c20 c21 c22 c23 c24 c25 c26 c27 c28 c29 c30 c31 c32 c33 c34 c35 c36 c37 c38 c39 c40 c41 c42 c43 c44 c45 c46 c47 c48 c49 c50 c51 c52 c53 c54 c55 c56 c57 c58 c59 c60 c61 c62 c63 c64 c65 c66 c67 c68 c69 c70 c71 c72 c73 c74 c75 c76 c77 c78 c79 c80 c81 c82 c83 c84 c85 c86 c87 c88 c89 c90 c91 c92 c93 c94 c95 c96 c97 c98 c99 c100 c101 c102 c103 c104 c105 c106 c107 c108 c109 c110 c111 c112 c113 c114 c115 c116 c117 c118 c119 c120 c121 c122 c123 c124 c125 c126 c127 c128 c129 c130 c131 c132 c133 c134 c135 c136 c137 c138 c139 c140 c141 c142 c143 c144 c145 c146 c147 c148 c149 c150 c151 c152 c153 c154 c155 c156 c157 c158 c159 c160 c161 c162 c163 c164 c165 c166 c167 c168 c169 c170 c171 c172 c173 c174 c175 c176 c177 c178 c179 c180 c181 c182 c183 c184 c185 c186 c187 c188 c189 c190 c191 : Value) :
    Code.wp Tryd.prog (hxStmt 8) (bodyPost Tryd.prog Tryd.f49 fun e w' => FloatEr e ∧ Below w.heap.size w w') ⟨(List.toArray ((Value.string s) :: (Value.pointer (some ⟨5, 0, none⟩)) :: (Value.int .u64 y) :: (Value.int .i64 z) :: (Value.bool ng) :: (Value.bool tr) :: c6 :: c7 :: c8 :: c9 :: c10 :: c11 :: (Value.float .f64 0) :: Value.nilIface :: (Value.int .i64 1023) :: (Value.int .i64 (-1022)) :: c16 :: c17 :: c18 :: c19 :: c20 :: c21 :: c22 :: c23 :: c24 :: c25 :: c26 :: c27 :: c28 :: c29 :: c30 :: c31 :: c32 :: c33 :: c34 :: c35 :: c36 :: c37 :: c38 :: c39 :: c40 :: c41 :: c42 :: c43 :: c44 :: c45 :: c46 :: c47 :: c48 :: c49 :: c50 :: c51 :: c52 :: c53 :: c54 :: c55 :: c56 :: c57 :: c58 :: c59 :: c60 :: c61 :: c62 :: c63 :: c64 :: c65 :: c66 :: c67 :: c68 :: c69 :: c70 :: c71 :: c72 :: c73 :: c74 :: c75 :: c76 :: c77 :: c78 :: c79 :: c80 :: c81 :: c82 :: c83 :: c84 :: c85 :: c86 :: c87 :: c88 :: c89 :: c90 :: c91 :: c92 :: c93 :: c94 :: c95 :: c96 :: c97 :: c98 :: c99 :: c100 :: c101 :: c102 :: c103 :: c104 :: c105 :: c106 :: c107 :: c108 :: c109 :: c110 :: c111 :: c112 :: c113 :: c114 :: c115 :: c116 :: c117 :: c118 :: c119 :: c120 :: c121 :: c122 :: c123 :: c124 :: c125 :: c126 :: c127 :: c128 :: c129 :: c130 :: c131 :: c132 :: c133 :: c134 :: c135 :: c136 :: c137 :: c138 :: c139 :: c140 :: c141 :: c142 :: c143 :: c144 :: c145 :: c146 :: c147 :: c148 :: c149 :: c150 :: c151 :: c152 :: c153 :: c154 :: c155 :: c156 :: c157 :: c158 :: c159 :: c160 :: c161 :: c162 :: c163 :: c164 :: c165 :: c166 :: c167 :: c168 :: c169 :: c170 :: c171 :: c172 :: c173 :: c174 :: c175 :: c176 :: c177 :: c178 :: c179 :: c180 :: c181 :: c182 :: c183 :: c184 :: c185 :: c186 :: c187 :: c188 :: c189 :: c190 :: c191 :: [])), []⟩ (w.drewN nq) := by
  conv => arg 2; whnf
  go_upto_if 103 with fail
  go_cut [2, 3] from 16 (fun a b wx => ∃ y z : Int, a = .int .u64 y ∧ b = .int .i64 z ∧ Hid (w.drewN nq = wx))
  case first =>
    go_wp2_with fail
    all_goals
      go_meet
      case rel => exact ⟨_, _, rfl, rfl, Lib.hid rfl⟩
  case rest =>
    obtain ⟨y, z, rfl, rfl, hw⟩ := hcut
    have hw' := hw.out
    subst hw'
    clear hw
    rename_i K9 hk9
    apply hk9
    exact hex_mid s ng tr w nq c0 c1 c2 hA _ _ _ _ _ _ _ _ _ _ _ _ _ _ _ _ _ _ _ _ _ _ _ _ _ _ _ _ _ _ _ _ _ _ _ _ _ _ _ _ _ _ _ _ _ _ _ _ _ _ _ _ _ _ _ _ _ _ _ _ _ _ _ _ _ _ _ _ _ _ _ _ _ _ _ _ _ _ _ _ _ _ _ _ _ _ _ _ _ _ _ _ _ _ _ _ _ _ _ _ _ _ _ _ _ _ _ _ _ _ _ _ _ _ _ _ _ _ _ _ _ _ _ _ _ _ _ _ _ _ _ _ _ _ _ _ _ _ _ _ _ _ _ _ _ _ _ _ _ _ _ _ _ _ _ _ _ _ _ _ _ _ _ _ _ _ _ _ _ _ _ _ _ _ _ _ _ _ _ _ _ _ _ _
end Go.Proofs.YtjaibjdhfljmmaaDoor
