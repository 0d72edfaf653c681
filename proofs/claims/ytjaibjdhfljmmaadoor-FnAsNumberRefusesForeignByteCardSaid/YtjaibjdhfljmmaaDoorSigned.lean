/-
  The walk of FnAsNumberReadsSignedIntegerNumeral: for every argument the call returns true and turns nothing that was there.
-/
import Derived.Test.YtjaibjdhfljmmaaDoorDigits
import Derived.Test.YtjaibjdhfljmmaaDoorDecimal
import Derived.Test.YtjaibjdhfljmmaaDoorFloat
namespace Go.Proofs.YtjaibjdhfljmmaaDoor
open Go.RowKit
set_option maxRecDepth 100000
set_option maxHeartbeats 1000000

theorem good_dec {c : UInt8} (h : Good 10 c) : Dec c := by
  rcases h with h | ⟨h, _⟩
  · exact h
  · cases h
theorem good_hex {c : UInt8} (h : Good 16 c) : Hex c := by
  rcases h with h | ⟨_, h⟩
  · exact Or.inl h
  · exact Or.inr h
theorem ws_hex {x : UInt8} (h : Hex x) : ws x = false := by
  rw [ws_nat]
  unfold Hex at h
  simp
  omega

/-- ParseInt at a minus or nothing, '0x' and hexadecimal digits. -/
theorem pi_hex (t : ByteArray) (sg H : List UInt8) (ht : t.data.toList = sg ++ (48 :: 120 :: H)) (hsg : sg = [] ∨ sg = [45]) (hH : ∀ x ∈ H, Hex x) (h1 : 1 ≤ H.length) (hv : val 16 H < 9223372036854775808 ∨ (sg = [45] ∧ val 16 H ≤ 9223372036854775808)) (hmax : t.size ≤ 1073741824) (w : World) :
    Calls Tryd.prog 28 #[.string t, .int .i64 0, .int .i64 64] w fun e w' => e = .returned (.tuple #[.int .i64 (if sg = [45] then -(val 16 H : Int) else val 16 H), .nilIface]) ∧ Below w.heap.size w w' := by
  have key : ∀ (u : ByteArray) (W : World), u.data.toList = 48 :: 120 :: H → u.size ≤ 1073741824 →
      Calls Tryd.prog 33 #[.string u, .int .i64 0, .int .i64 64] W fun e w' => e = .returned (.tuple #[.int .u64 (val 16 H), .nilIface]) ∧ Below W.heap.size W w' := by
    intro u W hu hum
    have hsz : u.size = H.length + 2 := by rw [Lib.size_eq, hu]; rfl
    have hex : (u.extract 2 u.size).data.toList = H := by rw [Lib.extract_data, List.take_of_length_le (by simp), hu]; rfl
    have g0 : u[0] = 48 := by
      have : u[0] = u.data.toList[0]'(by rw [← Lib.size_eq]; omega) := rfl
      rw [this]; simp [hu]
    have g1 : u[1] = 120 := by
      have : u[1] = u.data.toList[1]'(by rw [← Lib.size_eq]; omega) := rfl
      rw [this]; simp [hu]
    have := pu_hex u (u.extract 2 u.size) (by omega) hum g0 g1 rfl (by rw [hex]; exact hH) (by rw [hex]; omega) W
    rw [hex] at this
    exact this
  have hsz : t.size = sg.length + (H.length + 2) := by rw [Lib.size_eq, ht, List.length_append]; rfl
  have hne : 0 < t.size := by omega
  have hget : t[0] = (sg ++ (48 :: 120 :: H))[0]'(by rw [List.length_append]; simp; omega) := by
    have : t[0] = t.data.toList[0]'(by rw [← Lib.size_eq]; omega) := rfl
    rw [this]
    congr 1
  have hex : (t.extract 1 t.size).data.toList = (sg ++ (48 :: 120 :: H)).drop 1 := by rw [Lib.extract_data, List.take_of_length_le (by simp), ht]
  have hexz : (t.extract 1 t.size).size = t.size - 1 := by rw [Lib.size_eq, hex, List.length_drop, List.length_append, hsz]; rfl
  rcases hsg with rfl | rfl
  · rw [if_neg (by decide)]
    have hv' : val 16 H < 9223372036854775808 := by rcases hv with h | ⟨h, _⟩; exact h; cases h
    exact pi_ok_plain t hne w _ hv' (by rw [hget]; simp) (by rw [hget]; simp) (key t w ht hmax)
  · rw [if_pos rfl]
    have hv' : val 16 H ≤ 9223372036854775808 := by rcases hv with h | ⟨_, h⟩ <;> omega
    exact pi_ok_minus t hne w _ hv' (by rw [hget]; rfl) (key _ w (by rw [hex]; rfl) (by omega))

theorem last_of {α : Type} {a b : List α} (hb : 1 ≤ b.length) {x : α} (hx : (a ++ b).getLast? = some x) : x ∈ b := by
  rw [List.getLast?_append] at hx
  cases hg : b.getLast? with
  | none =>
    rw [List.getLast?_eq_none_iff] at hg
    rw [hg] at hb
    simp at hb
  | some y =>
    rw [hg] at hx
    cases hx
    exact List.mem_of_getLast? hg

theorem pn_hex (s : ByteArray) (w : World) (hmax : s.size ≤ 1073741824) (a b sg H : List UInt8) (hs : s.data.toList = a ++ ((sg ++ (48 :: 120 :: H)) ++ b)) (ha : ∀ x ∈ a, ws x = true) (hb : ∀ x ∈ b, ws x = true)
    (hsg : sg = [] ∨ sg = [45]) (hH : ∀ x ∈ H, Hex x) (h1 : 1 ≤ H.length) (hv : val 16 H < 9223372036854775808 ∨ (sg = [45] ∧ val 16 H ≤ 9223372036854775808)) :
    Calls Tryd.prog 20 #[.string s] w fun e w' => e = .returned (.tuple #[.float .f64 (floatOfInt .f64 (if sg = [45] then -(val 16 H : Int) else val 16 H)), .nilIface]) ∧ Below w.heap.size w w' := by
  refine pn_ok s w hmax _ (fun t W ht => ?_)
  have hte : t.data.toList = sg ++ (48 :: 120 :: H) := ht.exact hs ha hb (by simp) (fun x hx => by
      rcases hsg with rfl | rfl
      · simp at hx; subst hx; decide
      · simp at hx; subst hx; decide) (fun x hx => by
      have e : sg ++ (48 :: 120 :: H) = (sg ++ [48, 120]) ++ H := by simp
      rw [e] at hx
      exact ws_hex (hH _ (last_of h1 hx)))
  exact pi_hex t sg H hte hsg hH h1 hv (by have := ht.length; rw [Lib.size_eq] at *; omega) W

theorem as24 (s : ByteArray) (W : World) : (Instr.typeAssert (.iface 26 (.string s)) 35 24 true).run Tryd.prog W = .ok (.tuple #[.float .f64 0, .bool false]) W := by kernel_rfl
theorem as26 (s : ByteArray) (W : World) : (Instr.typeAssert (.iface 26 (.string s)) 35 26 true).run Tryd.prog W = .ok (.tuple #[.string s, .bool true]) W := by kernel_rfl

/-- LVAsNumber of a text that parseNumber takes. -/
theorem lva_ok (s : ByteArray) (f : Nat) (w : World) (hP : Calls Tryd.prog 20 #[.string s] w fun e w' => e = .returned (.tuple #[.float .f64 f, .nilIface]) ∧ Below w.heap.size w w') :
    Calls Tryd.prog 9 #[.iface 26 (.string s)] w fun e w' => e = .returned (.float .f64 f) ∧ Below w.heap.size w w' := by
  have HP := Lib.hid hP
  have a1 := as24
  have a2 := as26
  clear hP
  go_enter Tryd.func9, Tryd.ntmps9
  go_wp2_with fail
  refine HP.out.mono ?_
  rintro e w1 ⟨rfl, hb⟩
  have hb' := Lib.hid hb
  clear hb HP
  go_wp2_with fail
  go_ret
  exact ⟨rfl, hb'.out⟩

/-- A bool, and what true tells. -/
def Tells (P : Prop) (e : Ending) : Prop := ∃ b, e = .returned (.bool b) ∧ (b = true → P)

def AllWs (s : ByteArray) : Prop := ∀ x ∈ s.data.toList, ws x = true

theorem only_trim (s : ByteArray) (hs : s.size ≤ 1073741824) (w : World) :
    Calls Tryd.prog 11 #[.string s] w fun e w' => Tells (AllWs s) e ∧ w = w' := by
  go_enter Tryd.func11, Tryd.ntmps11
  go_wp2_with fail
  go_loop [3] (fun i => ∃ p : Nat, i = .int .i64 p ∧ p ≤ s.size ∧ Hid (∀ x ∈ s.data.toList.take p, ws x = true)) (fun i => s.size - (intOf i).toNat)
  case atStart => exact ⟨0, rfl, by omega, Lib.hid (by simp)⟩
  case round =>
    obtain ⟨p, rfl, hp, hall⟩ := hrel
    by_cases hlt : p < s.size
    · obtain ⟨c, hc⟩ : ∃ c, s[p] = c := ⟨_, rfl⟩
      have hl : p < s.data.toList.length := by rw [← Lib.size_eq]; exact hlt
      have hcl : s.data.toList[p] = c := hc
      by_cases h1 : c = 32 ∨ c = 9 ∨ c = 10
      · have hall2 : Hid (∀ x ∈ s.data.toList.take (p + 1), ws x = true) := Lib.hid (by
          intro x hx
          rw [List.take_succ_eq_append_getElem hl, hcl] at hx
          rcases List.mem_append.1 hx with hx | hx
          · exact hall.out x hx
          · simp at hx; rw [hx]; rcases h1 with rfl | rfl | rfl <;> rfl)
        rcases h1 with h | h | h
        · have e1 : ((c.toNat : Int) != 32) = false := by rw [h]; rfl
          clear h hcl hl
          go_wp2_with fail
          go_round
          case rel => exact ⟨p + 1, by go_num, by omega, hall2⟩
          case measure => simp [intOf]; omega
        · have e1 : ((c.toNat : Int) != 32) = true := by rw [h]; rfl
          have e2 : ((c.toNat : Int) != 9) = false := by rw [h]; rfl
          clear h hcl hl
          go_wp2_with fail
          go_round
          case rel => exact ⟨p + 1, by go_num, by omega, hall2⟩
          case measure => simp [intOf]; omega
        · have e1 : ((c.toNat : Int) != 32) = true := by rw [h]; rfl
          have e2 : ((c.toNat : Int) != 9) = true := by rw [h]; rfl
          have e3 : ((c.toNat : Int) != 10) = false := by rw [h]; rfl
          clear h hcl hl
          go_wp2_with fail
          go_round
          case rel => exact ⟨p + 1, by go_num, by omega, hall2⟩
          case measure => simp [intOf]; omega
      · have e1 : ((c.toNat : Int) != 32) = true := by
          have := beq_no c 32 (fun h => h1 (Or.inl h))
          change (_ == (32 : Int)) = _ at this
          simp only [bne, this]; rfl
        have e2 : ((c.toNat : Int) != 9) = true := by
          have := beq_no c 9 (fun h => h1 (Or.inr (Or.inl h)))
          change (_ == (9 : Int)) = _ at this
          simp only [bne, this]; rfl
        have e3 : ((c.toNat : Int) != 10) = true := by
          have := beq_no c 10 (fun h => h1 (Or.inr (Or.inr h)))
          change (_ == (10 : Int)) = _ at this
          simp only [bne, this]; rfl
        clear h1 hcl hl
        go_wp2_with fail
        go_ret
        exact ⟨⟨false, rfl, fun h => by cases h⟩, rfl⟩
    · obtain rfl : p = s.size := by omega
      have hfin : Hid (AllWs s) := Lib.hid (by have := hall.out; rw [List.take_of_length_le (by rw [← Lib.size_eq]; exact Nat.le_refl _)] at this; exact this)
      go_wp2_with fail
      go_ret
      exact ⟨⟨true, rfl, fun _ => hfin.out⟩, rfl⟩

theorem bytes10 (n : Int) (h : Bool) (a b : ByteArray) (w : World) :
    Calls Tryd.prog 10 #[.int .i64 n, .bool h, .string a, .string b] w fun e w' => Tells (a.size ≤ 1048576 ∧ b.size ≤ 1048576) e ∧ w = w' := by
  by_cases h1 : 1048576 < a.size
  · have f1 : (1048576 : Int) < (a.size : Int) := by omega
    clear h1
    go_enter Tryd.func10, Tryd.ntmps10
    go_wp2_with fail
    go_ret
    exact ⟨⟨false, rfl, fun h => by cases h⟩, rfl⟩
  have f1 : ¬ (1048576 : Int) < (a.size : Int) := by omega
  by_cases h2 : 1048576 < b.size
  · have f2 : (1048576 : Int) < (b.size : Int) := by omega
    clear h1 h2
    go_enter Tryd.func10, Tryd.ntmps10
    go_wp2_with fail
    go_ret
    exact ⟨⟨false, rfl, fun h => by cases h⟩, rfl⟩
  have f2 : ¬ (1048576 : Int) < (b.size : Int) := by omega
  by_cases h3 : 1048576 < a.size + b.size
  · have f3 : (1048576 : Int) < (a.size : Int) + (b.size : Int) := by omega
    clear h1 h2 h3
    go_enter Tryd.func10, Tryd.ntmps10
    go_wp2_with fail
    go_ret
    exact ⟨⟨false, rfl, fun h => by cases h⟩, rfl⟩
  have f3 : ¬ (1048576 : Int) < (a.size : Int) + (b.size : Int) := by omega
  have hf := Lib.hid (show a.size ≤ 1048576 ∧ b.size ≤ 1048576 by omega)
  clear h1 h2 h3
  go_enter Tryd.func10, Tryd.ntmps10
  go_wp2_with fail
  go_ret
  exact ⟨⟨true, rfl, fun _ => hf.out⟩, rfl⟩
theorem cat_list (a b : ByteArray) : (a ++ b).data.toList = a.data.toList ++ b.data.toList := by simp

theorem cat_size (a b : ByteArray) : (a ++ b).size = a.size + b.size := by rw [Lib.size_eq, cat_list, List.length_append, ← Lib.size_eq, ← Lib.size_eq]

theorem hexneg (n : Int) (a b t : ByteArray) (w : World) (hn : -9223372036854775808 ≤ n ∧ n < 0) (ht : Digits 16 n.natAbs t.data.toList) (ha : AllWs a) (hb : AllWs b) (sa : a.size ≤ 1048576) (sb : b.size ≤ 1048576) :
    Calls Tryd.prog 9 #[.iface 26 (.string (a ++ (⟨#[45]⟩ ++ (⟨#[48, 120]⟩ ++ t)) ++ b))] w fun e w' => e = .returned (.float .f64 (floatOfInt .f64 n)) ∧ Below w.heap.size w w' := by
  have tsz : t.size ≤ 64 := by rw [Lib.size_eq]; exact ht.2.2.2.1
  have hsz : (a ++ (⟨#[45]⟩ ++ (⟨#[48, 120]⟩ ++ t)) ++ b).size ≤ 1073741824 := by
    simp only [cat_size]
    have h1 : (⟨#[45]⟩ : ByteArray).size = 1 := rfl
    have h2 : (⟨#[48, 120]⟩ : ByteArray).size = 2 := rfl
    omega
  have hl : (a ++ (⟨#[45]⟩ ++ (⟨#[48, 120]⟩ ++ t)) ++ b).data.toList = a.data.toList ++ (([45] ++ (48 :: 120 :: t.data.toList)) ++ b.data.toList) := by
    simp only [cat_list]
    simp
  generalize (a ++ (⟨#[45]⟩ ++ (⟨#[48, 120]⟩ ++ t)) ++ b) = S at hsz hl
  have hv : val 16 t.data.toList ≤ 9223372036854775808 := by rw [ht.1]; omega
  have hz : (if ([45] : List UInt8) = [45] then -(val 16 t.data.toList : Int) else (val 16 t.data.toList : Int)) = n := by
    rw [if_pos rfl, ht.1]
    omega
  have HP := pn_hex S w hsz a.data.toList b.data.toList [45] t.data.toList hl ha hb (Or.inr rfl) (fun x hx => good_hex (ht.2.1 x hx)) ht.2.2.1 (Or.inr ⟨rfl, hv⟩)
  rw [hz] at HP
  exact lva_ok S (floatOfInt .f64 n) w HP

theorem hexpos (n : Int) (a b t : ByteArray) (w : World) (hn : 0 ≤ n ∧ n ≤ 9223372036854775807) (ht : Digits 16 n.natAbs t.data.toList) (ha : AllWs a) (hb : AllWs b) (sa : a.size ≤ 1048576) (sb : b.size ≤ 1048576) :
    Calls Tryd.prog 9 #[.iface 26 (.string (a ++ (⟨#[48, 120]⟩ ++ t) ++ b))] w fun e w' => e = .returned (.float .f64 (floatOfInt .f64 n)) ∧ Below w.heap.size w w' := by
  have tsz : t.size ≤ 64 := by rw [Lib.size_eq]; exact ht.2.2.2.1
  have hsz : (a ++ (⟨#[48, 120]⟩ ++ t) ++ b).size ≤ 1073741824 := by
    simp only [cat_size]
    have h1 : (⟨#[45]⟩ : ByteArray).size = 1 := rfl
    have h2 : (⟨#[48, 120]⟩ : ByteArray).size = 2 := rfl
    omega
  have hl : (a ++ (⟨#[48, 120]⟩ ++ t) ++ b).data.toList = a.data.toList ++ (([] ++ (48 :: 120 :: t.data.toList)) ++ b.data.toList) := by
    simp only [cat_list]
    simp
  generalize (a ++ (⟨#[48, 120]⟩ ++ t) ++ b) = S at hsz hl
  have hv : val 16 t.data.toList < 9223372036854775808 := by rw [ht.1]; omega
  have hz : (if ([] : List UInt8) = [45] then -(val 16 t.data.toList : Int) else (val 16 t.data.toList : Int)) = n := by
    rw [if_neg (by decide), ht.1]
    omega
  have HP := pn_hex S w hsz a.data.toList b.data.toList [] t.data.toList hl ha hb (Or.inl rfl) (fun x hx => good_hex (ht.2.1 x hx)) ht.2.2.1 (Or.inl hv)
  rw [hz] at HP
  exact lva_ok S (floatOfInt .f64 n) w HP

theorem decneg (n : Int) (a b t : ByteArray) (w : World) (hn : -9223372036854775808 ≤ n ∧ n < 0) (ht : Digits 10 n.natAbs t.data.toList) (ha : AllWs a) (hb : AllWs b) (sa : a.size ≤ 1048576) (sb : b.size ≤ 1048576) :
    Calls Tryd.prog 9 #[.iface 26 (.string (a ++ (⟨#[45]⟩ ++ t) ++ b))] w fun e w' => e = .returned (.float .f64 (floatOfInt .f64 n)) ∧ Below w.heap.size w w' := by
  have tsz : t.size ≤ 64 := by rw [Lib.size_eq]; exact ht.2.2.2.1
  have hsz : (a ++ (⟨#[45]⟩ ++ t) ++ b).size ≤ 1073741824 := by
    simp only [cat_size]
    have h1 : (⟨#[45]⟩ : ByteArray).size = 1 := rfl
    have h2 : (⟨#[48, 120]⟩ : ByteArray).size = 2 := rfl
    omega
  have hl : (a ++ (⟨#[45]⟩ ++ t) ++ b).data.toList = a.data.toList ++ (([45] ++ t.data.toList) ++ b.data.toList) := by
    simp only [cat_list]
    simp
  generalize (a ++ (⟨#[45]⟩ ++ t) ++ b) = S at hsz hl
  have hv : val 10 t.data.toList ≤ 9223372036854775808 := by rw [ht.1]; omega
  have hz : (if ([45] : List UInt8) = [45] then -(val 10 t.data.toList : Int) else (val 10 t.data.toList : Int)) = n := by
    rw [if_pos rfl, ht.1]
    omega
  have HP := pn_run S w hsz a.data.toList b.data.toList [45] t.data.toList hl ha hb (Or.inr (Or.inr rfl)) (fun x hx => good_dec (ht.2.1 x hx)) ht.2.2.1 (Or.inr ⟨rfl, hv⟩) ht.2.2.2.2
  rw [hz] at HP
  exact lva_ok S (floatOfInt .f64 n) w HP

theorem decpos (n : Int) (a b t : ByteArray) (w : World) (hn : 0 ≤ n ∧ n ≤ 9223372036854775807) (ht : Digits 10 n.natAbs t.data.toList) (ha : AllWs a) (hb : AllWs b) (sa : a.size ≤ 1048576) (sb : b.size ≤ 1048576) :
    Calls Tryd.prog 9 #[.iface 26 (.string (a ++ t ++ b))] w fun e w' => e = .returned (.float .f64 (floatOfInt .f64 n)) ∧ Below w.heap.size w w' := by
  have tsz : t.size ≤ 64 := by rw [Lib.size_eq]; exact ht.2.2.2.1
  have hsz : (a ++ t ++ b).size ≤ 1073741824 := by
    simp only [cat_size]
    have h1 : (⟨#[45]⟩ : ByteArray).size = 1 := rfl
    have h2 : (⟨#[48, 120]⟩ : ByteArray).size = 2 := rfl
    omega
  have hl : (a ++ t ++ b).data.toList = a.data.toList ++ (([] ++ t.data.toList) ++ b.data.toList) := by
    simp only [cat_list]
    simp
  generalize (a ++ t ++ b) = S at hsz hl
  have hv : val 10 t.data.toList < 9223372036854775808 := by rw [ht.1]; omega
  have hz : (if ([] : List UInt8) = [45] then -(val 10 t.data.toList : Int) else (val 10 t.data.toList : Int)) = n := by
    rw [if_neg (by decide), ht.1]
    omega
  have HP := pn_run S w hsz a.data.toList b.data.toList [] t.data.toList hl ha hb (Or.inl rfl) (fun x hx => good_dec (ht.2.1 x hx)) ht.2.2.1 (Or.inl hv) ht.2.2.2.2
  rw [hz] at HP
  exact lva_ok S (floatOfInt .f64 n) w HP

theorem signed_main (n : Int) (h : Bool) (a b : ByteArray) (w : World) (n1 : -9223372036854775808 ≤ n) (n2 : n ≤ 9223372036854775807) :
    Calls Tryd.prog 4 #[.int .i64 n, .bool h, .string a, .string b] w fun e w' => e = .returned (.bool true) ∧ Below w.heap.size w w' := by
  have HB := Lib.hid (bytes10 n h a b w)
  have hn := Lib.hid (show -9223372036854775808 ≤ n ∧ n ≤ 9223372036854775807 from ⟨n1, n2⟩)
  go_enter Tryd.func4, Tryd.ntmps4
  go_wp2_with fail
  refine HB.out.mono ?_
  rintro e w' ⟨⟨r, rfl, hr⟩, rfl⟩
  clear HB
  cases r with
  | false =>
    clear hr
    go_wp2_with fail
    go_ret
    exact ⟨rfl, Below.refl _ _⟩
  | true =>
    obtain ⟨s1, s2⟩ := hr rfl
    clear hr
    by_cases l1 : (4096 : Int) < (a.size : Int)
    · go_wp2_with fail
      go_ret
      exact ⟨rfl, Below.refl _ _⟩
    by_cases l2 : (4096 : Int) < (b.size : Int)
    · go_wp2_with fail
      go_ret
      exact ⟨rfl, Below.refl _ _⟩
    have HA := Lib.hid (only_trim a (by omega) w)
    have HC := Lib.hid (only_trim b (by omega) w)
    go_wp2_with fail
    refine HA.out.mono ?_
    rintro e w' ⟨⟨r, rfl, hr⟩, rfl⟩
    clear HA
    cases r with
    | false =>
      clear hr
      go_wp2_with fail
      go_ret
      exact ⟨rfl, Below.refl _ _⟩
    | true =>
      have ha := Lib.hid (hr rfl)
      clear hr
      go_wp2_with fail
      refine HC.out.mono ?_
      rintro e w' ⟨⟨r, rfl, hr⟩, rfl⟩
      clear HC
      cases r with
      | false =>
        clear hr
        go_wp2_with fail
        go_ret
        exact ⟨rfl, Below.refl _ _⟩
      | true =>
        have hb := Lib.hid (hr rfl)
        clear hr
        have HM := Lib.hid (magnitude n n1 n2 w)
        cases h with
        | true =>
          have HD := Lib.hid (digits_16 n.natAbs (by omega) w)
          go_wp2_with fail
          refine HM.out.mono ?_
          rintro e w' ⟨rfl, rfl⟩
          clear HM
          go_wp2_with fail
          refine HD.out.mono ?_
          rintro e w1 ⟨⟨t, rfl, ht⟩, hb1⟩
          have hb1' := Lib.hid hb1
          have tsz : t.size ≤ 64 := by rw [Lib.size_eq]; exact ht.2.2.2.1
          clear hb1 HD
          by_cases hneg : n < 0
          · have hneg' := Lib.hid hneg
            have HL' := Lib.hid (hexneg n a b t w1 (by omega) ht ha.out hb.out s1 s2)
            have fe := FPlain.ofInt_self n
            clear ht
            go_wp2_with fail
            refine HL'.out.mono ?_
            rintro e w2 ⟨rfl, hb2⟩
            have hf := Lib.hid (hb1'.out.trans (hb2.mono hb1'.out.size))
            clear hb2 HL'
            go_wp2_with fail
            go_ret
            exact ⟨rfl, hf.out⟩
          · have hneg' := Lib.hid hneg
            have HL' := Lib.hid (hexpos n a b t w1 (by omega) ht ha.out hb.out s1 s2)
            have fe := FPlain.ofInt_self n
            clear ht
            go_wp2_with fail
            refine HL'.out.mono ?_
            rintro e w2 ⟨rfl, hb2⟩
            have hf := Lib.hid (hb1'.out.trans (hb2.mono hb1'.out.size))
            clear hb2 HL'
            go_wp2_with fail
            go_ret
            exact ⟨rfl, hf.out⟩
        | false =>
          have HD := Lib.hid (digits_10 n.natAbs (by omega) w)
          go_wp2_with fail
          refine HM.out.mono ?_
          rintro e w' ⟨rfl, rfl⟩
          clear HM
          go_wp2_with fail
          refine HD.out.mono ?_
          rintro e w1 ⟨⟨t, rfl, ht⟩, hb1⟩
          have hb1' := Lib.hid hb1
          have tsz : t.size ≤ 64 := by rw [Lib.size_eq]; exact ht.2.2.2.1
          clear hb1 HD
          by_cases hneg : n < 0
          · have hneg' := Lib.hid hneg
            have HL' := Lib.hid (decneg n a b t w1 (by omega) ht ha.out hb.out s1 s2)
            have fe := FPlain.ofInt_self n
            clear ht
            go_wp2_with fail
            refine HL'.out.mono ?_
            rintro e w2 ⟨rfl, hb2⟩
            have hf := Lib.hid (hb1'.out.trans (hb2.mono hb1'.out.size))
            clear hb2 HL'
            go_wp2_with fail
            go_ret
            exact ⟨rfl, hf.out⟩
          · have hneg' := Lib.hid hneg
            have HL' := Lib.hid (decpos n a b t w1 (by omega) ht ha.out hb.out s1 s2)
            have fe := FPlain.ofInt_self n
            clear ht
            go_wp2_with fail
            refine HL'.out.mono ?_
            rintro e w2 ⟨rfl, hb2⟩
            have hf := Lib.hid (hb1'.out.trans (hb2.mono hb1'.out.size))
            clear hb2 HL'
            go_wp2_with fail
            go_ret
            exact ⟨rfl, hf.out⟩

theorem signed_law (n : Int) (h : Bool) (a b : ByteArray) (w : World) (hn : (Lit.int .i64 n).wf = true) (_ : a.size ≤ maxLen) (_ : b.size ≤ maxLen) :
    Calls Tryd.prog 4 #[.int .i64 n, .bool h, .string a, .string b] w fun e w' => e = .returned (.bool true) ∧ Below w.heap.size w w' := by
  have : -9223372036854775808 ≤ n ∧ n ≤ 9223372036854775807 := by
    simp [Lit.wf, IntKind.min, IntKind.max, IntKind.bits, IntKind.signed] at hn
    omega
  exact signed_main n h a b w this.1 this.2
end Go.Proofs.YtjaibjdhfljmmaaDoor
