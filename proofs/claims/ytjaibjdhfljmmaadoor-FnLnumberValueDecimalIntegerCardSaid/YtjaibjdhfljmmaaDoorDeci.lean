/-
  The walk of FnLnumberValueDecimalInteger: for every argument the call returns true and turns nothing that was there.
-/
import Derived.Test.YtjaibjdhfljmmaaDoorDecimal
import Derived.Test.YtjaibjdhfljmmaaDoorNan
import Derived.Test.YtjaibjdhfljmmaaDoorFloat
namespace Go.Proofs.YtjaibjdhfljmmaaDoor
open Go.RowKit
set_option maxRecDepth 100000
set_option maxHeartbeats 1000000

/-- lnumberValue of a number literal whose text parseNumber takes. -/
theorem lv_ok (b : Nat) (s : ByteArray) (f : Nat) (w : World) (hc : w.cell? ⟨b, 2, none⟩ = some (.string s))
    (hP : Calls Tryd.prog 20 #[.string s] w fun e w' => e = .returned (.tuple #[.float .f64 f, .nilIface]) ∧ Below w.heap.size w w') :
    Calls Tryd.prog 21 #[.iface 43 (.pointer (some ⟨b, 0, none⟩))] w fun e w' => e = .returned (.tuple #[.float .f64 f, .bool true]) ∧ Below w.heap.size w w' := by
  have HP := Lib.hid hP
  have a1 := as_num
  clear hP
  go_enter Tryd.func21, Tryd.ntmps21
  go_wp2_with fail
  refine HP.out.mono ?_
  rintro e w1 ⟨rfl, hb⟩
  have hb' := Lib.hid hb
  clear hb HP
  go_wp2_with fail
  go_ret2
  exact ⟨rfl, hb'.out⟩

theorem zz_ok (s : ByteArray) (f : Nat) (w : World) (hP : ∀ W : World, Calls Tryd.prog 20 #[.string s] W fun e w' => e = .returned (.tuple #[.float .f64 f, .nilIface]) ∧ Below W.heap.size W w') :
    Calls Tryd.prog 15 #[.string s] w fun e w' => e = .returned (.tuple #[.float .f64 f, .bool true]) ∧ Below w.heap.size w w' := by
  have HP := Lib.hid hP
  clear hP
  go_enter Tryd.func15, Tryd.ntmps15
  go_wp2_with fail
  have hb := (Below.refl w.heap.size w).alloc (Nat.le_refl _) (.cells #[.int .i64 0, .int .i64 0, .string s] 51)
  refine (lv_ok w.heap.size s f _ ?_ (HP.out _)).mono ?_
  · simp [World.cell?_alloc_new]
  rintro e w1 ⟨rfl, hb1⟩
  have hf := Lib.hid (hb.trans (hb1.mono hb.size))
  clear hb hb1 HP
  go_wp2_with fail
  go_ret2
  exact ⟨rfl, hf.out⟩

theorem bytes17 (s : ByteArray) (w : World) :
    Calls Tryd.prog 17 #[.string s] w fun e w' => e = .returned (.bool (decide (s.size ≤ 1048576))) ∧ w = w' := by
  by_cases h : s.size ≤ 1048576
  · have h2 : ¬ (1048576 : Int) < (s.size : Int) := by omega
    have hd : decide (s.size ≤ 1048576) = true := by simpa using h
    rw [hd]
    clear hd h
    go_enter Tryd.func17, Tryd.ntmps17
    go_wp2
    go_ret
    exact ⟨rfl, rfl⟩
  · have h2 : (1048576 : Int) < (s.size : Int) := by omega
    have hd : decide (s.size ≤ 1048576) = false := by simpa using h
    rw [hd]
    clear hd h
    go_enter Tryd.func17, Tryd.ntmps17
    go_wp2
    go_ret
    exact ⟨rfl, rfl⟩

theorem istrim (c : UInt8) (w : World) : Calls Tryd.prog 18 #[.int .u8 c.toNat] w fun e w' => e = .returned (.bool (ws c)) ∧ w = w' := by
  by_cases h1 : c = 32
  · have e1 : ((c.toNat : Int) == 32) = true := by rw [h1]; rfl
    have hw : ws c = true := by rw [h1]; rfl
    rw [hw]
    clear h1 hw
    go_enter Tryd.func18, Tryd.ntmps18
    go_wp2
    go_ret
    exact ⟨rfl, rfl⟩
  have e1 := beq_no c 32 h1
  change (_ == (32 : Int)) = _ at e1
  by_cases h2 : c = 9
  · have e2 : ((c.toNat : Int) == 9) = true := by rw [h2]; rfl
    have hw : ws c = true := by rw [h2]; rfl
    rw [hw]
    clear h1 h2 hw
    go_enter Tryd.func18, Tryd.ntmps18
    go_wp2
    go_ret
    exact ⟨rfl, rfl⟩
  have e2 := beq_no c 9 h2
  change (_ == (9 : Int)) = _ at e2
  by_cases h3 : c = 10
  · have e3 : ((c.toNat : Int) == 10) = true := by rw [h3]; rfl
    have hw : ws c = true := by rw [h3]; rfl
    rw [hw]
    clear h1 h2 h3 hw
    go_enter Tryd.func18, Tryd.ntmps18
    go_wp2
    go_ret
    exact ⟨rfl, rfl⟩
  have e3 := beq_no c 10 h3
  change (_ == (10 : Int)) = _ at e3
  have hw : ws c = false := by simp [ws, h1, h2, h3]
  rw [hw]
  clear h1 h2 h3 hw
  go_enter Tryd.func18, Tryd.ntmps18
  go_wp2
  go_ret
  exact ⟨rfl, rfl⟩

theorem take_get {l : List UInt8} {k : Nat} (h : k < l.length) : l.take (k + 1) = l.take k ++ [l[k]] := List.take_succ_eq_append_getElem h
theorem drop_get {l : List UInt8} {k : Nat} (h : k < l.length) : l.drop k = l[k] :: l.drop (k + 1) := List.drop_eq_getElem_cons h

/-- What stands between p and r is a sign or nothing; n tells a minus. -/
def Sgn (n : Bool) (s : ByteArray) (p r : Nat) : Prop := ∃ sg : List UInt8, (sg = [] ∨ sg = [43] ∨ sg = [45]) ∧ (n = true ↔ sg = [45]) ∧ s.data.toList.take r = s.data.toList.take p ++ sg

theorem deci_main (s : ByteArray) (w : World) (hsz : s.size ≤ 1048576) :
    Calls Tryd.prog 6 #[.string s] w fun e w' => e = .returned (.bool true) ∧ Below w.heap.size w w' := by
  have HB := Lib.hid (bytes17 s w)
  have hd : decide (s.size ≤ 1048576) = true := by simpa using hsz
  rw [hd] at HB
  have hs2 : ¬ (1048576 : Int) < (s.size : Int) := by omega
  clear hd
  go_enter Tryd.func6, Tryd.ntmps6
  go_upto_block 0 with (go_at_call 17; refine HB.out.mono ?_; rintro e w' ⟨rfl, rfl⟩)
  clear HB
  go_cut [3] (fun i wx => ∃ p : Nat, i = .int .i64 p ∧ p ≤ s.size ∧ Hid (w = wx) ∧ Hid (∀ x ∈ s.data.toList.take p, ws x = true))
  case first =>
    go_wp2_with fail
    go_loop [3] (fun i => ∃ p : Nat, i = .int .i64 p ∧ p ≤ s.size ∧ Hid (∀ x ∈ s.data.toList.take p, ws x = true)) (fun i => s.size - (intOf i).toNat)
    case atStart => exact ⟨0, rfl, by omega, Lib.hid (by simp)⟩
    case round =>
      obtain ⟨p, rfl, hp, hall⟩ := hrel
      by_cases hlt : p < s.size
      · obtain ⟨c, hc⟩ : ∃ c, s[p] = c := ⟨_, rfl⟩
        have HT := Lib.hid (fun W : World => istrim c W)
        have hl : p < s.data.toList.length := by rw [← Lib.size_eq]; exact hlt
        have hcl : s.data.toList[p] = c := hc
        by_cases hws : ws c = true
        · rw [hws] at HT
          have hall2 : Hid (∀ x ∈ s.data.toList.take (p + 1), ws x = true) := Lib.hid (by
            intro x hx
            rw [take_get hl, hcl] at hx
            rcases List.mem_append.1 hx with hx | hx
            · exact hall.out x hx
            · simp at hx; rw [hx]; exact hws)
          clear hws hcl hl
          go_wp2_with (go_at_call 18; refine (HT.out _).mono ?_; rintro e w' ⟨rfl, rfl⟩)
          go_round
          case rel => exact ⟨p + 1, by go_num, by omega, hall2⟩
          case measure => simp [intOf]; omega
        · have hws' : ws c = false := by simpa using hws
          rw [hws'] at HT
          clear hws hws' hcl hl
          go_wp2_with (go_at_call 18; refine (HT.out _).mono ?_; rintro e w' ⟨rfl, rfl⟩)
          go_meet
          case rel => exact ⟨p, rfl, hp, Lib.hid rfl, hall⟩
      · obtain rfl : p = s.size := by omega
        go_wp2_with fail
        go_meet
        case rel => exact ⟨_, rfl, hp, Lib.hid rfl, hall⟩
  case rest =>
    obtain ⟨p, rfl, hp, hw, hpre⟩ := hcut
    have hw' := hw.out
    subst hw'
    clear hw
    go_upto_block 2 with fail
    go_cut [4] (fun j wx => ∃ q : Nat, j = .int .i64 q ∧ p ≤ q ∧ q ≤ s.size ∧ Hid (w = wx) ∧ Hid (∀ x ∈ s.data.toList.drop q, ws x = true))
    case first =>
      go_wp2_with fail
      go_loop [4] (fun j => ∃ q : Nat, j = .int .i64 q ∧ p ≤ q ∧ q ≤ s.size ∧ Hid (∀ x ∈ s.data.toList.drop q, ws x = true)) (fun j => (intOf j).toNat)
      case atStart => exact ⟨s.size, rfl, hp, by omega, Lib.hid (by rw [List.drop_eq_nil_of_le (by rw [← Lib.size_eq]; exact Nat.le_refl _)]; simp)⟩
      case round =>
        obtain ⟨q, rfl, hpq, hq, hall⟩ := hrel
        by_cases hlt : p < q
        · obtain ⟨r, rfl⟩ : ∃ r, q = r + 1 := ⟨q - 1, by omega⟩
          have hr : r < s.size := by omega
          obtain ⟨c, hc⟩ : ∃ c, s[r] = c := ⟨_, rfl⟩
          have HT := Lib.hid (fun W : World => istrim c W)
          have hl : r < s.data.toList.length := by rw [← Lib.size_eq]; exact hr
          have hcl : s.data.toList[r] = c := hc
          have hlt' : (p : Int) < (r : Int) + 1 := by omega
          by_cases hws : ws c = true
          · rw [hws] at HT
            have hall2 : Hid (∀ x ∈ s.data.toList.drop r, ws x = true) := Lib.hid (by
              intro x hx
              rw [drop_get hl, hcl] at hx
              rcases List.mem_cons.1 hx with hx | hx
              · rw [hx]; exact hws
              · exact hall.out x hx)
            clear hws hcl hl hlt
            go_wp2_with (go_at_call 18; refine (HT.out _).mono ?_; rintro e w' ⟨rfl, rfl⟩)
            go_round
            case rel => exact ⟨r, by go_num, by omega, by omega, hall2⟩
            case measure => simp [intOf]
          · have hws' : ws c = false := by simpa using hws
            rw [hws'] at HT
            clear hws hws' hcl hl hlt
            go_wp2_with (go_at_call 18; refine (HT.out _).mono ?_; rintro e w' ⟨rfl, rfl⟩)
            go_meet
            case rel => exact ⟨r + 1, rfl, hpq, hq, Lib.hid rfl, hall⟩
        · have hlt' : ¬ (p : Int) < (q : Int) := by omega
          go_wp2_with fail
          go_meet
          case rel => exact ⟨q, rfl, hpq, hq, Lib.hid rfl, hall⟩
    case rest =>
      obtain ⟨q, rfl, hpq, hq, hw, hpost⟩ := hcut
      have hw' := hw.out
      subst hw'
      clear hw
      go_upto_region 12 with fail
      go_cut [56] (fun t wx => ∃ b : Bool, t = .bool b ∧ Hid (w = wx) ∧ Hid (b = true → p < q ∧ ∀ h : p < s.size, s[p] = 45 ∨ s[p] = 43))
      case first =>
        by_cases hlt : p < q
        · have hlt' : (p : Int) < (q : Int) := by omega
          have hps : p < s.size := by omega
          by_cases h45 : s[p] = 45
          · have e1 : (((s[p]).toNat : Int) == 45) = true := by rw [h45]; rfl
            have hf : Hid (p < q ∧ ∀ h : p < s.size, s[p] = 45 ∨ s[p] = 43) := Lib.hid ⟨hlt, fun _ => Or.inl h45⟩
            clear h45 hlt
            go_wp2_with fail
            go_meet
            case rel => exact ⟨true, rfl, Lib.hid rfl, Lib.hid (fun _ => hf.out)⟩
          · by_cases h43 : s[p] = 43
            · have e1 : (((s[p]).toNat : Int) == 45) = false := by rw [h43]; rfl
              have e2 : (((s[p]).toNat : Int) == 43) = true := by rw [h43]; rfl
              have hf : Hid (p < q ∧ ∀ h : p < s.size, s[p] = 45 ∨ s[p] = 43) := Lib.hid ⟨hlt, fun _ => Or.inr h43⟩
              clear h43 h45 hlt
              go_wp2_with fail
              go_meet
              case rel => exact ⟨true, rfl, Lib.hid rfl, Lib.hid (fun _ => hf.out)⟩
            · have e1 := beq_no s[p] 45 h45
              have e2 := beq_no s[p] 43 h43
              change (_ == (45 : Int)) = _ at e1
              change (_ == (43 : Int)) = _ at e2
              clear h43 h45 hlt
              go_wp2_with fail
              go_meet
              case rel => exact ⟨false, rfl, Lib.hid rfl, Lib.hid (fun h => by cases h)⟩
        · have hlt' : ¬ (p : Int) < (q : Int) := by omega
          clear hlt
          go_wp2_with fail
          go_meet
          case rel => exact ⟨false, rfl, Lib.hid rfl, Lib.hid (fun h => by cases h)⟩
      case rest =>
        obtain ⟨b, rfl, hw, hb⟩ := hcut
        have hw' := hw.out
        subst hw'
        clear hw
        go_upto_if 56 with fail
        go_cut [3, 5] (fun i ng wx => ∃ (n : Bool) (r : Nat), ng = .bool n ∧ i = .int .i64 r ∧ r ≤ q ∧ Hid (w = wx) ∧ Hid (Sgn n s p r))
        case first =>
          cases b with
          | false =>
            go_wp2_with fail
            go_meet
            case rel => exact ⟨false, p, rfl, rfl, hpq, Lib.hid rfl, Lib.hid ⟨[], Or.inl rfl, by simp, by simp⟩⟩
          | true =>
            obtain ⟨hlt, hor⟩ := hb.out rfl
            have hps : p < s.size := by omega
            have hor := hor hps
            have hl : p < s.data.toList.length := by rw [← Lib.size_eq]; exact hps
            have htk := Lib.hid (take_get hl)
            have hcl : s.data.toList[p] = s[p] := rfl
            clear hb
            rcases hor with h | h
            · have e1 : (((s[p]).toNat : Int) == 45) = true := by rw [h]; rfl
              have hf : Hid (Sgn true s p (p + 1)) := Lib.hid ⟨[45], Or.inr (Or.inr rfl), by simp, by rw [htk.out, hcl, h]⟩
              clear h hcl
              go_wp2_with fail
              go_meet
              case rel => exact ⟨true, p + 1, rfl, by go_num, by omega, Lib.hid rfl, hf⟩
            · have e1 : (((s[p]).toNat : Int) == 45) = false := by rw [h]; rfl
              have hf : Hid (Sgn false s p (p + 1)) := Lib.hid ⟨[43], Or.inr (Or.inl rfl), by simp, by rw [htk.out, hcl, h]⟩
              clear h hcl
              go_wp2_with fail
              go_meet
              case rel => exact ⟨false, p + 1, rfl, by go_num, by omega, Lib.hid rfl, hf⟩
        case rest =>
          obtain ⟨n, r, rfl, rfl, hrq, hw, hsg⟩ := hcut
          have hw' := hw.out
          subst hw'
          clear hw hb
          by_cases hl1 : q < r + 1
          · have f1 : (q : Int) - (r : Int) < 1 := by omega
            go_wp2_with fail
            go_ret
            exact ⟨rfl, Below.refl _ _⟩
          have f1 : ¬ (q : Int) - (r : Int) < 1 := by omega
          by_cases hl2 : r + 18 < q
          · have f2 : (18 : Int) < (q : Int) - (r : Int) := by omega
            go_wp2_with fail
            go_ret
            exact ⟨rfl, Below.refl _ _⟩
          have f2 : ¬ (18 : Int) < (q : Int) - (r : Int) := by omega
          have hrs : r < s.size := by omega
          by_cases hz : s[r] = 48 ∧ r + 1 < q
          · have e1 : (((s[r]).toNat : Int) == 48) = true := by rw [hz.1]; rfl
            have f3 : (1 : Int) < (q : Int) - (r : Int) := by omega
            clear hz
            go_wp2_with fail
            go_ret
            exact ⟨rfl, Below.refl _ _⟩
          have hz' := Lib.hid hz
          go_upto_region 17 with fail
          go_cut [82] (fun t wx => t = .bool false ∧ Hid (w = wx))
          case first =>
            by_cases h48 : s[r] = 48
            · have e1 : (((s[r]).toNat : Int) == 48) = true := by rw [h48]; rfl
              have f3 : ¬ (1 : Int) < (q : Int) - (r : Int) := by
                intro h
                exact hz ⟨h48, by omega⟩
              clear h48 hz
              go_wp2_with fail
              go_meet
              case rel => exact ⟨rfl, Lib.hid rfl⟩
            · have e1 := beq_no s[r] 48 h48
              change (_ == (48 : Int)) = _ at e1
              clear h48 hz
              go_wp2_with fail
              go_meet
              case rel => exact ⟨rfl, Lib.hid rfl⟩
          case rest =>
            obtain ⟨rfl, hw⟩ := hcut
            have hw' := hw.out
            subst hw'
            clear hw hz f1 f2
            go_wp2_with fail
            go_loop [6, 7] (fun m i => ∃ (k : Nat) (a : Int), m = .int .i64 a ∧ i = .int .i64 k ∧ r ≤ k ∧ k ≤ q ∧ Hid (a = (val 10 ((s.data.toList.drop r).take (k - r)) : Nat) ∧ ∀ x ∈ (s.data.toList.drop r).take (k - r), Dec x)) (fun _ i => q - (intOf i).toNat)
            case atStart => exact ⟨r, 0, rfl, rfl, Nat.le_refl _, hrq, Lib.hid ⟨by simp [val], by simp⟩⟩
            case round =>
              obtain ⟨k, a, rfl, rfl, hrk, hkq, hh⟩ := hrel
              have hk18 : k - r ≤ 18 := by omega
              have hvl := val_lt _ hh.out.2
              have hlen : ((s.data.toList.drop r).take (k - r)).length = k - r := by
                rw [List.length_take, List.length_drop, ← Lib.size_eq]; omega
              rw [hlen] at hvl
              have hp18 : 10 ^ (k - r) ≤ 10 ^ 18 := Nat.pow_le_pow_right (by decide) hk18
              have ha := hh.out.1
              have a0 : 0 ≤ a := by omega
              by_cases hlt : k < q
              · have hks : k < s.size := by omega
                obtain ⟨c, hc⟩ : ∃ c, s[k] = c := ⟨_, rfl⟩
                have hc256 : c.toNat < 256 := c.toNat_lt
                have hp17 : 10 ^ (k - r) ≤ 10 ^ 17 := Nat.pow_le_pow_right (by decide) (by omega)
                have a1 : a < 100000000000000000 := by omega
                by_cases hlo : c.toNat < 48
                · have f1 : (c.toNat : Int) < 48 := by omega
                  clear hvl hp18 hp17 hlo ha
                  go_wp2_with fail
                  go_ret
                  exact ⟨rfl, Below.refl _ _⟩
                have f1 : ¬ (c.toNat : Int) < 48 := by omega
                by_cases hhi : 57 < c.toNat
                · have f2 : (57 : Int) < (c.toNat : Int) := by omega
                  clear hvl hp18 hp17 hlo hhi ha
                  go_wp2_with fail
                  go_ret
                  exact ⟨rfl, Below.refl _ _⟩
                have f2 : ¬ (57 : Int) < (c.toNat : Int) := by omega
                have hdc : Dec c := ⟨by omega, by omega⟩
                have hdv : dv c = c.toNat - 48 := by unfold dv; rw [if_pos hdc.2]
                have hnext : Hid (a * 10 + ((c.toNat : Int) - 48) = (val 10 ((s.data.toList.drop r).take (k + 1 - r)) : Nat) ∧ ∀ x ∈ (s.data.toList.drop r).take (k + 1 - r), Dec x) := Lib.hid (by
                  have hl : k - r < (s.data.toList.drop r).length := by rw [List.length_drop, ← Lib.size_eq]; omega
                  have hg : (s.data.toList.drop r)[k - r] = c := by
                    rw [List.getElem_drop]
                    have : s.data.toList[r + (k - r)]'(by rw [← Lib.size_eq]; omega) = s.data.toList[k]'(by rw [← Lib.size_eq]; omega) := by congr 1; omega
                    rw [this]
                    exact hc
                  rw [show k + 1 - r = (k - r) + 1 by omega, take_get hl, hg, val_snoc, hdv]
                  refine ⟨by omega, fun x hx => ?_⟩
                  rcases List.mem_append.1 hx with hx | hx
                  · exact hh.out.2 x hx
                  · simp at hx; rw [hx]; exact hdc)
                have h48 : (48 : Int) ≤ (c.toNat : Int) := by omega
                have h57 : (c.toNat : Int) ≤ 57 := by omega
                clear hvl hp18 hp17 hlo hhi ha hdv hdc hlen
                go_wp2_with fail
                refine ⟨⟨k + 1, a * 10 + ((c.toNat : Int) - 48), (by first | rfl | (congr 1; omega)), (by first | rfl | (congr 1; omega)), by omega, by omega, hnext⟩, by simp [intOf]; omega⟩
              · obtain rfl : k = q := by omega
                obtain ⟨sg, hsg1, hsg2, hsg3⟩ := hsg.out
                have hD1 : 1 ≤ ((s.data.toList.drop r).take (k - r)).length := by rw [hlen]; omega
                have hsplit : s.data.toList = s.data.toList.take p ++ ((sg ++ (s.data.toList.drop r).take (k - r)) ++ s.data.toList.drop k) := by
                  have e1 : s.data.toList.drop k = (s.data.toList.drop r).drop (k - r) := by rw [List.drop_drop, show r + (k - r) = k by omega]
                  rw [e1, List.append_assoc, List.take_append_drop, ← List.append_assoc, ← hsg3, List.take_append_drop]
                have hD0 : (s.data.toList.drop r).take (k - r) = [48] ∨ ¬ ((s.data.toList.drop r).take (k - r)).head? = some 48 := by
                  by_cases h1 : k = r + 1
                  · by_cases h48 : s[r] = 48
                    · left
                      rw [show k - r = 1 by omega, drop_get (by rw [← Lib.size_eq]; exact hrs)]
                      have : s.data.toList[r]'(by rw [← Lib.size_eq]; exact hrs) = 48 := h48
                      simp [this]
                    · right
                      rw [show k - r = 0 + 1 by omega, drop_get (by rw [← Lib.size_eq]; exact hrs)]
                      intro e
                      simp at e
                      exact h48 e
                  · right
                    rw [show k - r = (k - r - 1) + 1 by omega, drop_get (by rw [← Lib.size_eq]; exact hrs)]
                    intro e
                    simp at e
                    exact hz'.out ⟨e, by omega⟩
                have hv18 : val 10 ((s.data.toList.drop r).take (k - r)) < 9223372036854775808 := by omega
                have HP := fun W : World => pn_run s W (by omega) (s.data.toList.take p) (s.data.toList.drop k) sg _ hsplit hpre.out hpost.out hsg1 hh.out.2 hD1 (Or.inl hv18) hD0
                rw [← ha] at HP
                have a1 : a < 9223372036854775808 := by omega
                clear hvl hp18 ha hlen hD1 hsplit hD0 hv18 hsg1 hsg3
                cases n with
                | true =>
                  rw [if_pos (hsg2.1 rfl)] at HP
                  have HZ := Lib.hid (zz_ok s _ w HP)
                  have fe := FPlain.ofInt_self (-a)
                  clear HP hsg2
                  go_wp2_with fail
                  refine HZ.out.mono ?_
                  rintro e w1 ⟨rfl, hb1⟩
                  have hb1' := Lib.hid hb1
                  clear hb1 HZ
                  go_wp2_with fail
                  go_ret
                  exact ⟨rfl, hb1'.out⟩
                | false =>
                  rw [if_neg (fun h => by have := hsg2.2 h; cases this)] at HP
                  have HZ := Lib.hid (zz_ok s _ w HP)
                  have fe := FPlain.ofInt_self a
                  clear HP hsg2
                  go_wp2_with fail
                  refine HZ.out.mono ?_
                  rintro e w1 ⟨rfl, hb1⟩
                  have hb1' := Lib.hid hb1
                  clear hb1 HZ
                  go_wp2_with fail
                  go_ret
                  exact ⟨rfl, hb1'.out⟩

theorem deci_law (s : ByteArray) (w : World) (_ : s.size ≤ maxLen) :
    Calls Tryd.prog 6 #[.string s] w fun e w' => e = .returned (.bool true) ∧ Below w.heap.size w w' := by
  by_cases hsz : s.size ≤ 1048576
  · exact deci_main s w hsz
  · have HB := Lib.hid (bytes17 s w)
    have hd : decide (s.size ≤ 1048576) = false := by simpa using hsz
    rw [hd] at HB
    clear hd hsz
    go_enter Tryd.func6, Tryd.ntmps6
    go_wp2_with (go_at_call 17; refine HB.out.mono ?_; rintro e w' ⟨rfl, rfl⟩)
    go_ret
    exact ⟨rfl, Below.refl _ _⟩
end Go.Proofs.YtjaibjdhfljmmaaDoor
