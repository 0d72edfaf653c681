/-
  internal/strconv's special: which texts it takes for inf and nan.
-/
import Derived.Test.YtjaibjdhfljmmaaDoorInt
import Derived.Laws.Externs
namespace Go.Proofs.YtjaibjdhfljmmaaDoor
open Go.RowKit
set_option maxRecDepth 100000
set_option maxHeartbeats 1000000

theorem fb57 (n : Int) (w : World) : (callFunc 57 #[.int .u64 n]).run Tryd.prog w = .ok (.value (.float .f64 n.toNat)) w := by kernel_rfl
theorem fb31 (n : Int) (w : World) : (callFunc 31 #[.int .u64 n]).run Tryd.prog w = .ok (.value (.float .f64 n.toNat)) w := by kernel_rfl
attribute [local go_sem] fb57 fb31

theorem nan_any (w : World) : Calls Tryd.prog 63 #[] w fun e w' => (∃ f, e = .returned (.float .f64 f)) ∧ w = w' := by
  go_enter Tryd.func63, Tryd.ntmps63
  go_wp2
  go_ret
  exact ⟨⟨_, rfl⟩, rfl⟩

theorem inf_any (k : Int) (w : World) : Calls Tryd.prog 62 #[.int .i64 k] w fun e w' => (∃ f, e = .returned (.float .f64 f)) ∧ w = w' := by
  go_enter Tryd.func62, Tryd.ntmps62
  go_wp2
  all_goals (go_ret; exact ⟨⟨_, rfl⟩, rfl⟩)

theorem mathnan (w : World) : Calls Tryd.prog 25 #[] w fun e w' => (e = .returned (.float .f64 9221120237041090561)) ∧ w = w' := by
  go_enter Tryd.func25, Tryd.ntmps25
  go_wp2
  go_ret
  exact ⟨rfl, rfl⟩

def lowc (c : Int) : Int := if 65 ≤ c ∧ c ≤ 90 then c + 32 else c

/-- commonPrefixLenIgnoreCase: at a place within what it tells, the text's byte is the pattern's, but for the case. -/
theorem cpl_any (s p : ByteArray) (hs : s.size ≤ 1073741824) (_ : p.size ≤ 100) (w : World) :
    Calls Tryd.prog 61 #[.string s, .string p] w fun e w' => (∃ n : Nat, e = .returned (.int .i64 n) ∧ n ≤ s.size ∧ n ≤ p.size ∧ ∀ i (h1 : i < s.size) (h2 : i < p.size), i < n → lowc s[i].toNat = p[i].toNat) ∧ w = w' := by
  obtain ⟨m, hm, hm1, hm2⟩ : ∃ m : Nat, min (p.size : Int) (s.size : Int) = (m : Int) ∧ m ≤ p.size ∧ m ≤ s.size := ⟨min p.size s.size, by omega, by omega, by omega⟩
  go_enter Tryd.func61, Tryd.ntmps61
  go_wp2
  go_loop [6, 7] (fun i _ => ∃ k : Nat, k ≤ m ∧ i = .int .i64 k ∧ Hid (∀ i (h1 : i < s.size) (h2 : i < p.size), i < k → lowc s[i].toNat = p[i].toNat)) (fun i _ => m - (intOf i).toNat)
  case atStart => exact ⟨0, Nat.zero_le _, rfl, Lib.hid (fun i _ _ h => absurd h (by omega))⟩
  case round =>
    obtain ⟨k, hk, rfl, hall⟩ := hrel
    by_cases hlt : k < m
    · have hks : k < s.size := by omega
      have hkp : k < p.size := by omega
      obtain ⟨c, hc⟩ : ∃ c : Nat, s[k].toNat = c := ⟨_, rfl⟩
      obtain ⟨d, hd⟩ : ∃ d : Nat, p[k].toNat = d := ⟨_, rfl⟩
      have hc256 : c < 256 := by rw [← hc]; exact s[k].toNat_lt
      have hnext : lowc (c : Int) = (d : Int) → Hid (∀ i (h1 : i < s.size) (h2 : i < p.size), i < k + 1 → lowc s[i].toNat = p[i].toNat) := fun he => Lib.hid (fun i h1 h2 hi => by
        by_cases e : i = k
        · subst e; rw [hc, hd]; exact he
        · exact hall.out i h1 h2 (by omega))
      by_cases h65 : 65 ≤ c
      · have h65' : (65 : Int) ≤ (c : Int) := by omega
        by_cases h90 : c ≤ 90
        · have h90' : (c : Int) ≤ 90 := by omega
          have hl : lowc (c : Int) = (c : Int) + 32 := by unfold lowc; rw [if_pos ⟨h65', h90'⟩]
          rw [hl] at hnext
          by_cases he : (c : Int) + 32 = d
          · have hn := hnext he
            have he' : (((c : Int) + 32) != (d : Int)) = false := by simpa using he
            clear hnext he hl
            go_wp2
            go_round
            case rel => exact ⟨k + 1, by omega, by go_num, hn⟩
            case measure => simp [intOf]; omega
          · have he' : (((c : Int) + 32) != (d : Int)) = true := by simpa using he
            clear hnext he hl
            go_wp2
            go_ret
            exact ⟨⟨k, rfl, by omega, by omega, hall.out⟩, rfl⟩
        · have h90' : ¬ (c : Int) ≤ 90 := by omega
          have hl : lowc (c : Int) = (c : Int) := by unfold lowc; rw [if_neg (by omega)]
          rw [hl] at hnext
          by_cases he : (c : Int) = d
          · have hn := hnext he
            have he' : ((c : Int) != (d : Int)) = false := by simpa using he
            clear hnext he hl
            go_wp2
            go_round
            case rel => exact ⟨k + 1, by omega, by go_num, hn⟩
            case measure => simp [intOf]; omega
          · have he' : ((c : Int) != (d : Int)) = true := by simpa using he
            clear hnext he hl
            go_wp2
            go_ret
            exact ⟨⟨k, rfl, by omega, by omega, hall.out⟩, rfl⟩
      · have h65' : ¬ (65 : Int) ≤ (c : Int) := by omega
        have hl : lowc (c : Int) = (c : Int) := by unfold lowc; rw [if_neg (by omega)]
        rw [hl] at hnext
        by_cases he : (c : Int) = d
        · have hn := hnext he
          have he' : ((c : Int) != (d : Int)) = false := by simpa using he
          clear hnext he hl
          go_wp2
          go_round
          case rel => exact ⟨k + 1, by omega, by go_num, hn⟩
          case measure => simp [intOf]; omega
        · have he' : ((c : Int) != (d : Int)) = true := by simpa using he
          clear hnext he hl
          go_wp2
          go_ret
          exact ⟨⟨k, rfl, by omega, by omega, hall.out⟩, rfl⟩
    · obtain rfl : k = m := by omega
      go_wp2
      go_ret
      exact ⟨⟨k, rfl, by omega, by omega, hall.out⟩, rfl⟩

abbrev INF : ByteArray := ⟨#[105, 110, 102, 105, 110, 105, 116, 121]⟩
abbrev NAN : ByteArray := ⟨#[110, 97, 110]⟩

def Letter (x : UInt8) : Prop := x = 43 ∨ x = 45 ∨ lowc x.toNat = 105 ∨ lowc x.toNat = 110 ∨ lowc x.toNat = 102 ∨ lowc x.toNat = 116 ∨ lowc x.toNat = 121 ∨ lowc x.toNat = 97

theorem inf_letters (u : ByteArray) (n : Nat) (h : ∀ i (h1 : i < u.size) (h2 : i < INF.size), i < n → lowc u[i].toNat = INF[i].toNat) : ∀ i (h1 : i < u.size), i < 8 → i < n → Letter u[i] := by
  intro i h1 h2 h3
  have := h i h1 h2 h3
  rcases (by omega : i = 0 ∨ i = 1 ∨ i = 2 ∨ i = 3 ∨ i = 4 ∨ i = 5 ∨ i = 6 ∨ i = 7) with rfl | rfl | rfl | rfl | rfl | rfl | rfl | rfl
  · exact Or.inr (Or.inr (Or.inl this))
  · exact Or.inr (Or.inr (Or.inr (Or.inl this)))
  · exact Or.inr (Or.inr (Or.inr (Or.inr (Or.inl this))))
  · exact Or.inr (Or.inr (Or.inl this))
  · exact Or.inr (Or.inr (Or.inr (Or.inl this)))
  · exact Or.inr (Or.inr (Or.inl this))
  · exact Or.inr (Or.inr (Or.inr (Or.inr (Or.inr (Or.inl this)))))
  · exact Or.inr (Or.inr (Or.inr (Or.inr (Or.inr (Or.inr (Or.inl this))))))

theorem nan_letters (u : ByteArray) (n : Nat) (h : ∀ i (h1 : i < u.size) (h2 : i < NAN.size), i < n → lowc u[i].toNat = NAN[i].toNat) : ∀ i (h1 : i < u.size), i < 3 → i < n → Letter u[i] := by
  intro i h1 h2 h3
  have := h i h1 h2 h3
  rcases (by omega : i = 0 ∨ i = 1 ∨ i = 2) with rfl | rfl | rfl
  · exact Or.inr (Or.inr (Or.inr (Or.inl this)))
  · exact Or.inr (Or.inr (Or.inr (Or.inr (Or.inr (Or.inr (Or.inr this))))))
  · exact Or.inr (Or.inr (Or.inr (Or.inl this)))

theorem lowc_i (x : UInt8) (h : lowc x.toNat = 105) : x = 105 ∨ x = 73 := by
  unfold lowc at h
  split at h
  · exact Or.inr (by rw [← UInt8.toNat_inj]; exact (by omega : x.toNat = 73))
  · exact Or.inl (by rw [← UInt8.toNat_inj]; exact (by omega : x.toNat = 105))

/-- special, whatever the text: where it takes it, one of its letters is i, I, n or N, and all that it takes are letters of these words. -/
def Special (s : ByteArray) (e : Ending) : Prop := ∃ (f : Nat) (n : Nat) (ok : Bool), e = .returned (.tuple #[.float .f64 f, .int .i64 n, .bool ok]) ∧
  (ok = true → n ≤ s.size ∧ (∃ x ∈ s.data.toList, x = 105 ∨ x = 73 ∨ x = 110 ∨ x = 78) ∧ ∀ i (h : i < s.size), i < n → Letter s[i])

theorem beq_u8 (x : UInt8) (k : Nat) (hk : k < 256) : (((x.toNat : Int)) == (k : Int)) = decide (x = UInt8.ofNat k) := by
  rw [Bool.eq_iff_iff]
  simp [← UInt8.toNat_inj]
  omega

theorem special_plus (s : ByteArray) (hs : s.size ≤ 1073741824) (hne : 0 < s.size) (sg : s[0] = 43 ∨ s[0] = 45) (w : World) :
    Calls Tryd.prog 47 #[.string s] w fun e w' => Special s e ∧ w = w' := by
  have hsl := slice_one s hne
  have hex : Hid ((s.extract 1 s.size).data.toList = s.data.toList.drop 1) := Lib.hid (by rw [Lib.extract_data, List.take_of_length_le (by simp)])
  have hsz : (s.extract 1 s.size).size = s.size - 1 := by rw [Lib.size_eq, hex.out, List.length_drop, ← Lib.size_eq]
  have HC := Lib.hid (cpl_any (s.extract 1 s.size) INF (by omega) (by decide) w)
  have hgu : Hid (∀ i (h : i < (s.extract 1 s.size).size) (h2 : i + 1 < s.size), (s.extract 1 s.size)[i] = s[i + 1]) := Lib.hid (by
    intro i h h2
    have e := congrArg (fun l => l[i]?) hex.out
    simp only [List.getElem?_drop] at e
    have h1' : i < (s.extract 1 s.size).data.toList.length := by rw [← Lib.size_eq]; exact h
    have h2' : 1 + i < s.data.toList.length := by rw [← Lib.size_eq]; omega
    rw [List.getElem?_eq_getElem h1', List.getElem?_eq_getElem h2'] at e
    have e := Option.some.inj e
    have e3 : s.data.toList[1 + i] = s.data.toList[i + 1]'(by omega) := by congr 1; omega
    exact e.trans e3)
  generalize s.extract 1 s.size = u at hsl HC hgu hex hsz
  have hsz' := Lib.hid hsz
  have hout : Hid (∀ n : Nat, n ≤ u.size → n = 3 ∨ n = 8 → (∀ i (h1 : i < u.size), i < n → Letter u[i]) → (0 < u.size → ∃ h : 0 < u.size, lowc u[0].toNat = 105) → 1 + n ≤ s.size ∧ (∃ x ∈ s.data.toList, x = 105 ∨ x = 73 ∨ x = 110 ∨ x = 78) ∧ ∀ i (h : i < s.size), i < 1 + n → Letter s[i]) := Lib.hid (by
    intro n hn hn3 hl h105
    have hsz := hsz'.out
    refine ⟨by omega, ?_, fun i h hi => ?_⟩
    · obtain ⟨h0, h105⟩ := h105 (by omega)
      have hu := hgu.out 0 h0 (by omega)
      rw [hu] at h105
      refine ⟨s[1], ?_, ?_⟩
      · have : s[1] = s.data.toList[1]'(by rw [← Lib.size_eq]; omega) := rfl
        rw [this]; exact List.getElem_mem _
      · rcases lowc_i _ h105 with h | h
        · exact Or.inl h
        · exact Or.inr (Or.inl h)
    · cases i with
      | zero => rcases sg with h | h
                · exact Or.inl h
                · exact Or.inr (Or.inl h)
      | succ i =>
        have := hl i (by omega) (by omega)
        rw [hgu.out i (by omega) h] at this
        exact this)
  clear hsz hex hgu
  have hemp := nonempty_of hne
  rcases sg with sg | sg
  · have q1 : (((s[0]).toNat : Int) == 43) = true := by rw [sg]; rfl
    have q2 : (((s[0]).toNat : Int) == 45) = false := by rw [sg]; rfl
    clear sg
    go_enter Tryd.func47, Tryd.ntmps47
    go_wp2_with fail
    refine HC.out.mono ?_
    rintro e w' ⟨⟨n, rfl, h1, h2, h3⟩, rfl⟩
    have hl := Lib.hid (inf_letters u n h3)
    have h105 : Hid (2 < n → 0 < u.size → ∃ h : 0 < u.size, lowc u[0].toNat = 105) := Lib.hid (fun hn h0 => ⟨h0, h3 0 h0 (by decide) (by omega)⟩)
    have h8 : n ≤ 8 := h2
    clear h3 h2 HC
    by_cases n3 : n = 3
    · subst n3
      have hfin := Lib.hid (hout.out 3 h1 (Or.inl rfl) (fun i h hi => hl.out i h (by omega) hi) (h105.out (by omega)))
      clear hl h105 hout
      go_wp2_with (go_at_call 62; refine (inf_any _ _).mono ?_; rintro e w' ⟨⟨f, rfl⟩, rfl⟩)
      go_ret3
      exact ⟨⟨f, 1 + 3, true, rfl, fun _ => hfin.out⟩, rfl⟩
    by_cases n8 : n = 8
    · subst n8
      have hfin := Lib.hid (hout.out 8 h1 (Or.inr rfl) (fun i h hi => hl.out i h (by omega) hi) (h105.out (by omega)))
      clear hl h105 hout
      go_wp2_with (go_at_call 62; refine (inf_any _ _).mono ?_; rintro e w' ⟨⟨f, rfl⟩, rfl⟩)
      go_ret3
      exact ⟨⟨f, 1 + 8, true, rfl, fun _ => hfin.out⟩, rfl⟩
    by_cases n4 : 3 < n
    · have n4' : (3 : Int) < (n : Int) := by omega
      have n5' : (n : Int) < 8 := by omega
      have hfin := Lib.hid (hout.out 3 (by omega) (Or.inl rfl) (fun i h hi => hl.out i h (by omega) (by omega)) (h105.out (by omega)))
      clear hl h105 hout n3 n8 n4
      go_wp2_with (go_at_call 62; refine (inf_any _ _).mono ?_; rintro e w' ⟨⟨f, rfl⟩, rfl⟩)
      go_ret3
      exact ⟨⟨f, 1 + 3, true, rfl, fun _ => hfin.out⟩, rfl⟩
    · have n4' : ¬ (3 : Int) < (n : Int) := by omega
      have n5' : ((n : Int) == 3) = false := by rw [beq_eq_false_iff_ne]; omega
      have n6' : ((n : Int) == 8) = false := by rw [beq_eq_false_iff_ne]; omega
      clear hl h105 hout n3 n8 n4
      go_wp2_with fail
      go_ret3
      exact ⟨⟨0, 0, false, rfl, fun h => by cases h⟩, rfl⟩
  · have q1 : (((s[0]).toNat : Int) == 43) = false := by rw [sg]; rfl
    have q2 : (((s[0]).toNat : Int) == 45) = true := by rw [sg]; rfl
    clear sg
    go_enter Tryd.func47, Tryd.ntmps47
    go_wp2_with fail
    refine HC.out.mono ?_
    rintro e w' ⟨⟨n, rfl, h1, h2, h3⟩, rfl⟩
    have hl := Lib.hid (inf_letters u n h3)
    have h105 : Hid (2 < n → 0 < u.size → ∃ h : 0 < u.size, lowc u[0].toNat = 105) := Lib.hid (fun hn h0 => ⟨h0, h3 0 h0 (by decide) (by omega)⟩)
    have h8 : n ≤ 8 := h2
    clear h3 h2 HC
    by_cases n3 : n = 3
    · subst n3
      have hfin := Lib.hid (hout.out 3 h1 (Or.inl rfl) (fun i h hi => hl.out i h (by omega) hi) (h105.out (by omega)))
      clear hl h105 hout
      go_wp2_with (go_at_call 62; refine (inf_any _ _).mono ?_; rintro e w' ⟨⟨f, rfl⟩, rfl⟩)
      go_ret3
      exact ⟨⟨f, 1 + 3, true, rfl, fun _ => hfin.out⟩, rfl⟩
    by_cases n8 : n = 8
    · subst n8
      have hfin := Lib.hid (hout.out 8 h1 (Or.inr rfl) (fun i h hi => hl.out i h (by omega) hi) (h105.out (by omega)))
      clear hl h105 hout
      go_wp2_with (go_at_call 62; refine (inf_any _ _).mono ?_; rintro e w' ⟨⟨f, rfl⟩, rfl⟩)
      go_ret3
      exact ⟨⟨f, 1 + 8, true, rfl, fun _ => hfin.out⟩, rfl⟩
    by_cases n4 : 3 < n
    · have n4' : (3 : Int) < (n : Int) := by omega
      have n5' : (n : Int) < 8 := by omega
      have hfin := Lib.hid (hout.out 3 (by omega) (Or.inl rfl) (fun i h hi => hl.out i h (by omega) (by omega)) (h105.out (by omega)))
      clear hl h105 hout n3 n8 n4
      go_wp2_with (go_at_call 62; refine (inf_any _ _).mono ?_; rintro e w' ⟨⟨f, rfl⟩, rfl⟩)
      go_ret3
      exact ⟨⟨f, 1 + 3, true, rfl, fun _ => hfin.out⟩, rfl⟩
    · have n4' : ¬ (3 : Int) < (n : Int) := by omega
      have n5' : ((n : Int) == 3) = false := by rw [beq_eq_false_iff_ne]; omega
      have n6' : ((n : Int) == 8) = false := by rw [beq_eq_false_iff_ne]; omega
      clear hl h105 hout n3 n8 n4
      go_wp2_with fail
      go_ret3
      exact ⟨⟨0, 0, false, rfl, fun h => by cases h⟩, rfl⟩

theorem beq_no (x : UInt8) (k : UInt8) (h : ¬ x = k) : (((x.toNat : Int)) == (k.toNat : Int)) = false := by
  rw [beq_eq_false_iff_ne]
  intro e
  exact h (by rw [← UInt8.toNat_inj]; omega)

theorem special_any (s : ByteArray) (hs : s.size ≤ 1073741824) (w : World) :
    Calls Tryd.prog 47 #[.string s] w fun e w' => Special s e ∧ w = w' := by
  rcases Nat.eq_zero_or_pos s.size with hz | hne
  · have h0 : (s.size : Int) = 0 := by omega
    clear hz
    go_enter Tryd.func47, Tryd.ntmps47
    go_wp2_with fail
    go_ret3
    exact ⟨⟨0, 0, false, rfl, fun h => by cases h⟩, rfl⟩
  by_cases sg : s[0] = 43 ∨ s[0] = 45
  · exact special_plus s hs hne sg w
  have s43 : ¬ s[0] = 43 := fun h => sg (Or.inl h)
  have s45 : ¬ s[0] = 45 := fun h => sg (Or.inr h)
  clear sg
  have hemp := nonempty_of hne
  have hm0 : Hid (s[0] ∈ s.data.toList) := Lib.hid (by
    have : s[0] = s.data.toList[0]'(by rw [← Lib.size_eq]; exact hne) := rfl
    rw [this]; exact List.getElem_mem _)
  by_cases sg : s[0] = 105
  · have q43 : (((s[0]).toNat : Int) == 43) = false := by rw [sg]; rfl
    have q45 : (((s[0]).toNat : Int) == 45) = false := by rw [sg]; rfl
    have q105 : (((s[0]).toNat : Int) == 105) = true := by rw [sg]; rfl
    have hmem : Hid (∃ x ∈ s.data.toList, x = 105 ∨ x = 73 ∨ x = 110 ∨ x = 78) := Lib.hid ⟨s[0], hm0.out, by rw [sg]; decide⟩
    have HC := Lib.hid (cpl_any s INF hs (by decide) w)
    clear sg
    go_enter Tryd.func47, Tryd.ntmps47
    go_wp2_with fail
    refine HC.out.mono ?_
    rintro e w' ⟨⟨n, rfl, h1, h2, h3⟩, rfl⟩
    have hl := Lib.hid (inf_letters s n h3)
    have h8 : n ≤ 8 := h2
    clear h3 h2 HC
    by_cases n3 : n = 3
    · subst n3
      have hfin := Lib.hid (⟨h1, hmem.out, fun i h hi => hl.out i h (by omega) hi⟩ : 3 ≤ s.size ∧ (∃ x ∈ s.data.toList, x = 105 ∨ x = 73 ∨ x = 110 ∨ x = 78) ∧ ∀ i (h : i < s.size), i < 3 → Letter s[i])
      clear hl
      go_wp2_with (go_at_call 62; refine (inf_any _ _).mono ?_; rintro e w' ⟨⟨f, rfl⟩, rfl⟩)
      go_ret3
      exact ⟨⟨f, 3, true, rfl, fun _ => hfin.out⟩, rfl⟩
    by_cases n8 : n = 8
    · subst n8
      have hfin := Lib.hid (⟨h1, hmem.out, fun i h hi => hl.out i h (by omega) hi⟩ : 8 ≤ s.size ∧ (∃ x ∈ s.data.toList, x = 105 ∨ x = 73 ∨ x = 110 ∨ x = 78) ∧ ∀ i (h : i < s.size), i < 8 → Letter s[i])
      clear hl
      go_wp2_with (go_at_call 62; refine (inf_any _ _).mono ?_; rintro e w' ⟨⟨f, rfl⟩, rfl⟩)
      go_ret3
      exact ⟨⟨f, 8, true, rfl, fun _ => hfin.out⟩, rfl⟩
    by_cases n4 : 3 < n
    · have n4' : (3 : Int) < (n : Int) := by omega
      have n5' : (n : Int) < 8 := by omega
      have hfin := Lib.hid (⟨by omega, hmem.out, fun i h hi => hl.out i h (by omega) (by omega)⟩ : 3 ≤ s.size ∧ (∃ x ∈ s.data.toList, x = 105 ∨ x = 73 ∨ x = 110 ∨ x = 78) ∧ ∀ i (h : i < s.size), i < 3 → Letter s[i])
      clear hl n3 n8 n4
      go_wp2_with (go_at_call 62; refine (inf_any _ _).mono ?_; rintro e w' ⟨⟨f, rfl⟩, rfl⟩)
      go_ret3
      exact ⟨⟨f, 3, true, rfl, fun _ => hfin.out⟩, rfl⟩
    · have n4' : ¬ (3 : Int) < (n : Int) := by omega
      have n5' : ((n : Int) == 3) = false := by rw [beq_eq_false_iff_ne]; omega
      have n6' : ((n : Int) == 8) = false := by rw [beq_eq_false_iff_ne]; omega
      clear hl n3 n8 n4
      go_wp2_with fail
      go_ret3
      exact ⟨⟨0, 0, false, rfl, fun h => by cases h⟩, rfl⟩
  by_cases sg73 : s[0] = 73
  · have q43 : (((s[0]).toNat : Int) == 43) = false := by rw [sg73]; rfl
    have q45 : (((s[0]).toNat : Int) == 45) = false := by rw [sg73]; rfl
    have q105 : (((s[0]).toNat : Int) == 105) = false := by rw [sg73]; rfl
    have q73 : (((s[0]).toNat : Int) == 73) = true := by rw [sg73]; rfl
    have hmem : Hid (∃ x ∈ s.data.toList, x = 105 ∨ x = 73 ∨ x = 110 ∨ x = 78) := Lib.hid ⟨s[0], hm0.out, by rw [sg73]; decide⟩
    have HC := Lib.hid (cpl_any s INF hs (by decide) w)
    clear sg73
    go_enter Tryd.func47, Tryd.ntmps47
    go_wp2_with fail
    refine HC.out.mono ?_
    rintro e w' ⟨⟨n, rfl, h1, h2, h3⟩, rfl⟩
    have hl := Lib.hid (inf_letters s n h3)
    have h8 : n ≤ 8 := h2
    clear h3 h2 HC
    by_cases n3 : n = 3
    · subst n3
      have hfin := Lib.hid (⟨h1, hmem.out, fun i h hi => hl.out i h (by omega) hi⟩ : 3 ≤ s.size ∧ (∃ x ∈ s.data.toList, x = 105 ∨ x = 73 ∨ x = 110 ∨ x = 78) ∧ ∀ i (h : i < s.size), i < 3 → Letter s[i])
      clear hl
      go_wp2_with (go_at_call 62; refine (inf_any _ _).mono ?_; rintro e w' ⟨⟨f, rfl⟩, rfl⟩)
      go_ret3
      exact ⟨⟨f, 3, true, rfl, fun _ => hfin.out⟩, rfl⟩
    by_cases n8 : n = 8
    · subst n8
      have hfin := Lib.hid (⟨h1, hmem.out, fun i h hi => hl.out i h (by omega) hi⟩ : 8 ≤ s.size ∧ (∃ x ∈ s.data.toList, x = 105 ∨ x = 73 ∨ x = 110 ∨ x = 78) ∧ ∀ i (h : i < s.size), i < 8 → Letter s[i])
      clear hl
      go_wp2_with (go_at_call 62; refine (inf_any _ _).mono ?_; rintro e w' ⟨⟨f, rfl⟩, rfl⟩)
      go_ret3
      exact ⟨⟨f, 8, true, rfl, fun _ => hfin.out⟩, rfl⟩
    by_cases n4 : 3 < n
    · have n4' : (3 : Int) < (n : Int) := by omega
      have n5' : (n : Int) < 8 := by omega
      have hfin := Lib.hid (⟨by omega, hmem.out, fun i h hi => hl.out i h (by omega) (by omega)⟩ : 3 ≤ s.size ∧ (∃ x ∈ s.data.toList, x = 105 ∨ x = 73 ∨ x = 110 ∨ x = 78) ∧ ∀ i (h : i < s.size), i < 3 → Letter s[i])
      clear hl n3 n8 n4
      go_wp2_with (go_at_call 62; refine (inf_any _ _).mono ?_; rintro e w' ⟨⟨f, rfl⟩, rfl⟩)
      go_ret3
      exact ⟨⟨f, 3, true, rfl, fun _ => hfin.out⟩, rfl⟩
    · have n4' : ¬ (3 : Int) < (n : Int) := by omega
      have n5' : ((n : Int) == 3) = false := by rw [beq_eq_false_iff_ne]; omega
      have n6' : ((n : Int) == 8) = false := by rw [beq_eq_false_iff_ne]; omega
      clear hl n3 n8 n4
      go_wp2_with fail
      go_ret3
      exact ⟨⟨0, 0, false, rfl, fun h => by cases h⟩, rfl⟩
  by_cases sg110 : s[0] = 110
  · have q43 : (((s[0]).toNat : Int) == 43) = false := by rw [sg110]; rfl
    have q45 : (((s[0]).toNat : Int) == 45) = false := by rw [sg110]; rfl
    have q105 : (((s[0]).toNat : Int) == 105) = false := by rw [sg110]; rfl
    have q73 : (((s[0]).toNat : Int) == 73) = false := by rw [sg110]; rfl
    have q110 : (((s[0]).toNat : Int) == 110) = true := by rw [sg110]; rfl
    have hmem : Hid (∃ x ∈ s.data.toList, x = 105 ∨ x = 73 ∨ x = 110 ∨ x = 78) := Lib.hid ⟨s[0], hm0.out, by rw [sg110]; decide⟩
    have HC := Lib.hid (cpl_any s NAN hs (by decide) w)
    clear sg110
    go_enter Tryd.func47, Tryd.ntmps47
    go_wp2_with fail
    refine HC.out.mono ?_
    rintro e w' ⟨⟨n, rfl, h1, h2, h3⟩, rfl⟩
    have hl := Lib.hid (nan_letters s n h3)
    have h8 : n ≤ 3 := h2
    clear h3 h2 HC
    by_cases n3 : n = 3
    · subst n3
      have hfin := Lib.hid (⟨h1, hmem.out, fun i h hi => hl.out i h (by omega) hi⟩ : 3 ≤ s.size ∧ (∃ x ∈ s.data.toList, x = 105 ∨ x = 73 ∨ x = 110 ∨ x = 78) ∧ ∀ i (h : i < s.size), i < 3 → Letter s[i])
      clear hl
      go_wp2_with (go_at_call 63; refine (nan_any _).mono ?_; rintro e w' ⟨⟨f, rfl⟩, rfl⟩)
      go_ret3
      exact ⟨⟨f, 3, true, rfl, fun _ => hfin.out⟩, rfl⟩
    · have n5' : ((n : Int) == 3) = false := by rw [beq_eq_false_iff_ne]; omega
      clear hl n3
      go_wp2_with fail
      go_ret3
      exact ⟨⟨0, 0, false, rfl, fun h => by cases h⟩, rfl⟩
  by_cases sg78 : s[0] = 78
  · have q43 : (((s[0]).toNat : Int) == 43) = false := by rw [sg78]; rfl
    have q45 : (((s[0]).toNat : Int) == 45) = false := by rw [sg78]; rfl
    have q105 : (((s[0]).toNat : Int) == 105) = false := by rw [sg78]; rfl
    have q73 : (((s[0]).toNat : Int) == 73) = false := by rw [sg78]; rfl
    have q110 : (((s[0]).toNat : Int) == 110) = false := by rw [sg78]; rfl
    have q78 : (((s[0]).toNat : Int) == 78) = true := by rw [sg78]; rfl
    have hmem : Hid (∃ x ∈ s.data.toList, x = 105 ∨ x = 73 ∨ x = 110 ∨ x = 78) := Lib.hid ⟨s[0], hm0.out, by rw [sg78]; decide⟩
    have HC := Lib.hid (cpl_any s NAN hs (by decide) w)
    clear sg78
    go_enter Tryd.func47, Tryd.ntmps47
    go_wp2_with fail
    refine HC.out.mono ?_
    rintro e w' ⟨⟨n, rfl, h1, h2, h3⟩, rfl⟩
    have hl := Lib.hid (nan_letters s n h3)
    have h8 : n ≤ 3 := h2
    clear h3 h2 HC
    by_cases n3 : n = 3
    · subst n3
      have hfin := Lib.hid (⟨h1, hmem.out, fun i h hi => hl.out i h (by omega) hi⟩ : 3 ≤ s.size ∧ (∃ x ∈ s.data.toList, x = 105 ∨ x = 73 ∨ x = 110 ∨ x = 78) ∧ ∀ i (h : i < s.size), i < 3 → Letter s[i])
      clear hl
      go_wp2_with (go_at_call 63; refine (nan_any _).mono ?_; rintro e w' ⟨⟨f, rfl⟩, rfl⟩)
      go_ret3
      exact ⟨⟨f, 3, true, rfl, fun _ => hfin.out⟩, rfl⟩
    · have n5' : ((n : Int) == 3) = false := by rw [beq_eq_false_iff_ne]; omega
      clear hl n3
      go_wp2_with fail
      go_ret3
      exact ⟨⟨0, 0, false, rfl, fun h => by cases h⟩, rfl⟩
  have q1 := beq_no s[0] 43 s43
  have q2 := beq_no s[0] 45 s45
  have q3 := beq_no s[0] 105 sg
  have q4 := beq_no s[0] 73 sg73
  have q5 := beq_no s[0] 110 sg110
  have q6 := beq_no s[0] 78 sg78
  change (_ == (43 : Int)) = _ at q1
  change (_ == (45 : Int)) = _ at q2
  change (_ == (105 : Int)) = _ at q3
  change (_ == (73 : Int)) = _ at q4
  change (_ == (110 : Int)) = _ at q5
  change (_ == (78 : Int)) = _ at q6
  clear s43 s45 sg sg73 sg110 sg78
  go_enter Tryd.func47, Tryd.ntmps47
  go_wp2_with fail
  go_ret3
  exact ⟨⟨0, 0, false, rfl, fun h => by cases h⟩, rfl⟩
end Go.Proofs.YtjaibjdhfljmmaaDoor
