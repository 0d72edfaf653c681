/-
  The decimal's block, and the functions that only read it or drop its last zeroes.
  trim.
  RoundedInteger: it returns a uint64; the value is left open.
  prefixIsLessThan: where the digits and the text part.
-/
import Derived.Test.YtjaibjdhfljmmaaDoorDigits
import Derived.Test.YtjaibjdhfljmmaaDoorUnder
import Derived.BigQuiet
namespace Go.Proofs.YtjaibjdhfljmmaaDoor
open Go.RowKit
set_option maxRecDepth 100000
set_option maxHeartbeats 4000000

/-- A decimal at block B: nd digits of d, the point at dp. -/
structure Dm (w : World) (B nd : Nat) (dp : Int) (d : Nat → Int) : Prop where
  blk : ∃ cs, w.heap[B]? = some (.cells cs 110 (0, 0)) ∧ cs.size = 804
  dig : ∀ i, i < 800 → w.cell? ⟨B, i, none⟩ = some (.int .u8 (d i))
  cnd : w.cell? ⟨B, 800, none⟩ = some (.int .i64 nd)
  cdp : w.cell? ⟨B, 801, none⟩ = some (.int .i64 dp)
  cng : ∃ b, w.cell? ⟨B, 802, none⟩ = some (.bool b)
  ctr : ∃ b, w.cell? ⟨B, 803, none⟩ = some (.bool b)
  le : nd ≤ 800

theorem sru_any (B nd : Nat) (dp n : Int) (d : Nat → Int) (w : World) (hD : Dm w B nd dp d) :
    Calls Tryd.prog 82 #[.pointer (some ⟨B, 0, none⟩), .int .i64 n] w fun e w' => Yields e ∧ w = w' := by
  have c1 := hD.cnd
  obtain ⟨tb, c2⟩ := hD.ctr
  have hle := hD.le
  by_cases hn : n < 0
  · go_enter Tryd.func82, Tryd.ntmps82
    go_wp2_with fail
    go_ret
    exact ⟨⟨_, rfl⟩, rfl⟩
  by_cases hk : (nd : Int) ≤ n
  · go_enter Tryd.func82, Tryd.ntmps82
    go_wp2_with fail
    go_ret
    exact ⟨⟨_, rfl⟩, rfl⟩
  obtain ⟨k, rfl⟩ : ∃ k : Nat, n = k := ⟨n.toNat, by omega⟩
  have hk' : k < 800 := by omega
  have c3 := hD.dig k hk'
  by_cases h0 : k = 0
  · subst h0
    cases tb
    all_goals
      go_enter Tryd.func82, Tryd.ntmps82
      go_wp2_with fail

      all_goals
        go_ret
        exact ⟨⟨_, rfl⟩, rfl⟩
  · obtain ⟨j, rfl⟩ : ∃ j, k = j + 1 := ⟨k - 1, by omega⟩
    have c4 := hD.dig j (by omega)
    cases tb
    all_goals
      go_enter Tryd.func82, Tryd.ntmps82
      go_wp2_with fail
      all_goals
        go_ret
        exact ⟨⟨_, rfl⟩, rfl⟩

theorem Dm.drewN {w : World} {B nd : Nat} {dp : Int} {d : Nat → Int} (h : Dm w B nd dp d) (n : Nat) : Dm (w.drewN n) B nd dp d := ⟨h.blk, h.dig, h.cnd, h.cdp, h.cng, h.ctr, h.le⟩

theorem Dm.blk' {w : World} {B nd : Nat} {dp : Int} {d : Nat → Int} (h : Dm w B nd dp d) (o : Nat) (v : Value) : ∃ cs, (w.setCell ⟨B, o, none⟩ v).heap[B]? = some (.cells cs 110 (0, 0)) ∧ cs.size = 804 := by
  obtain ⟨cs, hc, hs⟩ := h.blk
  exact ⟨_, set_same v hc, by simp [hs]⟩

theorem off_ne {w : World} {B i j : Nat} {v : Value} (h : i ≠ j) : (w.setCell ⟨B, i, none⟩ v).cell? ⟨B, j, none⟩ = w.cell? ⟨B, j, none⟩ :=
  World.cell?_setCell_other _ _ _ _ (by intro e; cases e; exact h rfl)

theorem Dm.set {w : World} {B nd : Nat} {dp : Int} {d : Nat → Int} (h : Dm w B nd dp d) (i : Nat) (hi : i < 800) (v : Int) :
    Dm (w.setCell ⟨B, i, none⟩ (.int .u8 v)) B nd dp (fun k => if k = i then v else d k) := by
  refine ⟨h.blk' _ _, fun k hk => ?_, ?_, ?_, ?_, ?_, h.le⟩
  · by_cases e : k = i
    · subst e
      rw [if_pos rfl]
      exact World.cell?_setCell_same _ _ _ (h.dig k hk)
    · rw [if_neg e, off_ne (Ne.symm e)]
      exact h.dig k hk
  · rw [off_ne (by omega)]; exact h.cnd
  · rw [off_ne (by omega)]; exact h.cdp
  · rw [off_ne (by omega)]; exact h.cng
  · rw [off_ne (by omega)]; exact h.ctr

theorem Dm.setNd {w : World} {B nd : Nat} {dp : Int} {d : Nat → Int} (h : Dm w B nd dp d) (m : Nat) (hm : m ≤ 800) :
    Dm (w.setCell ⟨B, 800, none⟩ (.int .i64 m)) B m dp d := by
  refine ⟨h.blk' _ _, fun k hk => ?_, ?_, ?_, ?_, ?_, hm⟩
  · rw [off_ne (by omega)]; exact h.dig k hk
  · exact World.cell?_setCell_same _ _ _ h.cnd
  · rw [off_ne (by omega)]; exact h.cdp
  · rw [off_ne (by omega)]; exact h.cng
  · rw [off_ne (by omega)]; exact h.ctr

theorem Dm.setDp {w : World} {B nd : Nat} {dp : Int} {d : Nat → Int} (h : Dm w B nd dp d) (p : Int) :
    Dm (w.setCell ⟨B, 801, none⟩ (.int .i64 p)) B nd p d := by
  refine ⟨h.blk' _ _, fun k hk => ?_, ?_, ?_, ?_, ?_, h.le⟩
  · rw [off_ne (by omega)]; exact h.dig k hk
  · rw [off_ne (by omega)]; exact h.cnd
  · exact World.cell?_setCell_same _ _ _ h.cdp
  · rw [off_ne (by omega)]; exact h.cng
  · rw [off_ne (by omega)]; exact h.ctr

theorem Dm.setNg {w : World} {B nd : Nat} {dp : Int} {d : Nat → Int} (h : Dm w B nd dp d) (b : Bool) :
    Dm (w.setCell ⟨B, 802, none⟩ (.bool b)) B nd dp d := by
  obtain ⟨c, hc⟩ := h.cng
  refine ⟨h.blk' _ _, fun k hk => ?_, ?_, ?_, ?_, ?_, h.le⟩
  · rw [off_ne (by omega)]; exact h.dig k hk
  · rw [off_ne (by omega)]; exact h.cnd
  · rw [off_ne (by omega)]; exact h.cdp
  · exact ⟨_, World.cell?_setCell_same _ _ _ hc⟩
  · rw [off_ne (by omega)]; exact h.ctr

theorem Dm.setTr {w : World} {B nd : Nat} {dp : Int} {d : Nat → Int} (h : Dm w B nd dp d) (b : Bool) :
    Dm (w.setCell ⟨B, 803, none⟩ (.bool b)) B nd dp d := by
  obtain ⟨c, hc⟩ := h.ctr
  refine ⟨h.blk' _ _, fun k hk => ?_, ?_, ?_, ?_, ?_, h.le⟩
  · rw [off_ne (by omega)]; exact h.dig k hk
  · rw [off_ne (by omega)]; exact h.cnd
  · rw [off_ne (by omega)]; exact h.cdp
  · rw [off_ne (by omega)]; exact h.cng
  · exact ⟨_, World.cell?_setCell_same _ _ _ hc⟩

theorem Dm.free {w : World} {B nd : Nat} {dp : Int} {d : Nat → Int} (h : Dm w B nd dp d) (o : Nat) : w.frozen? ⟨B, o, none⟩ = false := by
  obtain ⟨cs, hc, _⟩ := h.blk
  exact free_of hc

end Go.Proofs.YtjaibjdhfljmmaaDoor

namespace Go.Proofs.YtjaibjdhfljmmaaDoor
open Go.RowKit
set_option maxRecDepth 100000
set_option maxHeartbeats 4000000

def ndOf (B : Nat) (w : World) : Nat := match w.cell? ⟨B, 800, none⟩ with
  | some (.int _ n) => n.toNat
  | _ => 0

/-- A decimal with fewer digits. -/
def Fewer (w' : World) (B nd : Nat) (dp : Int) (d : Nat → Int) : Prop := ∃ (nd' : Nat) (dp' : Int), nd' ≤ nd ∧ Dm w' B nd' dp' d ∧ (0 < nd' → dp' = dp) ∧ (0 < nd → 49 ≤ d 0 → 0 < nd')

theorem dtrim_any (B nd : Nat) (dp : Int) (d : Nat → Int) (w : World) (hD : Dm w B nd dp d) :
    Calls Tryd.prog 87 #[.pointer (some ⟨B, 0, none⟩)] w fun e w' => e = .returned (.tuple #[]) ∧ Fewer w' B nd dp d ∧ Below B w w' := by
  go_enter Tryd.func87, Tryd.ntmps87
  go_upto_block 0 with fail
  go_cut [2] from 3 (fun _ wx => ∃ n : Nat, n ≤ nd ∧ Hid (0 < nd → 49 ≤ d 0 → 0 < n) ∧ Hid (Dm wx B n dp d) ∧ Hid (Below B w wx))
  case first =>
    go_wp2_with fail
    go_loopw [2] (fun _ wr => ∃ n : Nat, n ≤ nd ∧ Hid (0 < nd → 49 ≤ d 0 → 0 < n) ∧ Hid (Dm wr B n dp d) ∧ Hid (Below B w wr)) (fun _ wr => ndOf B wr)
    case atStart => exact ⟨nd, Nat.le_refl _, Lib.hid (fun h _ => h), Lib.hid hD, Lib.hid (Below.refl _ _)⟩
    case round =>
      obtain ⟨n, hn, hz, hd, hb⟩ := hrel
      have c1 := hd.out.cnd
      by_cases h0 : n = 0
      · subst h0
        go_wp2_with fail
        go_quiet (fail)
        go_wp2_with fail
        go_meet
        case rel => exact ⟨0, hn, hz, Lib.hid (hd.out.drewN _), Lib.hid (below_drewN hb.out _)⟩
      obtain ⟨k, rfl⟩ : ∃ k, n = k + 1 := ⟨n - 1, by omega⟩
      have hle := hd.out.le
      have c2 := hd.out.dig k (by omega)
      have hf := hd.out.free 800
      by_cases h48 : d k = 48
      · have e1 : (d k == 48) = true := by simpa using h48
        have hz' : Hid (0 < nd → 49 ≤ d 0 → 0 < k) := Lib.hid (fun h1 h2 => by
          rcases Nat.eq_zero_or_pos k with h3 | h3
          · rw [h3] at h48; omega
          · exact h3)
        go_wp2_with fail
        go_quiet (fail)
        go_wp2_with fail
        go_round
        case rel => exact ⟨k, by omega, hz', Lib.hid ((hd.out.drewN _).setNd k (by omega)), Lib.hid ((below_drewN hb.out _).setCell (Nat.le_refl _) _)⟩
        case measure =>
          unfold ndOf
          rw [((hd.out.drewN _).setNd k (by omega)).cnd, c1]
          simp
      · have e1 : (d k == 48) = false := by simpa using h48
        go_wp2_with fail
        go_quiet (fail)
        go_wp2_with fail
        go_meet
        case rel => exact ⟨k + 1, hn, hz, Lib.hid (hd.out.drewN _), Lib.hid (below_drewN hb.out _)⟩
  case rest =>
    obtain ⟨n, hn, hz, hd, hb⟩ := hcut
    have c1 := hd.out.cnd
    have c2 := hd.out.cdp
    have hf := hd.out.free 801
    rename_i K9 hk9
    apply hk9
    by_cases h0 : n = 0
    · subst h0
      go_wp2_with fail
      go_end0
      exact ⟨rfl, ⟨0, 0, hn, hd.out.setDp 0, fun h => absurd h (by omega), hz.out⟩, hb.out.setCell (Nat.le_refl _) _⟩
    · have e1 : ((n : Int) == 0) = false := by simpa using h0
      go_wp2_with fail
      go_end0
      exact ⟨rfl, ⟨n, dp, hn, hd.out, fun _ => rfl, hz.out⟩, hb.out⟩
end Go.Proofs.YtjaibjdhfljmmaaDoor

namespace Go.Proofs.YtjaibjdhfljmmaaDoor
open Go.RowKit
set_option maxRecDepth 100000
set_option maxHeartbeats 4000000

def U64 (e : Ending) : Prop := ∃ z : Int, e = .returned (.int .u64 z)

theorem rint_any (B nd : Nat) (dp : Int) (d : Nat → Int) (w : World) (hD : Dm w B nd dp d) :
    Calls Tryd.prog 73 #[.pointer (some ⟨B, 0, none⟩)] w fun e w' => U64 e ∧ w = w' := by
  have c1 := hD.cnd
  have c2 := hD.cdp
  have hle := hD.le
  have hS := Lib.hid (sru_any B nd dp dp d w hD)
  have hd := Lib.hid hD.dig
  clear hD
  by_cases h20 : 20 < dp
  · go_enter Tryd.func73, Tryd.ntmps73
    go_wp2_with fail
    go_ret
    exact ⟨⟨_, rfl⟩, rfl⟩
  go_enter Tryd.func73, Tryd.ntmps73
  go_upto_block 0 with fail
  go_cut [3, 4] from 5 (fun i m wx => ∃ (k : Nat) (z : Int), i = .int .i64 k ∧ m = .int .u64 z ∧ k ≤ 20 ∧ Hid (w = wx))
  case first =>
    go_wp2_with fail
    go_loop [3, 4] (fun i m => ∃ (k : Nat) (z : Int), i = .int .i64 k ∧ m = .int .u64 z ∧ k ≤ 20) (fun i _ => 20 - (intOf i).toNat)
    case atStart => exact ⟨0, 0, rfl, rfl, by omega⟩
    case round =>
      obtain ⟨k, z, rfl, rfl, hk⟩ := hrel
      by_cases hp : (k : Int) < dp
      · by_cases hn : k < nd
        · have hn' : (k : Int) < (nd : Int) := by omega
          have c3 := hd.out k (by omega)
          go_wp2_with fail
          go_round
          case rel => exact ⟨k + 1, _, by go_num, rfl, by omega⟩
          case measure => simp [intOf]; omega
        · have hn' : ¬ (k : Int) < (nd : Int) := by omega
          go_wp2_with fail
          go_meet
          case rel => exact ⟨k, z, rfl, rfl, hk, Lib.hid rfl⟩
      · go_wp2_with fail
        go_meet
        case rel => exact ⟨k, z, rfl, rfl, hk, Lib.hid rfl⟩
  case rest =>
    obtain ⟨k, z, rfl, rfl, hk, hw⟩ := hcut
    have hw' := hw.out
    subst hw'
    clear hw
    rename_i K9 hk9
    apply hk9
    clear hk9 K9
    go_upto_block 2 with fail
    go_cut [3, 4] from 5 (fun i m wx => ∃ (k : Nat) (z : Int), i = .int .i64 k ∧ m = .int .u64 z ∧ Hid (w = wx))
    case first =>
      go_wp2_with fail
      go_loop [3, 4] (fun i m => ∃ (k : Nat) (z : Int), i = .int .i64 k ∧ m = .int .u64 z ∧ k ≤ 20) (fun i _ => 20 - (intOf i).toNat)
      case atStart => exact ⟨k, z, rfl, rfl, hk⟩
      case round =>
        obtain ⟨k, z, rfl, rfl, hk⟩ := hrel
        by_cases hp : (k : Int) < dp
        · go_wp2_with fail
          go_round
          case rel => exact ⟨k + 1, _, by go_num, rfl, by omega⟩
          case measure => simp [intOf]; omega
        · go_wp2_with fail
          go_meet
          case rel => exact ⟨k, z, rfl, rfl, Lib.hid rfl⟩
    case rest =>
      obtain ⟨k, z, rfl, rfl, hw⟩ := hcut
      have hw' := hw.out
      subst hw'
      clear hw
      rename_i K9 hk9
      apply hk9
      clear hk9 K9
      go_wp2_with fail
      refine hS.out.mono ?_
      rintro e w' ⟨⟨b, rfl⟩, rfl⟩
      cases b
      all_goals
        go_wp2_with fail
        go_ret
        exact ⟨⟨_, rfl⟩, rfl⟩
end Go.Proofs.YtjaibjdhfljmmaaDoor

namespace Go.Proofs.YtjaibjdhfljmmaaDoor
open Go.RowKit
set_option maxRecDepth 100000
set_option maxHeartbeats 4000000

/-- The first i digits are the text's first i bytes. -/
def Agree (d : Nat → Int) (s : ByteArray) (i : Nat) : Prop := ∀ j (h : j < s.size), j < i → d j = s[j].toNat

/-- The digits stand before the text in the order of words (b), or they don't. -/
def LessAt (nd : Nat) (d : Nat → Int) (s : ByteArray) (b : Bool) : Prop :=
  ∃ i, i ≤ s.size ∧ i ≤ nd ∧ Agree d s i ∧
    ((b = true ∧ ∃ h : i < s.size, nd = i ∨ (i < nd ∧ d i < s[i].toNat)) ∨ (b = false ∧ (i = s.size ∨ ∃ h : i < s.size, i < nd ∧ (s[i].toNat : Int) < d i)))
def Less (nd : Nat) (d : Nat → Int) (s : ByteArray) (e : Ending) : Prop := ∃ b : Bool, e = .returned (.bool b) ∧ LessAt nd d s b

/-- Draws, and nothing else. -/
def Drawn (w w' : World) : Prop := ∃ n, w' = w.drewN n

theorem Drawn.refl (w : World) : Drawn w w := ⟨0, rfl⟩
theorem Drawn.more {w a : World} (h : Drawn w a) (n : Nat) : Drawn w (a.drewN n) := by
  obtain ⟨m, rfl⟩ := h
  exact ⟨m + n, World.drewN_drewN ..⟩

theorem less_any (B nd c : Nat) (dp : Int) (d : Nat → Int) (s : ByteArray) (w : World) (hs : s.size ≤ 800) (hD : Dm w B nd dp d) :
    Calls Tryd.prog 86 #[.slice (some ⟨B, 0, none⟩) nd c, .string s] w fun e w' => Less nd d s e ∧ Drawn w w' := by
  have hle := hD.le
  have hd := Lib.hid hD.dig
  clear hD
  go_enter Tryd.func86, Tryd.ntmps86
  go_upto_block 0 with fail
  go_cut [5] from 6 (fun i wx => i = .int .i64 s.size ∧ s.size ≤ nd ∧ Hid (Drawn w wx) ∧ Hid (Agree d s s.size))
  case first =>
    go_wp2_with fail
    go_loopw [5] (fun i wr => ∃ k : Nat, i = .int .i64 k ∧ k ≤ s.size ∧ k ≤ nd ∧ Hid (Agree d s k) ∧ Hid (Drawn w wr)) (fun i _ => s.size - (intOf i).toNat)
    case atStart => exact ⟨0, rfl, by omega, by omega, Lib.hid (fun j h hj => absurd hj (by omega)), Lib.hid ⟨0, rfl⟩⟩
    case round =>
      obtain ⟨k, rfl, hk, hkn, ha, hw⟩ := hrel
      obtain ⟨n0, rfl⟩ := hw.out
      clear hw
      by_cases hlt : k < s.size
      · have hlt' : (k : Int) < (s.size : Int) := by omega
        by_cases hn : k < nd
        · have hn' : ¬ (nd : Int) ≤ (k : Int) := by omega
          have c1 := hd.out k (by omega)
          by_cases he : d k = s[k].toNat
          · have e1 : (d k != (s[k].toNat : Int)) = false := by simpa using he
            have ha' : Hid (Agree d s (k + 1)) := Lib.hid (fun j h hj => by
              by_cases hjk : j = k
              · subst hjk; exact he
              · exact ha.out j h (by omega))
            clear he
            go_wp2_with fail
            go_quiet (fail)
            go_wp2_with fail
            go_round
            case rel => exact ⟨k + 1, by go_num, by omega, by omega, ha', Lib.hid ⟨_, rfl⟩⟩
            case measure => simp [intOf]; omega
          · have e1 : (d k != (s[k].toNat : Int)) = true := by simpa using he
            by_cases hl : d k < s[k].toNat
            · have hL : Hid (LessAt nd d s true) := Lib.hid ⟨k, hk, hkn, ha.out, .inl ⟨rfl, hlt, .inr ⟨hn, hl⟩⟩⟩
              clear he
              go_wp2_with fail
              go_quiet (fail)
              go_wp2_with fail
              go_quiet (fail)
              go_wp2_with fail
              go_ret
              exact ⟨⟨_, rfl, by first | exact hL.out | (rw [decide_eq_true hl]; exact hL.out)⟩, by first | exact ⟨_, rfl⟩ | exact Drawn.more (Drawn.more ⟨_, rfl⟩ _) _⟩
            · have hL : Hid (LessAt nd d s false) := Lib.hid ⟨k, hk, hkn, ha.out, .inr ⟨rfl, .inr ⟨hlt, hn, by omega⟩⟩⟩
              clear he
              go_wp2_with fail
              go_quiet (fail)
              go_wp2_with fail
              go_quiet (fail)
              go_wp2_with fail
              go_ret
              exact ⟨⟨_, rfl, by rw [decide_eq_false (by omega)]; exact hL.out⟩, by first | exact ⟨_, rfl⟩ | exact Drawn.more (Drawn.more ⟨_, rfl⟩ _) _⟩
        · have hn' : (nd : Int) ≤ (k : Int) := by omega
          have hL : Hid (LessAt nd d s true) := Lib.hid ⟨k, hk, hkn, ha.out, .inl ⟨rfl, hlt, .inl (by omega)⟩⟩
          go_wp2_with fail
          go_ret
          exact ⟨⟨_, rfl, hL.out⟩, by first | exact ⟨_, rfl⟩ | exact Drawn.more (Drawn.more ⟨_, rfl⟩ _) _⟩
      · have hlt' : ¬ (k : Int) < (s.size : Int) := by omega
        obtain rfl : k = s.size := by omega
        go_wp2_with fail
        go_meet
        case rel => exact ⟨rfl, by omega, Lib.hid ⟨_, rfl⟩, ha⟩
  case rest =>
    obtain ⟨rfl, hn, hw, ha⟩ := hcut
    obtain ⟨n0, rfl⟩ := hw.out
    clear hw
    rename_i K9 hk9
    apply hk9
    clear hk9 K9
    have hL : Hid (LessAt nd d s false) := Lib.hid ⟨s.size, Nat.le_refl _, hn, ha.out, .inr ⟨rfl, .inl rfl⟩⟩
    go_wp2_with fail
    go_ret
    exact ⟨⟨_, rfl, hL.out⟩, by first | exact ⟨_, rfl⟩ | exact Drawn.more (Drawn.more ⟨_, rfl⟩ _) _⟩
end Go.Proofs.YtjaibjdhfljmmaaDoor
