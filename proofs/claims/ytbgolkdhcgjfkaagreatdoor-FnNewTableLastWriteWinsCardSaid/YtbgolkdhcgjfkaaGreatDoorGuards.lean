/-
  keysInBound, zzBytes (two), scriptBytes.
-/
import Derived.Test.YtbgolkdhcgjfkaaGreatDoorApply
namespace Go.Proofs.YtbgolkdhcgjfkaaGreatDoor
open Go.RowKit
set_option maxRecDepth 100000
set_option maxHeartbeats 400000

theorem IsTexts.spot {w : World} {a : Option Addr} {len cap : Nat} {zs : List ByteArray} (h : IsTexts w a len cap zs) (h0 : 0 < len) :
    ∃ b off, a = some ⟨b, off, none⟩ ∧ ∀ i, i < len → w.cell? ⟨b, off + i, none⟩ = some (.string (zs.getD i ⟨#[]⟩)) := by
  rcases h with ⟨rfl, rfl, rfl, rfl⟩ | ⟨x, rfl, hl, hm, hz, hcell, hwz⟩
  · omega
  · obtain ⟨b, off, spot⟩ := x
    have hc := hcell 0 (by omega)
    have hspot : spot = none := by simpa [Addr.add] using World.cell?_spot hc
    subst hspot
    have hadd : ∀ i, (⟨b, off, none⟩ : Addr).add i = ⟨b, off + i, none⟩ := fun i => by unfold Addr.add; split <;> simp_all
    exact ⟨b, off, rfl, fun i hi => by rw [← hadd]; exact hcell i (by omega)⟩

theorem IsRow.spot {w : World} {a : Option Addr} {len cap : Nat} {zs : List Int} (h : IsRow .i32 w a len cap zs) (h0 : 0 < len) :
    ∃ b off, a = some ⟨b, off, none⟩ ∧ ∀ i, i < len → w.cell? ⟨b, off + i, none⟩ = some (.int .i32 (zs.getD i 0)) := by
  rcases h with ⟨rfl, rfl, rfl, rfl⟩ | ⟨x, rfl, hl, hm, hz, hcell, hwz⟩
  · omega
  · obtain ⟨b, off, spot⟩ := x
    have hc := hcell 0 (by omega)
    have hspot : spot = none := by simpa [Addr.add] using World.cell?_spot hc
    subst hspot
    have hadd : ∀ i, (⟨b, off, none⟩ : Addr).add i = ⟨b, off + i, none⟩ := fun i => by unfold Addr.add; split <;> simp_all
    exact ⟨b, off, rfl, fun i hi => by rw [← hadd]; exact hcell i (by omega)⟩

/-- A bool, and what true tells. -/
def Tells (P : Prop) (e : Ending) : Prop := ∃ b, e = .returned (.bool b) ∧ (b = true → P)

/-- keysInBound. -/
theorem keys_bound (a : Option Addr) (len cap : Nat) (zs : List Int) (w : World) (h : IsRow .i32 w a len cap zs) (hl : len ≤ 4096) :
    Calls Tryz.prog 15 #[.slice a len cap] w fun e w' => Tells (∀ i, i < len → -65536 ≤ zs.getD i 0 ∧ zs.getD i 0 ≤ 65536) e ∧ w = w' := by
  have hs := Lib.hid (fun h0 => h.spot h0)
  clear h
  go_enter Tryz.func15, Tryz.ntmps15
  go_wp2_with fail
  go_loop [3] (fun i => ∃ k : Nat, k ≤ len ∧ i = .int .i64 k ∧ Hid (∀ i, i < k → -65536 ≤ zs.getD i 0 ∧ zs.getD i 0 ≤ 65536)) (fun i => len - (intOf i).toNat)
  case atStart => exact ⟨0, Nat.zero_le _, rfl, Lib.hid (fun i hi => by omega)⟩
  case round =>
    obtain ⟨k, hk, rfl, hb⟩ := hrel
    by_cases hlt : k < len
    · obtain ⟨b, off, rfl, hc⟩ := hs.out (by omega)
      have cs := hc k hlt
      have hzk : Hid (∃ z, z = zs.getD k 0) := Lib.hid ⟨_, rfl⟩
      obtain ⟨z, hz⟩ := hzk.out
      rw [← hz] at cs
      have hz' := Lib.hid hz
      clear hc hz hzk
      by_cases h1 : z < -65536
      · go_wp2_with fail
        go_ret
        exact ⟨⟨false, rfl, fun h => (by cases h)⟩, rfl⟩
      · by_cases h2 : 65536 < z
        · go_wp2_with fail
          go_ret
          exact ⟨⟨false, rfl, fun h => (by cases h)⟩, rfl⟩
        · go_wp2_with fail
          go_round
          case rel => exact ⟨k + 1, by omega, by go_num, Lib.hid (fun i hi => by
            by_cases e : i = k
            · rw [e, ← hz'.out]; omega
            · exact hb.out i (by omega))⟩
          case measure => simp [intOf]; omega
    · obtain rfl : k = len := by omega
      go_wp2_with fail
      go_ret
      exact ⟨⟨true, rfl, fun _ => hb.out⟩, rfl⟩


def Short (l : Nat) (ss : List ByteArray) : Prop := ∀ i, i < l → (ss.getD i ⟨#[]⟩).size ≤ 1048576

theorem bytes13 (a b c : Option Addr) (n m l cn cm cl : Nat) (ss : List ByteArray) (w : World) (h : IsTexts w c l cl ss) :
    Calls Tryz.prog 13 #[.slice a n cn, .slice b m cm, .slice c l cl] w fun e w' => Tells (n ≤ 1048576 ∧ m ≤ 1048576 ∧ l ≤ 1048576 ∧ Short l ss) e ∧ w = w' := by
  have hs := Lib.hid (fun h0 => h.spot h0)
  clear h
  by_cases g1 : 1048576 < n
  · have g1' : (1048576 : Int) < n := by omega
    clear g1
    go_enter Tryz.func13, Tryz.ntmps13
    go_wp2_with fail
    go_ret
    exact ⟨⟨false, rfl, fun h => (by cases h)⟩, rfl⟩
  by_cases g2 : 1048576 < m
  · have g1' : ¬ (1048576 : Int) < n := by omega
    have g2' : (1048576 : Int) < m := by omega
    clear g1 g2
    go_enter Tryz.func13, Tryz.ntmps13
    go_wp2_with fail
    go_ret
    exact ⟨⟨false, rfl, fun h => (by cases h)⟩, rfl⟩
  by_cases g3 : 1048576 < n + m
  · have g1' : ¬ (1048576 : Int) < n := by omega
    have g2' : ¬ (1048576 : Int) < m := by omega
    have g3' : (1048576 : Int) < (n : Int) + m := by omega
    clear g1 g2 g3
    go_enter Tryz.func13, Tryz.ntmps13
    go_wp2_with fail
    go_ret
    exact ⟨⟨false, rfl, fun h => (by cases h)⟩, rfl⟩
  by_cases g4 : 1048576 < l
  · have g1' : ¬ (1048576 : Int) < n := by omega
    have g2' : ¬ (1048576 : Int) < m := by omega
    have g3' : ¬ (1048576 : Int) < (n : Int) + m := by omega
    have g4' : (1048576 : Int) < l := by omega
    clear g1 g2 g3 g4
    go_enter Tryz.func13, Tryz.ntmps13
    go_wp2_with fail
    go_ret
    exact ⟨⟨false, rfl, fun h => (by cases h)⟩, rfl⟩
  by_cases g5 : 1048576 < n + m + l
  · have g1' : ¬ (1048576 : Int) < n := by omega
    have g2' : ¬ (1048576 : Int) < m := by omega
    have g3' : ¬ (1048576 : Int) < (n : Int) + m := by omega
    have g4' : ¬ (1048576 : Int) < l := by omega
    have g5' : (1048576 : Int) < (n : Int) + m + l := by omega
    clear g1 g2 g3 g4 g5
    go_enter Tryz.func13, Tryz.ntmps13
    go_wp2_with fail
    go_ret
    exact ⟨⟨false, rfl, fun h => (by cases h)⟩, rfl⟩
  have g1' : ¬ (1048576 : Int) < n := by omega
  have g2' : ¬ (1048576 : Int) < m := by omega
  have g3' : ¬ (1048576 : Int) < (n : Int) + m := by omega
  have g4' : ¬ (1048576 : Int) < l := by omega
  have g5' : ¬ (1048576 : Int) < (n : Int) + m + l := by omega
  clear g1 g2 g3 g4 g5
  go_enter Tryz.func13, Tryz.ntmps13
  go_wp2_with fail
  go_loop [7, 8] (fun s i => ∃ k t : Nat, k ≤ l ∧ t ≤ 1048576 ∧ s = .int .i64 t ∧ i = .int .i64 k ∧ Hid (∀ i, i < k → (ss.getD i ⟨#[]⟩).size ≤ 1048576)) (fun _ i => l - (intOf i).toNat)
  case atStart => exact ⟨0, n + m + l, Nat.zero_le _, by omega, by go_num, rfl, Lib.hid (fun i hi => by omega)⟩
  case round =>
    obtain ⟨k, t, hk, ht, rfl, rfl, hb⟩ := hrel
    by_cases hlt : k < l
    · obtain ⟨b, off, rfl, hc⟩ := hs.out (by omega)
      have cs := hc k hlt
      have hz' : Hid (ss.getD k ⟨#[]⟩ = ss.getD k ⟨#[]⟩) := Lib.hid rfl
      obtain ⟨s, hz⟩ : ∃ s, s = ss.getD k ⟨#[]⟩ := ⟨_, rfl⟩
      rw [← hz] at cs
      have hz2 := Lib.hid hz
      clear hc hz hz'
      by_cases h1 : 1048576 < s.size
      · have h1' : (1048576 : Int) < (s.size : Int) := by omega
        go_wp2_with fail
        go_ret
        exact ⟨⟨false, rfl, fun h => (by cases h)⟩, rfl⟩
      · have h1' : ¬ (1048576 : Int) < (s.size : Int) := by omega
        by_cases h2 : 1048576 < t + s.size
        · have h2' : (1048576 : Int) < (t : Int) + s.size := by omega
          go_wp2_with fail
          go_ret
          exact ⟨⟨false, rfl, fun h => (by cases h)⟩, rfl⟩
        · have h2' : ¬ (1048576 : Int) < (t : Int) + s.size := by omega
          go_wp2_with fail
          go_round
          case rel => exact ⟨k + 1, t + s.size, by omega, by omega, by go_num, by go_num, Lib.hid (fun i hi => by
            by_cases e : i = k
            · rw [e, ← hz2.out]; omega
            · exact hb.out i (by omega))⟩
          case measure => simp [intOf]; omega
    · obtain rfl : k = l := by omega
      go_wp2_with fail
      go_ret
      exact ⟨⟨true, rfl, fun _ => ⟨by omega, by omega, by omega, hb.out⟩⟩, rfl⟩
theorem bytes20 (x y : Int) (a b c : Option Addr) (n m l cn cm cl : Nat) (ss : List ByteArray) (w : World) (h : IsTexts w c l cl ss) :
    Calls Tryz.prog 20 #[.int .i64 x, .int .i64 y, .slice a n cn, .slice b m cm, .slice c l cl] w fun e w' => Tells (n ≤ 1048576 ∧ m ≤ 1048576 ∧ l ≤ 1048576 ∧ Short l ss) e ∧ w = w' := by
  have hs := Lib.hid (fun h0 => h.spot h0)
  clear h
  by_cases g1 : 1048576 < n
  · have g1' : (1048576 : Int) < n := by omega
    clear g1
    go_enter Tryz.func20, Tryz.ntmps20
    go_wp2_with fail
    go_ret
    exact ⟨⟨false, rfl, fun h => (by cases h)⟩, rfl⟩
  by_cases g2 : 1048576 < m
  · have g1' : ¬ (1048576 : Int) < n := by omega
    have g2' : (1048576 : Int) < m := by omega
    clear g1 g2
    go_enter Tryz.func20, Tryz.ntmps20
    go_wp2_with fail
    go_ret
    exact ⟨⟨false, rfl, fun h => (by cases h)⟩, rfl⟩
  by_cases g3 : 1048576 < n + m
  · have g1' : ¬ (1048576 : Int) < n := by omega
    have g2' : ¬ (1048576 : Int) < m := by omega
    have g3' : (1048576 : Int) < (n : Int) + m := by omega
    clear g1 g2 g3
    go_enter Tryz.func20, Tryz.ntmps20
    go_wp2_with fail
    go_ret
    exact ⟨⟨false, rfl, fun h => (by cases h)⟩, rfl⟩
  by_cases g4 : 1048576 < l
  · have g1' : ¬ (1048576 : Int) < n := by omega
    have g2' : ¬ (1048576 : Int) < m := by omega
    have g3' : ¬ (1048576 : Int) < (n : Int) + m := by omega
    have g4' : (1048576 : Int) < l := by omega
    clear g1 g2 g3 g4
    go_enter Tryz.func20, Tryz.ntmps20
    go_wp2_with fail
    go_ret
    exact ⟨⟨false, rfl, fun h => (by cases h)⟩, rfl⟩
  by_cases g5 : 1048576 < n + m + l
  · have g1' : ¬ (1048576 : Int) < n := by omega
    have g2' : ¬ (1048576 : Int) < m := by omega
    have g3' : ¬ (1048576 : Int) < (n : Int) + m := by omega
    have g4' : ¬ (1048576 : Int) < l := by omega
    have g5' : (1048576 : Int) < (n : Int) + m + l := by omega
    clear g1 g2 g3 g4 g5
    go_enter Tryz.func20, Tryz.ntmps20
    go_wp2_with fail
    go_ret
    exact ⟨⟨false, rfl, fun h => (by cases h)⟩, rfl⟩
  have g1' : ¬ (1048576 : Int) < n := by omega
  have g2' : ¬ (1048576 : Int) < m := by omega
  have g3' : ¬ (1048576 : Int) < (n : Int) + m := by omega
  have g4' : ¬ (1048576 : Int) < l := by omega
  have g5' : ¬ (1048576 : Int) < (n : Int) + m + l := by omega
  clear g1 g2 g3 g4 g5
  go_enter Tryz.func20, Tryz.ntmps20
  go_wp2_with fail
  go_loop [11, 12] (fun s i => ∃ k t : Nat, k ≤ l ∧ t ≤ 1048576 ∧ s = .int .i64 t ∧ i = .int .i64 k ∧ Hid (∀ i, i < k → (ss.getD i ⟨#[]⟩).size ≤ 1048576)) (fun _ i => l - (intOf i).toNat)
  case atStart => exact ⟨0, n + m + l, Nat.zero_le _, by omega, by go_num, rfl, Lib.hid (fun i hi => by omega)⟩
  case round =>
    obtain ⟨k, t, hk, ht, rfl, rfl, hb⟩ := hrel
    by_cases hlt : k < l
    · obtain ⟨b, off, rfl, hc⟩ := hs.out (by omega)
      have cs := hc k hlt
      have hz' : Hid (ss.getD k ⟨#[]⟩ = ss.getD k ⟨#[]⟩) := Lib.hid rfl
      obtain ⟨s, hz⟩ : ∃ s, s = ss.getD k ⟨#[]⟩ := ⟨_, rfl⟩
      rw [← hz] at cs
      have hz2 := Lib.hid hz
      clear hc hz hz'
      by_cases h1 : 1048576 < s.size
      · have h1' : (1048576 : Int) < (s.size : Int) := by omega
        go_wp2_with fail
        go_ret
        exact ⟨⟨false, rfl, fun h => (by cases h)⟩, rfl⟩
      · have h1' : ¬ (1048576 : Int) < (s.size : Int) := by omega
        by_cases h2 : 1048576 < t + s.size
        · have h2' : (1048576 : Int) < (t : Int) + s.size := by omega
          go_wp2_with fail
          go_ret
          exact ⟨⟨false, rfl, fun h => (by cases h)⟩, rfl⟩
        · have h2' : ¬ (1048576 : Int) < (t : Int) + s.size := by omega
          go_wp2_with fail
          go_round
          case rel => exact ⟨k + 1, t + s.size, by omega, by omega, by go_num, by go_num, Lib.hid (fun i hi => by
            by_cases e : i = k
            · rw [e, ← hz2.out]; omega
            · exact hb.out i (by omega))⟩
          case measure => simp [intOf]; omega
    · obtain rfl : k = l := by omega
      go_wp2_with fail
      go_ret
      exact ⟨⟨true, rfl, fun _ => ⟨by omega, by omega, by omega, hb.out⟩⟩, rfl⟩

theorem script_bytes (a b c : Option Addr) (n m l cn cm cl : Nat) (ss : List ByteArray) (w : World) (h : IsTexts w c l cl ss) (hn : n ≤ 1048576) (hm : m ≤ 1048576) (hl : l ≤ 1048576) (hss : Short l ss) :
    Calls Tryz.prog 14 #[.slice a n cn, .slice b m cm, .slice c l cl] w fun e w' => (∃ z : Int, e = .returned (.int .i64 z)) ∧ w = w' := by
  have hs := Lib.hid (fun h0 => h.spot h0)
  have hss' := Lib.hid hss
  clear h hss
  by_cases g1 : (1048576 : Int) < 8 * n + 8 * m + 16 * l
  · go_enter Tryz.func14, Tryz.ntmps14
    go_wp2_with fail
    go_ret
    exact ⟨⟨_, rfl⟩, rfl⟩
  go_enter Tryz.func14, Tryz.ntmps14
  go_wp2_with fail
  go_loop [7, 8] (fun s i => ∃ k t : Nat, k ≤ l ∧ t ≤ 1048576 ∧ s = .int .i64 t ∧ i = .int .i64 k) (fun _ i => l - (intOf i).toNat)
  case atStart => exact ⟨0, 8 * n + 8 * m + 16 * l, Nat.zero_le _, by omega, by go_num, rfl⟩
  case round =>
    obtain ⟨k, t, hk, ht, rfl, rfl⟩ := hrel
    by_cases hlt : k < l
    · obtain ⟨b, off, rfl, hc⟩ := hs.out (by omega)
      have cs := hc k hlt
      have hq := hss'.out k hlt
      obtain ⟨s, hz⟩ : ∃ s, s = ss.getD k ⟨#[]⟩ := ⟨_, rfl⟩
      rw [← hz] at cs hq
      clear hc hz
      by_cases h2 : (1048576 : Int) < (t : Int) + s.size
      · go_wp2_with fail
        go_ret
        exact ⟨⟨_, rfl⟩, rfl⟩
      · go_wp2_with fail
        go_round
        case rel => exact ⟨k + 1, t + s.size, by omega, by omega, by go_num, by go_num⟩
        case measure => simp [intOf]; omega
    · obtain rfl : k = l := by omega
      go_wp2_with fail
      go_ret
      exact ⟨⟨_, rfl⟩, rfl⟩
end Go.Proofs.YtbgolkdhcgjfkaaGreatDoor
