/-
  prescale, uscale, parseFloat64: each returns; the values are left open.
-/
import Derived.Test.YtjaibjdhfljmmaaDoorScale
import Derived.Test.YtjaibjdhfljmmaaDoorDigits
import Derived.Test.YtjaibjdhfljmmaaDoorNoFloat
namespace Go.Proofs.YtjaibjdhfljmmaaDoor
open Go.RowKit
set_option maxRecDepth 100000
set_option maxHeartbeats 4000000

/-- The table of the powers of ten: words. -/
def Tab (w : World) : Prop := ∀ i, i < 1392 → ∃ z : Int, w.cell? ⟨9, i, none⟩ = some (.int .u64 z)

def Scaler (w : World) (B : Nat) : Prop := ∃ a b c : Int, w.heap[B]? = some (.cells #[.int .u64 a, .int .u64 b, .int .i64 c] 124 (0, 0))

theorem prescale (B : Nat) (e lp : Int) (k : Nat) (hk : k < 696) (w : World) (h9 : 9 < B) (hT : Tab w) (hB : Scaler w B) :
    Calls Tryd.prog 66 #[.pointer (some ⟨B, 0, none⟩), .int .i64 e, .int .i64 ((k : Int) - 348), .int .i64 lp] w fun e w' => e = .returned (.tuple #[]) ∧ Scaler w' B ∧ Below B w w' := by
  obtain ⟨z1, c1⟩ := hT (k * 2) (by omega)
  obtain ⟨z2, c2⟩ := hT (k * 2 + 1) (by omega)
  obtain ⟨a, b, c, hb⟩ := hB
  have hb' := Lib.hid hb
  have d0 : w.cell? ⟨B, 0, none⟩ = some (.int .u64 a) := by rw [cell_of hb]; rfl
  have d1 : w.cell? ⟨B, 1, none⟩ = some (.int .u64 b) := by rw [cell_of hb]; rfl
  have d2 : w.cell? ⟨B, 2, none⟩ = some (.int .i64 c) := by rw [cell_of hb]; rfl
  have f0 : w.frozen? ⟨B, 0, none⟩ = false := free_of hb
  have f1 : w.frozen? ⟨B, 1, none⟩ = false := free_of hb
  have f2 : w.frozen? ⟨B, 2, none⟩ = false := free_of hb
  have hne : (9 : Nat) ≠ B := by omega
  have hne' : B ≠ 9 := by omega
  clear hb hT
  go_enter Tryd.func66, Tryd.ntmps66
  go_wp2
  go_end0
  exact ⟨rfl, ⟨_, _, _, set_same _ (set_same _ (set_same _ hb'.out))⟩, Below.setCell (p := ⟨B, 2, none⟩) (Below.setCell (p := ⟨B, 1, none⟩) (Below.setCell (p := ⟨B, 0, none⟩) (Below.refl _ _) (Nat.le_refl _) _) (Nat.le_refl _) _) (Nat.le_refl _) _⟩

theorem and63 (c : Int) : ∃ n : Nat, n ≤ 63 ∧ bits .and .i64 c 63 = (n : Int) := by
  obtain ⟨m, hm⟩ : ∃ m, ((BitVec.ofInt 64 c) &&& (BitVec.ofInt 64 63)).toNat = m := ⟨_, rfl⟩
  have h : m ≤ 63 := by
    rw [← hm, BitVec.toNat_and]
    exact Nat.and_le_right
  refine ⟨m, h, ?_⟩
  show IntKind.i64.wrap (((BitVec.ofInt 64 c) &&& (BitVec.ofInt 64 63)).toNat : Int) = _
  rw [hm]
  simp [IntKind.wrap, IntKind.bits, IntKind.signed]
  omega

theorem b2u' (b : Bool) (w : World) : Calls Tryd.prog 56 #[.bool b] w fun e w' => e = .returned (.int .u64 (if b then 1 else 0)) ∧ w' = w := (b2u b w).mono fun _ _ ⟨h, h'⟩ => ⟨h, h'.symm⟩

def OneUD (w : World) (e : Ending) (w' : World) : Prop := (∃ a : Int, e = .returned (.int .u64 a)) ∧ ∃ n, w' = w.drewN n

theorem uscale (x : Int) (B : Nat) (w : World) (hB : Scaler w B) :
    Calls Tryd.prog 67 #[.int .u64 x, .pointer (some ⟨B, 0, none⟩)] w fun e w' => OneUD w e w' := by
  obtain ⟨a, b, c, hb⟩ := hB
  have d0 : w.cell? ⟨B, 0, none⟩ = some (.int .u64 a) := by rw [cell_of hb]; rfl
  have d1 : w.cell? ⟨B, 1, none⟩ = some (.int .u64 b) := by rw [cell_of hb]; rfl
  have d2 : w.cell? ⟨B, 2, none⟩ = some (.int .i64 c) := by rw [cell_of hb]; rfl
  obtain ⟨n, hn, hc⟩ := and63 c
  have HM := Lib.hid (fun (x y : Int) (W : World) => mul64 x y W)
  have HU := Lib.hid (fun (b : Bool) (W : World) => b2u b W)
  clear hb
  go_enter Tryd.func67, Tryd.ntmps67
  go_wp2_with fail
  refine (HM.out _ _ _).mono ?_
  rintro e w' ⟨⟨y1, y2, rfl⟩, rfl⟩
  go_upto_region 3 with fail
  go_cut [30] (fun t wx => ∃ b : Bool, t = .bool b ∧ Hid (w = wx))
  case first =>
    go_wp2_with fail
    go_meet
    case rel => exact ⟨_, rfl, Lib.hid rfl⟩
  case rest =>
    obtain ⟨r, rfl, hw⟩ := hcut
    have hw' := hw.out
    subst hw'
    clear hw
    cases r with
    | true =>
      go_wp2_with fail
      go_ret
      exact ⟨⟨_, rfl⟩, 0, rfl⟩
    | false =>
      go_wp2_with fail
      refine (HM.out _ _ _).mono ?_
      rintro e w' ⟨⟨y3, y4, rfl⟩, rfl⟩
      go_upto_region 6 with fail
      go_cut [5] (fun t wx => ∃ y : Int, t = .int .u64 y ∧ Hid (w = wx))
      case first =>
        go_wp2_with fail
        refine (HU.out _ _).mono ?_
        rintro e w' ⟨rfl, rfl⟩
        go_wp2_with fail
        all_goals
          go_meet
          case rel => exact ⟨_, rfl, Lib.hid rfl⟩
      case rest =>
        obtain ⟨y5, rfl, hw⟩ := hcut
        have hw' := hw.out
        subst hw'
        clear hw HU HM
        go_upto_region 7 with fail
        go_quiet ((go_at_call 56; exact Calls.quiet_of_same (b2u' _ _)))
        go_wp2_with fail
        all_goals
          go_ret
          exact ⟨⟨_, rfl⟩, _, rfl⟩

theorem below_drewN' {B : Nat} {w : World} (n : Nat) : Below B w (w.drewN n) := ⟨rfl, rfl, rfl, Nat.le_refl _, fun _ _ => rfl⟩

theorem Tab.below {w w' : World} (h : Tab w) (hb : Below w.heap.size w w') : Tab w' := fun i hi => by
  obtain ⟨z, hz⟩ := h i hi
  exact ⟨z, (hb.cell (p := ⟨9, i, none⟩) (Lib.lt_of_cell hz)).trans hz⟩

attribute [local go_sem] fb57

theorem parse64 (d : Int) (p : Int) (sg : Int) (w : World) (h0 : 0 ≤ d) (h1 : d < 18446744073709551616) (p1 : -345 ≤ p) (p2 : p ≤ 310) (hT : Tab w) :
    Calls Tryd.prog 59 #[.int .u64 d, .int .i64 p, .int .u64 sg] w fun e w' => FloatEr e ∧ Below w.heap.size w w' := by
  obtain ⟨k, hk, rfl⟩ : ∃ k : Nat, k < 696 ∧ p = (k : Int) - 348 := ⟨(p + 348).toNat, by omega, by omega⟩
  have HL := Lib.hid (len64_any d w h0 (by omega))
  have HG := Lib.hid (log2pow ((k : Int) - 348) w)
  have h9 : 9 < w.heap.size := by obtain ⟨z, hz⟩ := hT 0 (by omega); exact Lib.lt_of_cell hz
  have hT' := Lib.hid hT
  have HU := Lib.hid (fun (x : Int) (W : World) => unmin x W)
  have HB := Lib.hid (fun (b : Bool) (W : World) => b2i b W)
  have HR := Lib.hid (fun (x : Int) (W : World) => uround x W)
  have HP := Lib.hid (fun (x y : Int) (W : World) => pack64 x y W)
  clear hT
  go_enter Tryd.func59, Tryd.ntmps59
  go_wp2_with fail
  refine HL.out.mono ?_
  rintro e w' ⟨⟨b, hb64, rfl⟩, rfl⟩
  clear HL
  go_wp2_with fail
  refine HG.out.mono ?_
  rintro e w' ⟨⟨lp, rfl⟩, rfl⟩
  clear HG
  go_upto_region 3 with fail
  go_cut [10] (fun t wx => ∃ y : Int, t = .int .i64 y ∧ Hid (w = wx))
  case first =>
    go_wp2_with fail
    all_goals
      go_meet
      case rel => exact ⟨_, rfl, Lib.hid rfl⟩
  case rest =>
    obtain ⟨ee, rfl, hw⟩ := hcut
    have hw' := hw.out
    subst hw'
    clear hw
    go_wp2_with fail
    have hba : Below w.heap.size w (w.alloc (.cells #[.int .u64 0, .int .u64 0, .int .i64 0] 124)) := (Below.refl _ _).alloc (Nat.le_refl _) _
    refine (prescale w.heap.size _ _ k hk _ h9 (hT'.out.below hba) ⟨0, 0, 0, heap_alloc_new w _⟩).mono ?_
    rintro e w1 ⟨rfl, hsc, hb1⟩
    have hbb := Lib.hid (hba.trans hb1)
    have hsc' := Lib.hid hsc
    obtain ⟨a, b2, c, hsc⟩ := hsc
    have d2 : w1.cell? ⟨w.heap.size, 2, none⟩ = some (.int .i64 c) := by rw [cell_of hsc]; rfl
    clear hsc hba hb1
    by_cases hc : 64 ≤ c
    · go_wp2_with fail
      go_ret2
      exact ⟨⟨_, _, rfl, Or.inl rfl⟩, hbb.out⟩
    · have hbn : (0 : Int) ≤ 64 - (b : Int) := by omega
      go_wp2_with fail
      refine (uscale _ w.heap.size w1 hsc'.out).mono ?_
      rintro e w2 ⟨⟨u, rfl⟩, nq, rfl⟩
      have hb2 := Lib.hid (hbb.out.trans (below_drewN' nq (B := w.heap.size) (w := w1)))
      go_wp2_with fail
      refine (HU.out _ _).mono ?_
      rintro e w' ⟨⟨m, rfl⟩, rfl⟩
      by_cases hmu : m ≤ u
      all_goals
        go_wp2_with fail
        refine (HB.out _ _).mono ?_
        rintro e w' ⟨rfl, rfl⟩
        go_wp2_with fail
        refine (HR.out _ _).mono ?_
        rintro e w' ⟨⟨y, rfl⟩, rfl⟩
        go_wp2_with fail
        refine (HP.out _ _ _).mono ?_
        rintro e w' ⟨⟨f, er, rfl, her⟩, rfl⟩
        have her' := Lib.hid her
        clear her
        go_wp2_with fail
        go_ret2
        exact ⟨⟨f, er, rfl, her'.out⟩, hb2.out⟩
end Go.Proofs.YtjaibjdhfljmmaaDoor
