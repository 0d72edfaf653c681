/-
  ParseFloat and parseNumber, out of what atof64 and ParseInt answer; a text with no digit and none of i, I, n, N is refused.
-/
import Derived.Test.YtjaibjdhfljmmaaDoorNoFloat
namespace Go.Proofs.YtjaibjdhfljmmaaDoor
open Go.RowKit
set_option maxRecDepth 100000
set_option maxHeartbeats 1000000

def FErr (e : Ending) : Prop := ∃ (f : Nat) (k : Int), (k = 1 ∨ k = 2) ∧ e = .returned (.tuple #[.float .f64 f, .iface 70 (.int .i64 k)])
def A64Bad (s : ByteArray) (e : Ending) : Prop := ∃ (f n : Nat) (er : Value), e = .returned (.tuple #[.float .f64 f, .int .i64 n, er]) ∧ ((er = .nilIface ∧ n ≠ s.size) ∨ ∃ k : Int, (k = 1 ∨ k = 2) ∧ er = .iface 70 (.int .i64 k))

theorem pfp_bad (s : ByteArray) (w : World) (hA : Calls Tryd.prog 45 #[.string s] w fun e w' => A64Bad s e ∧ Below w.heap.size w w') :
    Calls Tryd.prog 38 #[.string s, .int .i64 64] w fun e w' => A64Bad s e ∧ Below w.heap.size w w' := by
  have HA := Lib.hid hA
  clear hA
  go_enter Tryd.func38, Tryd.ntmps38
  go_wp2_with fail
  refine HA.out.mono ?_
  rintro e w1 ⟨⟨f, n, er, rfl, hor⟩, hb⟩
  have hor' := Lib.hid hor
  have hb' := Lib.hid hb
  clear hor hb
  go_wp2_with fail
  go_ret3
  exact ⟨⟨f, n, er, rfl, hor'.out⟩, hb'.out⟩

theorem ipf_bad (s : ByteArray) (w : World) (hA : Calls Tryd.prog 45 #[.string s] w fun e w' => A64Bad s e ∧ Below w.heap.size w w') :
    Calls Tryd.prog 30 #[.string s, .int .i64 64] w fun e w' => FErr e ∧ Below w.heap.size w w' := by
  have HA := Lib.hid (pfp_bad s w hA)
  clear hA
  go_enter Tryd.func30, Tryd.ntmps30
  go_wp2_with fail
  refine HA.out.mono ?_
  rintro e w1 ⟨⟨f, n, er, rfl, hor⟩, hb⟩
  have hb' := Lib.hid hb
  clear hb
  by_cases hn : n = s.size
  · rcases hor with ⟨_, h⟩ | ⟨k, hk, rfl⟩
    · exact absurd hn h
    · have hk' := Lib.hid hk
      have hn' : ((n : Int) != (s.size : Int)) = false := by rw [hn]; simp
      clear hk hn
      go_wp2_with fail
      go_ret2
      exact ⟨⟨f, k, hk'.out, rfl⟩, hb'.out⟩
  · have hn' : ((n : Int) != (s.size : Int)) = true := by simpa using (by omega : ¬ (n : Int) = (s.size : Int))
    clear hor hn
    go_wp2_with fail
    go_ret2
    exact ⟨⟨0, 2, Or.inr rfl, rfl⟩, hb'.out⟩

/-- strconv.ParseFloat where atof64 fails or stops short. -/
theorem spf_bad (s : ByteArray) (w : World) (hmax : s.size ≤ 1073741824) (hv : Errs w) (hA : Calls Tryd.prog 45 #[.string s] w fun e w' => A64Bad s e ∧ Below w.heap.size w w') :
    Calls Tryd.prog 24 #[.string s, .int .i64 64] w fun e w' => (∃ (f N : Nat), e = .returned (.tuple #[.float .f64 f, .iface 74 (.pointer (some ⟨N, 0, none⟩))])) ∧ Below w.heap.size w w' := by
  have HI := Lib.hid (ipf_bad s w hA)
  have hv' := Lib.hid hv
  have HT := Lib.hid (fun (W : World) (k : Int) (hk : k = 1 ∨ k = 2) (h : Errs W) => to_error ⟨#[80, 97, 114, 115, 101, 70, 108, 111, 97, 116]⟩ s 0 64 k W hk (by omega) h)
  have hn := neq_nil
  clear hA hv
  go_enter Tryd.func24, Tryd.ntmps24
  go_wp2_with fail
  refine HI.out.mono ?_
  rintro e w1 ⟨⟨f, k, hk, rfl⟩, hb⟩
  have HT' := Lib.hid (HT.out w1 k hk (hv'.out.below hb))
  have hb' := Lib.hid hb
  clear hk hb HT
  go_wp2_with fail
  refine HT'.out.mono ?_
  rintro e w2 ⟨⟨N, rfl⟩, hb2⟩
  have hb2' := Lib.hid (hb'.out.trans (hb2.mono hb'.out.size))
  clear hb2
  go_wp2_with fail
  go_ret2
  exact ⟨⟨f, N, rfl⟩, hb2'.out⟩

/-- parseNumber where both fail: (0, an error). -/
theorem pn_bad (s : ByteArray) (w : World) (hmax : s.size ≤ 1073741824) (hv : Errs w)
    (hI : ∀ (t : ByteArray) (W : World), Trimmed s.data.toList t.data.toList → Calls Tryd.prog 28 #[.string t, .int .i64 0, .int .i64 64] W fun e w' => PiErr e ∧ Below W.heap.size W w')
    (hA : ∀ (t : ByteArray) (W : World), Trimmed s.data.toList t.data.toList → Calls Tryd.prog 45 #[.string t] W fun e w' => A64Bad t e ∧ Below W.heap.size W w') :
    Calls Tryd.prog 20 #[.string s] w fun e w' => (∃ N : Nat, e = .returned (.tuple #[.float .f64 0, .iface 74 (.pointer (some ⟨N, 0, none⟩))])) ∧ Below w.heap.size w w' := by
  have HT := Lib.hid (trim_any s w hmax)
  have hI' := Lib.hid hI
  have hA' := Lib.hid hA
  have hv' := Lib.hid hv
  have hmax' := Lib.hid hmax
  have hnn : ∀ (p : Value) (W : World), (binOp .neq 37 (.iface 74 p) .nilIface).run Tryd.prog W = .ok (.bool true) W := fun p W => by kernel_rfl
  clear hI hA hv hmax
  go_enter Tryd.func20, Tryd.ntmps20
  go_wp2_with fail
  refine HT.out.mono ?_
  rintro e w1 ⟨⟨t, rfl, ht⟩, hb1⟩
  have hsz : t.size ≤ 1073741824 := by have := ht.length; have := hmax'.out; rw [Lib.size_eq] at *; omega
  have he1 := hv'.out.below hb1
  have HI := Lib.hid (spi_err t w1 hsz he1 (hI'.out t w1 ht))
  have hb1' := Lib.hid hb1
  have ht' := Lib.hid ht
  have he1' := Lib.hid he1
  have hsz' := Lib.hid hsz
  clear HT hb1 ht he1 hsz hI'
  go_wp2_with fail
  refine HI.out.mono ?_
  rintro e w2 ⟨⟨z, N, rfl⟩, hb2⟩
  have HF := Lib.hid (spf_bad t w2 hsz'.out (he1'.out.below hb2) (hA'.out t w2 ht'.out))
  have hb2' := Lib.hid (hb1'.out.trans (hb2.mono hb1'.out.size))
  clear HI hb2 hA'
  go_wp2_with fail
  refine HF.out.mono ?_
  rintro e w3 ⟨⟨f, N2, rfl⟩, hb3⟩
  have hb3' := Lib.hid (hb2'.out.trans (hb3.mono hb2'.out.size))
  clear HF hb3
  go_wp2_with fail
  go_ret2
  exact ⟨⟨N2, rfl⟩, hb3'.out⟩

/-- No digit, and none of i, I, n, N. -/
def Plain (l : List UInt8) : Prop := ∀ x ∈ l, ¬ (48 ≤ x.toNat ∧ x.toNat ≤ 57) ∧ ¬ (x = 105 ∨ x = 73 ∨ x = 110 ∨ x = 78)

theorem Plain.trim {l t : List UInt8} (h : Plain l) (ht : Trimmed l t) : Plain t := fun x hx => h x (ht.mem hx)

theorem a64_plain (s : ByteArray) (hs : s.size ≤ 1073741824) (hp : Plain s.data.toList) (w : World) :
    Calls Tryd.prog 45 #[.string s] w fun e w' => A64Bad s e ∧ Below w.heap.size w w' := by
  have HS := Lib.hid (special_any s hs w)
  have HR := Lib.hid (rf_no s hs (fun x hx => (hp x hx).1) w)
  have hp' := Lib.hid hp
  clear hp
  go_enter Tryd.func45, Tryd.ntmps45
  go_wp2_with fail
  refine HS.out.mono ?_
  rintro e w' ⟨⟨f, n, ok, rfl, hok⟩, rfl⟩
  cases ok with
  | true =>
    obtain ⟨_, ⟨x, hx, hl⟩, _⟩ := hok rfl
    exact absurd hl (hp'.out x hx).2
  | false =>
    clear hok HS
    go_wp2_with fail
    refine HR.out.mono ?_
    rintro e w' ⟨⟨i, ng, hi, rfl⟩, rfl⟩
    clear HR
    go_wp2_with fail
    go_ret3
    exact ⟨⟨0, i, _, rfl, Or.inr ⟨2, Or.inr rfl, rfl⟩⟩, Below.refl _ _⟩

theorem pi_plain (t : ByteArray) (hs : t.size ≤ 1073741824) (hp : Plain t.data.toList) (w : World) :
    Calls Tryd.prog 28 #[.string t, .int .i64 0, .int .i64 64] w fun e w' => PiErr e ∧ Below w.heap.size w w' := by
  rcases Nat.eq_zero_or_pos t.size with hz | hne
  · have ht : t = ⟨#[]⟩ := by
      apply ByteArray.ext
      exact Array.eq_empty_of_size_eq_zero hz
    subst ht
    exact (pi_empty w).mono fun e w' ⟨he, hw⟩ => ⟨⟨0, 2, Or.inr rfl, he⟩, hw ▸ Below.refl _ _⟩
  · by_cases sg : t[0] = 43 ∨ t[0] = 45
    · refine pi_err_sign t hne w sg ?_
      have hex : (t.extract 1 t.size).data.toList = t.data.toList.drop 1 := by rw [Lib.extract_data, List.take_of_length_le (by simp)]
      have hp2 : Plain (t.extract 1 t.size).data.toList := by rw [hex]; exact fun x hx => hp x (List.mem_of_mem_drop hx)
      have hsz : (t.extract 1 t.size).size = t.size - 1 := by rw [Lib.size_eq, hex, List.length_drop, ← Lib.size_eq]
      generalize t.extract 1 t.size = u at hp2 hsz
      rcases Nat.eq_zero_or_pos u.size with hz | hnu
      · have ht : u = ⟨#[]⟩ := by
          apply ByteArray.ext
          exact Array.eq_empty_of_size_eq_zero hz
        subst ht
        exact (pu_empty w).mono fun e w' ⟨he, hw⟩ => ⟨Or.inr he, hw ▸ Below.refl _ _⟩
      · exact (pu_plain u hnu (by omega) (fun x hx => (hp2 x hx).1) w).mono fun e w' ⟨he, hw⟩ => ⟨Or.inr he, hw⟩
    · exact pi_err_plain t hne w (fun h => sg (Or.inl h)) (fun h => sg (Or.inr h)) ((pu_plain t hne hs (fun x hx => (hp x hx).1) w).mono fun e w' ⟨he, hw⟩ => ⟨Or.inr he, hw⟩)

theorem pn_plain (s : ByteArray) (w : World) (hmax : s.size ≤ 1073741824) (hv : Errs w) (hp : Plain s.data.toList) :
    Calls Tryd.prog 20 #[.string s] w fun e w' => (∃ N : Nat, e = .returned (.tuple #[.float .f64 0, .iface 74 (.pointer (some ⟨N, 0, none⟩))])) ∧ Below w.heap.size w w' := by
  have hsz : ∀ t : ByteArray, Trimmed s.data.toList t.data.toList → t.size ≤ 1073741824 := fun t ht => by have := ht.length; rw [Lib.size_eq] at *; omega
  exact pn_bad s w hmax hv (fun t W ht => pi_plain t (hsz t ht) (hp.trim ht) W) (fun t W ht => a64_plain t (hsz t ht) (hp.trim ht) W)
end Go.Proofs.YtjaibjdhfljmmaaDoor
