/-
  The package-level tables that the parsing of floats reads, out of the row's premise on them.
-/
import Derived.Test.YtjaibjdhfljmmaaDoorVars
import Derived.Test.YtjaibjdhfljmmaaDoorForLaw
import Derived.OpenShut
import Derived.ChangeArms
import Derived.ChangeSame
import Derived.Deep.Strs
import GoSem.PinnedTables
namespace Go.Proofs.YtjaibjdhfljmmaaDoor
open Go.RowKit
set_option maxRecDepth 100000

theorem add_pl (b o i : Nat) : (⟨b, o, none⟩ : Addr).add i = ⟨b, o + i, none⟩ := by unfold Addr.add; split <;> simp_all

section
variable {H : Type} {enc : TypeId × Value → H} {P : Program} {w : World} {base : Nat} {spare : Nat → Bool} {held : Bool} {fuel : Nat} {t : TypeId} {cs : List Value} {x : DataW H × List MemPlace}

theorem trod_float (k : FloatKind) (ht : P.underlying t = some (.float k)) (h : DataW.trod enc P w base spare held fuel t cs = some x) : ∃ n, cs = [.float k n] ∧ x = (.lit (.float k n), []) := by
  cases fuel with
  | zero => simp [DataW.trod] at h
  | succ n =>
    unfold DataW.trod at h
    rw [ht] at h
    split at h <;> simp_all

/-- A slice's cells. -/
theorem slice_cells {e : TypeId} {ds rest : List (DataW H)} {p : List MemPlace} (ht : P.underlying t = some (.slice e)) (hce : 0 < P.cellsOf e) (hd : 0 < ds.length) (h : DataW.trod enc P w base spare held fuel t cs = some (.slice ds rest, p)) :
    ∃ (G o cap n : Nat), cs = [.slice (some ⟨G, o, none⟩) ds.length cap] ∧
      ∀ i (hi : i < ds.length), ∃ cs' q, cs'.length = P.cellsOf e ∧ (∀ j, j < P.cellsOf e → w.cell? ⟨G, o + i * P.cellsOf e + j, none⟩ = cs'[j]?) ∧ DataW.trod enc P w base spare held n e cs' = some (ds[i], q) := by
  rcases DataW.trod_slice ht h with ⟨_, h0⟩ | ⟨a, len, cap, elems, r, n, _, rfl, hx, hb, hl, hm, hlen, hel, _, _⟩
  · cases h0
  · simp only [Prod.mk.injEq, DataW.slice.injEq] at hx
    obtain ⟨⟨rfl, _⟩, _⟩ := hx
    simp only [List.length_map] at hd ⊢
    have hsp : a.spot = none := by
      have h1 := hel 0 (by omega)
      rw [List.getElem?_eq_getElem hd, Option.bind_eq_some_iff] at h1
      obtain ⟨cs', hc, ht'⟩ := h1
      obtain ⟨_, h3, h4⟩ := World.cells?_some hc
      have h5 := h4 0 hce
      rw [List.getElem?_eq_getElem (by omega), Nat.zero_mul] at h5
      cases hs : a.spot with
      | none => rfl
      | some k =>
        exfalso
        unfold World.cell? at h5
        split at h5
        · simp [Addr.add, hs] at h5
        · cases h5
    obtain ⟨G, o, sp⟩ := a
    simp only at hsp
    subst hsp
    refine ⟨G, o, cap, n, by rw [hlen], fun i hi => ?_⟩
    have h1 := hel i (by omega)
    rw [List.getElem?_eq_getElem hi, Option.bind_eq_some_iff] at h1
    obtain ⟨cs', hc, ht'⟩ := h1
    obtain ⟨_, h3, h4⟩ := World.cells?_some hc
    refine ⟨cs', elems[i].2, h3, fun j hj => ?_, by rw [ht', List.getElem_map]⟩
    rw [← h4 j hj, add_pl, add_pl]
end

/-- A text's digits, as a number. -/
def dval : List UInt8 → Nat → Nat
  | [], a => a
  | c :: r, a => dval r (a * 10 + (c.toNat - 48))

theorem dval_append (l : List UInt8) (c : UInt8) : ∀ a, dval (l ++ [c]) a = dval l a * 10 + (c.toNat - 48) := by
  induction l with
  | nil => intro a; rfl
  | cons x r ih => intro a; exact ih _

theorem dnum_dval (s : ByteArray) : ∀ n, n ≤ s.size → dnum (cdig s) n = dval (s.data.toList.take n) 0 := by
  intro n
  induction n with
  | zero => intro _; simp [dnum, dval]
  | succ n ih =>
    intro h
    have hl : n < s.data.toList.length := by rw [← Lib.size_eq]; omega
    rw [dnum, ih (by omega), List.take_succ_eq_append_getElem hl, dval_append]
    have e : cdig s n = ((s.data.toList[n]).toNat : Int) := by
      unfold cdig
      rw [dif_pos (show n < s.size by omega)]
      rfl
    rw [e]
    omega

/-- An entry of the cheat table, looked at by program. -/
def chk (k e : Nat) (l : List UInt8) : Bool := decide (0 < e) && e + l.length == k + 1 && dval l 0 == 5 ^ k && decide (10 ^ l.length ≤ 5 ^ k * 10) && l.all (fun c => 48 ≤ c.toNat && c.toNat ≤ 57) && decide (l.length ≤ 800)

theorem chk_cheat {k e : Nat} {s : ByteArray} (h : chk k e s.data.toList = true) : Cheat k e s := by
  simp only [chk, Bool.and_eq_true, decide_eq_true_eq, beq_iff_eq, List.all_eq_true] at h
  obtain ⟨⟨⟨⟨⟨h1, h2⟩, h3⟩, h4⟩, h5⟩, h6⟩ := h
  rw [← Lib.size_eq] at h2 h4 h6
  refine ⟨h1, h2, ?_, h4, ?_, h6⟩
  · rw [dnum_dval s _ (Nat.le_refl _), List.take_of_length_le (by rw [← Lib.size_eq]; exact Nat.le_refl _), h3]
  · intro j hj
    have hm : s.data.toList[j]'(by rw [← Lib.size_eq]; exact hj) ∈ s.data.toList := List.getElem_mem _
    have := h5 _ hm
    have e : cdig s j = ((s.data.toList[j]'(by rw [← Lib.size_eq]; exact hj)).toNat : Int) := by
      unfold cdig
      rw [dif_pos hj]
      rfl
    rw [e]
    omega

theorem cheats_chk : ((List.range 61).all fun k => k == 0 || match Pinned.cheatRows[k]? with | some x => chk k x.1 x.2 | none => false) = true := by decide

theorem struct_field {H : Type} {enc : TypeId × Value → H} {P : Program} {w : World} {base : Nat} {spare : Nat → Bool} {held : Bool} {fuel : Nat} {t : TypeId} {cs : List Value} {x : DataW H × List MemPlace} {fs : Array Field}
    (ht : P.underlying t = some (.struct fs)) (h : DataW.trod enc P w base spare held fuel t cs = some x) {i : Nat} {ty : TypeId} {off : Nat} (hi : (fs[i]?).map (fun f => (f.type, f.offset)) = some (ty, off)) :
    ∃ n y, DataW.trod enc P w base spare held n ty ((cs.drop off).take (P.cellsOf ty)) = some y ∧ ∀ ds, x.1 = .agg ds → ds[i]? = some y.1 := by
  obtain ⟨xs, n, _, rfl, hl, hlen, hf⟩ := DataW.trod_struct ht h
  obtain ⟨f, hf', he⟩ := Option.map_eq_some_iff.1 hi
  simp only [Prod.mk.injEq] at he
  obtain ⟨rfl, rfl⟩ := he
  have h1 := hf i f hf'
  have hlt : i < xs.length := by
    have := (Array.getElem?_eq_some_iff.1 hf').1
    omega
  rw [List.getElem?_eq_getElem hlt] at h1
  refine ⟨n, xs[i], h1, fun ds hd => ?_⟩
  simp only [DataW.agg.injEq] at hd
  rw [← hd, List.getElem?_map, List.getElem?_eq_getElem hlt]
  rfl

theorem one_cell {cs : List Value} {off : Nat} {v : Value} (h : (cs.drop off).take 1 = [v]) : cs[off]? = some v := by
  have h1 : ((cs.drop off).take 1)[0]? = some v := by rw [h]; rfl
  rw [List.getElem?_take_of_lt (by omega), List.getElem?_drop] at h1
  simpa using h1

theorem glob_at {w : World} {l : List (String × DataW Unit)} (hL : laidMet Tryd.prog l w) {n : String} {d : DataW Unit} (hm : (n, d) ∈ l) {g : Nat} {t : TypeId} (hg : Tryd.prog.globalNamed n = some g) (ht : (Tryd.prog.globals[g]?).map (·.type) = some t) :
    ∃ (cs : List Value) (f : Nat) (p : List MemPlace), (∀ i, w.cell? ⟨g, i, none⟩ = cs[i]?) ∧ DataW.trod (fun _ => ()) Tryd.prog w 0 (fun _ => true) false f t cs = some (d, p) ∧ (0 < cs.length → ∃ c u, w.heap[g]? = some (.cells c u (0, 0))) := by
  obtain ⟨ps, hv, _, hps⟩ := hL
  obtain ⟨g', t', cs, f, p, hg', ht', hvar, hd, hin⟩ := laid_at hv hm
  obtain rfl := Option.some.inj (hg.symm.trans hg')
  obtain rfl := Option.some.inj (ht.symm.trans ht')
  refine ⟨cs.toList, f, p, fun i => by rw [World.var?_cell hg hvar i, Array.getElem?_toList], hd, fun h0 => ?_⟩
  have hmem : MemPlace.cell g 0 ∈ MemPlace.row ⟨g, 0, none⟩ cs.size ++ p := by
    refine List.mem_append_left _ ?_
    unfold MemPlace.row
    refine List.mem_map.2 ⟨0, List.mem_range.2 (by simpa using h0), ?_⟩
    simp
  exact (hps g 0 (hin _ hmem)).1

section
variable {w : World} {f : Nat} {t ty : TypeId} {cs : List Value} {x : DataW Unit × List MemPlace} {fs : Array Field}

theorem int_field {k : IntKind} (ht : Tryd.prog.underlying t = some (.struct fs)) (h : DataW.trod (fun _ => ()) Tryd.prog w 0 (fun _ => true) false f t cs = some x) {i off : Nat} (hi : (fs[i]?).map (fun f => (f.type, f.offset)) = some (ty, off))
    (hty : Tryd.prog.underlying ty = some (.int k)) (hc : Tryd.prog.cellsOf ty = 1) : ∃ m, cs[off]? = some (.int k m) ∧ ∀ ds, x.1 = .agg ds → ds[i]? = some (.lit (.int k m)) := by
  obtain ⟨n, y, h1, h2⟩ := struct_field ht h hi
  obtain ⟨m, h3, h4, _⟩ := DataW.trod_int hty h1
  rw [hc] at h3
  exact ⟨m, one_cell h3, fun ds hd => by rw [h2 ds hd, h4]⟩

theorem str_field (ht : Tryd.prog.underlying t = some (.struct fs)) (h : DataW.trod (fun _ => ()) Tryd.prog w 0 (fun _ => true) false f t cs = some x) {i off : Nat} (hi : (fs[i]?).map (fun f => (f.type, f.offset)) = some (ty, off))
    (hty : Tryd.prog.underlying ty = some .string) (hc : Tryd.prog.cellsOf ty = 1) : ∃ b : ByteArray, cs[off]? = some (.string b) ∧ ∀ ds, x.1 = .agg ds → ds[i]? = some (.lit (.string b.data.toList)) := by
  obtain ⟨n, y, h1, h2⟩ := struct_field ht h hi
  obtain ⟨b, h3, h4, _⟩ := DataW.trod_string hty h1
  rw [hc] at h3
  exact ⟨b, one_cell h3, fun ds hd => by rw [h2 ds hd, h4]⟩
end

noncomputable def fieldsOf (t : TypeId) : Array Field := match Tryd.prog.underlying t with
  | some (.struct fs) => fs
  | _ => #[]

theorem Tryd.u100 : Tryd.prog.underlying 100 = some (.struct (fieldsOf 100)) := by kernel_rfl
theorem Tryd.u143 : Tryd.prog.underlying 143 = some (.struct (fieldsOf 143)) := by kernel_rfl
theorem Tryd.u154 : Tryd.prog.underlying 154 = some (.struct (fieldsOf 154)) := by kernel_rfl
theorem Tryd.u144 : Tryd.prog.underlying 144 = some (.array 696 143) := by kernel_rfl
theorem Tryd.u134 : Tryd.prog.underlying 134 = some (.slice 3) := by kernel_rfl
theorem Tryd.u136 : Tryd.prog.underlying 136 = some (.slice 23) := by kernel_rfl
theorem Tryd.u155 : Tryd.prog.underlying 155 = some (.slice 154) := by kernel_rfl
theorem Tryd.u73 : Tryd.prog.underlying 73 = some (.int .u64) := by kernel_rfl
theorem Tryd.u29 : Tryd.prog.underlying 29 = some (.int .u64) := by kernel_rfl
theorem Tryd.u3 : Tryd.prog.underlying 3 = some (.int .i64) := by kernel_rfl
theorem Tryd.u4 : Tryd.prog.underlying 4 = some .bool := by kernel_rfl
theorem Tryd.u9 : Tryd.prog.underlying 9 = some .string := by kernel_rfl
theorem Tryd.u23 : Tryd.prog.underlying 23 = some (.float .f64) := by kernel_rfl
theorem Tryd.c73 : Tryd.prog.cellsOf 73 = 1 := by kernel_rfl
theorem Tryd.c29 : Tryd.prog.cellsOf 29 = 1 := by kernel_rfl
theorem Tryd.c3 : Tryd.prog.cellsOf 3 = 1 := by kernel_rfl
theorem Tryd.c9 : Tryd.prog.cellsOf 9 = 1 := by kernel_rfl
theorem Tryd.c23 : Tryd.prog.cellsOf 23 = 1 := by kernel_rfl
theorem Tryd.c143 : Tryd.prog.cellsOf 143 = 2 := by kernel_rfl
theorem Tryd.c154 : Tryd.prog.cellsOf 154 = 2 := by kernel_rfl
theorem Tryd.g3 : Tryd.prog.globalNamed "internal/strconv.float32info" = some 3 := by kernel_rfl
theorem Tryd.g4 : Tryd.prog.globalNamed "internal/strconv.optimize" = some 4 := by kernel_rfl
theorem Tryd.g5 : Tryd.prog.globalNamed "internal/strconv.float64info" = some 5 := by kernel_rfl
theorem Tryd.g7 : Tryd.prog.globalNamed "internal/strconv.powtab" = some 7 := by kernel_rfl
theorem Tryd.g8 : Tryd.prog.globalNamed "internal/strconv.float64pow10" = some 8 := by kernel_rfl
theorem Tryd.g9 : Tryd.prog.globalNamed "internal/strconv.pow10Tab" = some 9 := by kernel_rfl
theorem Tryd.g11 : Tryd.prog.globalNamed "internal/strconv.leftcheats" = some 11 := by kernel_rfl
theorem Tryd.t3 : (Tryd.prog.globals[3]?).map (·.type) = some 100 := by kernel_rfl
theorem Tryd.t4 : (Tryd.prog.globals[4]?).map (·.type) = some 4 := by kernel_rfl
theorem Tryd.t5 : (Tryd.prog.globals[5]?).map (·.type) = some 100 := by kernel_rfl
theorem Tryd.t7 : (Tryd.prog.globals[7]?).map (·.type) = some 134 := by kernel_rfl
theorem Tryd.t8 : (Tryd.prog.globals[8]?).map (·.type) = some 136 := by kernel_rfl
theorem Tryd.t9 : (Tryd.prog.globals[9]?).map (·.type) = some 144 := by kernel_rfl
theorem Tryd.t11 : (Tryd.prog.globals[11]?).map (·.type) = some 155 := by kernel_rfl

theorem len_pos {cs : List Value} {v : Value} {i : Nat} (h : cs[i]? = some v) : 0 < cs.length := by
  have := (List.getElem?_eq_some_iff.1 h).1
  omega

theorem glob_info {w : World} {l : List (String × DataW Unit)} (hL : laidMet Tryd.prog l w) (hm : ("internal/strconv.float64info", Rows.laid_internal_strconv_float64info) ∈ l) (hm3 : ("internal/strconv.float32info", Rows.laid_internal_strconv_float32info) ∈ l) : F64 w ∧ At53 w := by
  obtain ⟨cs, f, p, hc, hd, hh⟩ := glob_at hL hm Tryd.g5 Tryd.t5
  obtain ⟨cs', f', p', hc', hd', hh'⟩ := glob_at hL hm3 Tryd.g3 Tryd.t3
  obtain ⟨m0, a0, b0⟩ := int_field Tryd.u100 hd (i := 0) (off := 0) (ty := 73) (by kernel_rfl) Tryd.u73 Tryd.c73
  obtain ⟨m1, a1, b1⟩ := int_field Tryd.u100 hd (i := 1) (off := 1) (ty := 73) (by kernel_rfl) Tryd.u73 Tryd.c73
  obtain ⟨m2, a2, b2⟩ := int_field Tryd.u100 hd (i := 2) (off := 2) (ty := 3) (by kernel_rfl) Tryd.u3 Tryd.c3
  obtain ⟨n0, d0, _⟩ := int_field Tryd.u100 hd' (i := 0) (off := 0) (ty := 73) (by kernel_rfl) Tryd.u73 Tryd.c73
  have e0 := b0 _ rfl
  have e1 := b1 _ rfl
  have e2 := b2 _ rfl
  simp at e0 e1 e2
  subst e0 e1 e2
  obtain ⟨c, u, h5⟩ := hh (len_pos a0)
  obtain ⟨c', u', h3⟩ := hh' (len_pos d0)
  exact ⟨⟨by rw [hc]; exact a0, by rw [hc]; exact a1, by rw [hc]; exact a2⟩, ⟨c, u, h5⟩, c', u', h3⟩

theorem glob_opt {w : World} {l : List (String × DataW Unit)} (hL : laidMet Tryd.prog l w) (hm : ("internal/strconv.optimize", Rows.laid_internal_strconv_optimize) ∈ l) : w.cell? ⟨4, 0, none⟩ = some (.bool true) := by
  obtain ⟨cs, f, p, hc, hd, _⟩ := glob_at hL hm Tryd.g4 Tryd.t4
  obtain ⟨b, rfl, hx⟩ := DataW.trod_bool Tryd.u4 hd
  rw [hc]
  simp [Rows.laid_internal_strconv_optimize] at hx
  simp [hx]

theorem glob_tab {w : World} {l : List (String × DataW Unit)} (hL : laidMet Tryd.prog l w) (hm : ("internal/strconv.pow10Tab", Rows.laid_internal_strconv_pow10Tab) ∈ l) : Tab w := by
  obtain ⟨cs, f, p, hc, hd, _⟩ := glob_at hL hm Tryd.g9 Tryd.t9
  obtain ⟨xs, m, _, _, _, hlen, hel⟩ := DataW.trod_array Tryd.u144 hd
  intro i hi
  have h1 := hel (i / 2) (by omega)
  rw [List.getElem?_eq_getElem (by omega), Tryd.c143] at h1
  rw [hc]
  rcases (by omega : i % 2 = 0 ∨ i % 2 = 1) with hr | hr
  · obtain ⟨z, a, _⟩ := int_field Tryd.u143 h1 (i := 0) (off := 0) (ty := 29) (by kernel_rfl) Tryd.u29 Tryd.c29
    rw [List.getElem?_take_of_lt (by omega), List.getElem?_drop, show i / 2 * 2 + 0 = i by omega] at a
    exact ⟨z, a⟩
  · obtain ⟨z, a, _⟩ := int_field Tryd.u143 h1 (i := 1) (off := 1) (ty := 29) (by kernel_rfl) Tryd.u29 Tryd.c29
    rw [List.getElem?_take_of_lt (by omega), List.getElem?_drop, show i / 2 * 2 + 1 = i by omega] at a
    exact ⟨z, a⟩

/-- powtab's numbers, looked at by program. -/
def pwk (i : Nat) (d : DataW Unit) : Bool := match d with
  | .lit (.int .i64 (.ofNat p)) => decide (1 ≤ p) && decide (p ≤ 27) && (decide (i < 1) || decide (3 ≤ p)) && (decide (i < 2) || decide (4 ≤ p))
  | _ => false

theorem glob_pows {w : World} {l : List (String × DataW Unit)} (hL : laidMet Tryd.prog l w) (hm : ("internal/strconv.powtab", Rows.laid_internal_strconv_powtab) ∈ l) : Pows w.heap.size w := by
  obtain ⟨cs, f, p, hc, hd, _⟩ := glob_at hL hm Tryd.g7 Tryd.t7
  obtain ⟨ds, hds⟩ : ∃ ds : List (DataW Unit), Rows.laid_internal_strconv_powtab = .slice ds [] := ⟨_, rfl⟩
  have hck : ds.length = 9 ∧ ∀ i (h : i < ds.length), pwk i ds[i] = true := by
    have e : ds = [.lit (.int .i64 1), .lit (.int .i64 3), .lit (.int .i64 6), .lit (.int .i64 9), .lit (.int .i64 13), .lit (.int .i64 16), .lit (.int .i64 19), .lit (.int .i64 23), .lit (.int .i64 26)] := by
      have := hds
      unfold Rows.laid_internal_strconv_powtab at this
      simp only [DataW.slice.injEq] at this
      exact this.1.symm
    subst e
    refine ⟨rfl, ?_⟩
    intro i h
    match i, h with
    | 0, _ => rfl
    | 1, _ => rfl
    | 2, _ => rfl
    | 3, _ => rfl
    | 4, _ => rfl
    | 5, _ => rfl
    | 6, _ => rfl
    | 7, _ => rfl
    | 8, _ => rfl
  obtain ⟨h9, hck⟩ := hck
  rw [hds] at hd
  obtain ⟨G, o, cap, n, hcs, hel⟩ := slice_cells Tryd.u134 (by rw [Tryd.c3]; omega) (by omega) hd
  rw [Tryd.c3] at hel
  have each : ∀ i, i < 9 → ∃ p : Nat, w.cell? ⟨G, o + i, none⟩ = some (.int .i64 p) ∧ 1 ≤ p ∧ p ≤ 27 ∧ (1 ≤ i → 3 ≤ p) ∧ (2 ≤ i → 4 ≤ p) := by
    intro i hi
    obtain ⟨cs', q, h1, h2, h3⟩ := hel i (by omega)
    obtain ⟨m, rfl, h4, _⟩ := DataW.trod_int Tryd.u3 h3
    have h5 := h2 0 (by omega)
    have h6 := hck i (by omega)
    have h7 : ds[i] = .lit (.int .i64 m) := by simpa using congrArg Prod.fst h4
    rw [h7] at h6
    cases m with
    | negSucc m => cases h6
    | ofNat m =>
      simp only [pwk, Bool.and_eq_true, Bool.or_eq_true, decide_eq_true_eq] at h6
      refine ⟨m, by simpa using h5, h6.1.1.1, h6.1.1.2, fun h => ?_, fun h => ?_⟩
      · rcases h6.1.2 with h | h <;> omega
      · rcases h6.2 with h | h <;> omega
  have c7 : w.cell? ⟨7, 0, none⟩ = some (.slice (some ⟨G, o, none⟩) 9 cap) := by rw [hc, hcs, h9]; rfl
  obtain ⟨p0, hp0, _⟩ := each 0 (by omega)
  exact ⟨G, o, cap, Lib.lt_of_cell c7, Lib.lt_of_cell hp0, c7, each⟩

/-- A float that is a number other than 0, looked at by program. -/
def fltk (d : DataW Unit) : Bool := match d with
  | .lit (.float .f64 f) => match FloatKind.f64.format.read f with
    | .number _ m _ => m != 0
    | _ => false
  | _ => false

theorem glob_exact {w : World} {l : List (String × DataW Unit)} (hL : laidMet Tryd.prog l w) (hm : ("internal/strconv.float64pow10", Rows.laid_internal_strconv_float64pow10) ∈ l) (hF : F64 w) : Exact w := by
  obtain ⟨cs, f, p, hc, hd, _⟩ := glob_at hL hm Tryd.g8 Tryd.t8
  have hck : (match (Rows.laid_internal_strconv_float64pow10 : DataW Unit) with | .slice ds _ => ds.length == 23 && ds.all fltk | _ => false) = true := by decide +kernel
  obtain ⟨ds, hds⟩ : ∃ ds : List (DataW Unit), Rows.laid_internal_strconv_float64pow10 = .slice ds [] := ⟨_, rfl⟩
  rw [hds] at hck hd
  simp only [Bool.and_eq_true, beq_iff_eq, List.all_eq_true] at hck
  obtain ⟨h23, hall⟩ := hck
  obtain ⟨G, o, cap, n, hcs, hel⟩ := slice_cells Tryd.u136 (by rw [Tryd.c23]; omega) (by omega) hd
  rw [Tryd.c23] at hel
  refine ⟨hF.mb, G, o, cap, by rw [hc, hcs, h23]; rfl, fun i hi => ?_⟩
  obtain ⟨cs', q, h1, h2, h3⟩ := hel i (by omega)
  obtain ⟨m, rfl, h4⟩ := trod_float .f64 Tryd.u23 h3
  have h5 := h2 0 (by omega)
  have h7 : ds[i] = .lit (.float .f64 m) := by simpa using congrArg Prod.fst h4
  have h6 := hall ds[i] (List.getElem_mem _)
  rw [h7] at h6
  refine ⟨m, by simpa using h5, ?_⟩
  unfold fltk at h6
  simp only at h6
  split at h6
  · rename_i s k e he
    exact ⟨s, k, e, he, by simpa using h6⟩
  · cases h6

theorem glob_cheats {w : World} {l : List (String × DataW Unit)} (hL : laidMet Tryd.prog l w) (hm : ("internal/strconv.leftcheats", Rows.laid_internal_strconv_leftcheats) ∈ l) : Cheats w.heap.size w := by
  obtain ⟨cs, f, p, hc, hd, _⟩ := glob_at hL hm Tryd.g11 Tryd.t11
  have hlen : Pinned.cheatRows.length = 61 := by decide +kernel
  have hd' : DataW.trod (fun _ => ()) Tryd.prog w 0 (fun _ => true) false f 155 cs = some (.slice (Pinned.cheatRows.map fun x => .agg [.lit (.int .i64 x.1), .lit (.string x.2)]) [], p) := hd
  obtain ⟨G, o, cap, n, hcs, hel⟩ := slice_cells Tryd.u155 (by rw [Tryd.c154]; omega) (by rw [List.length_map, hlen]; omega) hd'
  rw [Tryd.c154] at hel
  simp only [List.length_map, hlen] at hel hcs
  have each : ∀ k, k < 61 → ∃ (e : Nat) (s : ByteArray), w.cell? ⟨G, o + k * 2, none⟩ = some (.int .i64 e) ∧ w.cell? ⟨G, o + k * 2 + 1, none⟩ = some (.string s) ∧ (0 < k → Cheat k e s) := by
    intro k hk
    obtain ⟨cs', q, h1, h2, h3⟩ := hel k hk
    rw [List.getElem_map] at h3
    obtain ⟨m, a0, b0⟩ := int_field Tryd.u154 h3 (i := 0) (off := 0) (ty := 3) (by kernel_rfl) Tryd.u3 Tryd.c3
    obtain ⟨s, a1, b1⟩ := str_field Tryd.u154 h3 (i := 1) (off := 1) (ty := 9) (by kernel_rfl) Tryd.u9 Tryd.c9
    have e0 := b0 _ rfl
    have e1 := b1 _ rfl
    simp at e0 e1
    subst e0
    have q0 := h2 0 (by omega)
    rw [Nat.add_zero] at q0
    refine ⟨_, s, q0.trans a0, (h2 1 (by omega)).trans a1, fun h0 => chk_cheat ?_⟩
    have := List.all_eq_true.1 cheats_chk k (List.mem_range.2 hk)
    rw [List.getElem?_eq_getElem (by omega)] at this
    simp only [Bool.or_eq_true, beq_iff_eq] at this
    rcases this with h | h
    · omega
    · rw [← e1]
      exact h
  have c11 : w.cell? ⟨11, 0, none⟩ = some (.slice (some ⟨G, o, none⟩) 61 cap) := by rw [hc, hcs]; rfl
  obtain ⟨p0, s0, hp0, _⟩ := each 0 (by omega)
  exact ⟨G, o, cap, Lib.lt_of_cell c11, Lib.lt_of_cell hp0, c11, each⟩

theorem globs_for {W : World} (hL : laidMet Tryd.prog Rows.fnAsNumberRefusesForeignByteRow.laid W) : Globs W := by
  have h3 : ("internal/strconv.float32info", Rows.laid_internal_strconv_float32info) ∈ Rows.fnAsNumberRefusesForeignByteRow.laid := by
    unfold Rows.fnAsNumberRefusesForeignByteRow; repeat (first | exact List.mem_cons_self | apply List.mem_cons_of_mem)
  have h5 : ("internal/strconv.float64info", Rows.laid_internal_strconv_float64info) ∈ Rows.fnAsNumberRefusesForeignByteRow.laid := by
    unfold Rows.fnAsNumberRefusesForeignByteRow; repeat (first | exact List.mem_cons_self | apply List.mem_cons_of_mem)
  have h4 : ("internal/strconv.optimize", Rows.laid_internal_strconv_optimize) ∈ Rows.fnAsNumberRefusesForeignByteRow.laid := by
    unfold Rows.fnAsNumberRefusesForeignByteRow; repeat (first | exact List.mem_cons_self | apply List.mem_cons_of_mem)
  have h7 : ("internal/strconv.powtab", Rows.laid_internal_strconv_powtab) ∈ Rows.fnAsNumberRefusesForeignByteRow.laid := by
    unfold Rows.fnAsNumberRefusesForeignByteRow; repeat (first | exact List.mem_cons_self | apply List.mem_cons_of_mem)
  have h8 : ("internal/strconv.float64pow10", Rows.laid_internal_strconv_float64pow10) ∈ Rows.fnAsNumberRefusesForeignByteRow.laid := by
    unfold Rows.fnAsNumberRefusesForeignByteRow; repeat (first | exact List.mem_cons_self | apply List.mem_cons_of_mem)
  have h11 : ("internal/strconv.leftcheats", Rows.laid_internal_strconv_leftcheats) ∈ Rows.fnAsNumberRefusesForeignByteRow.laid := by
    unfold Rows.fnAsNumberRefusesForeignByteRow; repeat (first | exact List.mem_cons_self | apply List.mem_cons_of_mem)
  have h9 : ("internal/strconv.pow10Tab", Rows.laid_internal_strconv_pow10Tab) ∈ Rows.fnAsNumberRefusesForeignByteRow.laid := by
    unfold Rows.fnAsNumberRefusesForeignByteRow; repeat (first | exact List.mem_cons_self | apply List.mem_cons_of_mem)
  obtain ⟨hF, hA⟩ := glob_info hL h5 h3
  exact ⟨hF, hA, glob_exact hL h8 hF, glob_tab hL h9, glob_opt hL h4, glob_cheats hL h11, glob_pows hL h7⟩

theorem for_law (s : ByteArray) (w : World) (_ : s.size ≤ maxLen) (hL : laidMet Tryd.prog Rows.fnAsNumberRefusesForeignByteRow.laid w) :
    Calls Tryd.prog 3 #[.string s] w fun e w' => e = .returned (.bool true) ∧ Below w.heap.size w w' := for_main s w (errs_for hL) (globs_for hL)
end Go.Proofs.YtjaibjdhfljmmaaDoor
