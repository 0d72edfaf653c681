/-
  What the copies and the tables are behind the calls of the two script laws: plain facts on worlds.
-/
import Derived.Test.YtbgolkdhcgjfkaaGreatDoorMatches
import Derived.Test.YtbgolkdhcgjfkaaGreatDoorGuards
namespace Go.Proofs.YtbgolkdhcgjfkaaGreatDoor
open Go.RowKit
set_option maxRecDepth 100000
set_option maxHeartbeats 400000

theorem cell_lt {w : World} {p : Addr} {v : Value} (h : w.cell? p = some v) : p.block < w.heap.size := by
  cases hb : w.heap[p.block]? with
  | none => simp [World.cell?, hb] at h
  | some o => exact lt_of hb

theorem IsRow.below {k : IntKind} {w w' : World} {a : Option Addr} {len cap : Nat} {zs : List Int} (h : IsRow k w a len cap zs) (hb : Below w.heap.size w w') : IsRow k w' a len cap zs := by
  rcases h with h | ⟨x, rfl, hl, hm, hz, hcell, hwz⟩
  · exact Or.inl h
  · refine Or.inr ⟨x, rfl, hl, hm, hz, fun i hi => ?_, hwz⟩
    have := hcell i hi
    rw [hb.cell (p := x.add i) (cell_lt this)]; exact this

theorem IsTexts.below {w w' : World} {a : Option Addr} {len cap : Nat} {zs : List ByteArray} (h : IsTexts w a len cap zs) (hb : Below w.heap.size w w') : IsTexts w' a len cap zs := by
  rcases h with h | ⟨x, rfl, hl, hm, hz, hcell, hwz⟩
  · exact Or.inl h
  · refine Or.inr ⟨x, rfl, hl, hm, hz, fun i hi => ?_, hwz⟩
    have := hcell i hi
    rw [hb.cell (p := x.add i) (cell_lt this)]; exact this

theorem IRow.below {w w' : World} {v : Value} {K : List Int} (h : IRow w v K) (hb : Below w.heap.size w w') : IRow w' v K := h.keep (Keeps.of_below (S := fun _ => False) hb) (fun _ _ _ _ _ => id)
theorem SRow.below {w w' : World} {v : Value} {K : List ByteArray} (h : SRow w v K) (hb : Below w.heap.size w w') : SRow w' v K := h.keep (Keeps.of_below (S := fun _ => False) hb) (fun _ _ _ _ _ => id)

theorem Copied.row {w w' : World} {v : Value} {zs : List Int} {len : Nat} (h : Copied w w' v zs len) (hl : len ≤ zs.length) :
    IRow w' v (zs.take len) ∧ (0 < (zs.take len).length → ∀ B n c, v = .slice (some ⟨B, 0, none⟩) n c → B = w.heap.size) ∧ Below w.heap.size w w' := by
  obtain ⟨ao, rfl, h1, h2⟩ := h
  have e : (zs.take len).length = len := by simp; omega
  refine ⟨⟨ao, by rw [e], fun h0 => ⟨_, (h1 (by omega)).1, (h1 (by omega)).2⟩⟩, fun h0 B n c hv => ?_, h2⟩
  rw [(h1 (by omega)).1] at hv
  cases hv
  rfl

theorem CopiedT.row {w w' : World} {v : Value} {zs : List ByteArray} {len : Nat} (h : CopiedT w w' v zs len) (hl : len ≤ zs.length) :
    SRow w' v (zs.take len) ∧ (0 < (zs.take len).length → ∀ B n c, v = .slice (some ⟨B, 0, none⟩) n c → B = w.heap.size) ∧ Below w.heap.size w w' := by
  obtain ⟨ao, rfl, h1, h2⟩ := h
  have e : (zs.take len).length = len := by simp; omega
  refine ⟨⟨ao, by rw [e], fun h0 => ⟨_, (h1 (by omega)).1, (h1 (by omega)).2⟩⟩, fun h0 B n c hv => ?_, h2⟩
  rw [(h1 (by omega)).1] at hv
  cases hv
  rfl

theorem Scripted.new {w w' : World} (h : NewT w w' w.heap.size) : Scripted w' w.heap.size (fun k => w.heap.size ≤ k) [] [] 0 := by
  obtain ⟨av, sv, t⟩ := h
  exact ⟨av, _, sv, _, _, [], t, by simp⟩

theorem Scripted.keep {S G G' : Nat → Prop} {w w' : World} {T : Nat} {ps : List (Int × Int)} {L : List ByteArray} {n : Nat} (h : Scripted w T G ps L n) (hk : Keeps S w w') (hS : ∀ b, b < w.heap.size → S b → ¬ G b)
    (hG : ∀ b, b < w.heap.size → G b → G' b) : Scripted w' T G' ps L n := by
  obtain ⟨av, dv, sv, kv, iv, ks, t, hn⟩ := h
  exact ⟨av, dv, sv, kv, iv, ks, (t.shrink.keep hk (fun b hb hg => hS b hg.2 hb hg.1)).mono (fun k hg => hG k hg.2 hg.1), hn⟩

theorem Scripted.len {G : Nat → Prop} {w : World} {T : Nat} {ps : List (Int × Int)} {L : List ByteArray} {n : Nat} (h : Scripted w T G ps L n) (hps : ∀ p ∈ ps, p.1 ≤ 65536) :
    Calls Tryz.prog 21 #[.pointer (some ⟨T, 0, none⟩)] w fun e w' => e = .returned (.int .i64 (maxK ps)) ∧ w = w' := by
  obtain ⟨av, dv, sv, kv, iv, ks, t, hn⟩ := h
  have := len_any t.tab (by rw [length_script]; have := maxK_le ps hps; omega) (last_script _)
  rw [length_script] at this
  exact this

theorem Scripted.maxn {G : Nat → Prop} {w : World} {T : Nat} {ps : List (Int × Int)} {L : List ByteArray} {n : Nat} (h : Scripted w T G ps L n) (hps : ∀ p ∈ ps, p.1 ≤ 65536) :
    Calls Tryz.prog 22 #[.pointer (some ⟨T, 0, none⟩)] w fun e w' => e = .returned (.int .i64 (maxK ps)) ∧ w = w' := by
  obtain ⟨av, dv, sv, kv, iv, ks, t, hn⟩ := h
  have := maxn_any t.tab (by rw [length_script]; have := maxK_le ps hps; omega) (last_script _)
  rw [length_script] at this
  exact this

theorem keys_take {zs : List Int} {n : Nat} (hl : n ≤ zs.length) (h : ∀ i, i < n → -65536 ≤ zs.getD i 0 ∧ zs.getD i 0 ≤ 65536) : ∀ z ∈ zs.take n, -65536 ≤ z ∧ z ≤ 65536 := by
  intro z hz
  obtain ⟨i, hi, rfl⟩ := List.mem_iff_getElem.1 hz
  have hi' : i < n := by simp at hi; omega
  have := h i hi'
  simpa [List.getD, List.getElem?_eq_getElem (show i < zs.length by omega)] using this

theorem texts_take {ss : List ByteArray} {n : Nat} (hl : n ≤ ss.length) (h : Short n ss) : ∀ s ∈ ss.take n, s.size ≤ 1048576 := by
  intro z hz
  obtain ⟨i, hi, rfl⟩ := List.mem_iff_getElem.1 hz
  have hi' : i < n := by simp at hi; omega
  have := h i hi'
  simpa [List.getD, List.getElem?_eq_getElem (show i < ss.length by omega)] using this

/-- Behind the three copies. -/
structure Rows (w0 w : World) (v1 v2 v3 : Value) (K V : List Int) (L : List ByteArray) : Prop where
  b : Below w0.heap.size w0 w
  r1 : IRow w v1 K
  r2 : IRow w v2 V
  r3 : SRow w v3 L
  g1 : 0 < K.length → ∀ B n c, v1 = .slice (some ⟨B, 0, none⟩) n c → B < w.heap.size
  g2 : 0 < V.length → ∀ B n c, v2 = .slice (some ⟨B, 0, none⟩) n c → B < w.heap.size
  g3 : 0 < L.length → ∀ B n c, v3 = .slice (some ⟨B, 0, none⟩) n c → B < w.heap.size

theorem IRow.lt {w : World} {v : Value} {K : List Int} (h : IRow w v K) : 0 < K.length → ∀ B n c, v = .slice (some ⟨B, 0, none⟩) n c → B < w.heap.size := by
  obtain ⟨ao, rfl, h⟩ := h
  intro h0 B n c hv
  obtain ⟨b, rfl, hb⟩ := h h0
  cases hv
  exact lt_of hb
theorem SRow.lt {w : World} {v : Value} {K : List ByteArray} (h : SRow w v K) : 0 < K.length → ∀ B n c, v = .slice (some ⟨B, 0, none⟩) n c → B < w.heap.size := by
  obtain ⟨ao, rfl, h⟩ := h
  intro h0 B n c hv
  obtain ⟨b, rfl, hb⟩ := h h0
  cases hv
  exact lt_of hb

theorem Rows.mk' {w w1 w2 w3 : World} {v1 v2 v3 : Value} {ik iv : List Int} {ss : List ByteArray} {n m l : Nat} (c1 : Copied w w1 v1 ik n) (c2 : Copied w1 w2 v2 iv m) (c3 : CopiedT w2 w3 v3 ss l)
    (h1 : n ≤ ik.length) (h2 : m ≤ iv.length) (h3 : l ≤ ss.length) : Rows w w3 v1 v2 v3 (ik.take n) (iv.take m) (ss.take l) := by
  obtain ⟨r1, _, b1⟩ := c1.row h1
  obtain ⟨r2, _, b2⟩ := c2.row h2
  obtain ⟨r3, _, b3⟩ := c3.row h3
  have hs1 := b1.size
  have hs2 := b2.size
  have q1 := (r1.below b2).below b3
  have q2 := r2.below b3
  exact ⟨(b1.trans (b2.mono hs1)).trans (b3.mono (by omega)), q1, q2, r3, q1.lt, q2.lt, r3.lt⟩

theorem Rows.below {w0 w w' : World} {v1 v2 v3 : Value} {K V : List Int} {L : List ByteArray} (h : Rows w0 w v1 v2 v3 K V L) (hb : Below w.heap.size w w') : Rows w0 w' v1 v2 v3 K V L :=
  ⟨h.b.trans (hb.mono h.b.size), h.r1.below hb, h.r2.below hb, h.r3.below hb, (h.r1.below hb).lt, (h.r2.below hb).lt, (h.r3.below hb).lt⟩

/-- applyScript, then matchesModel behind whatever keeps the table. -/
theorem Rows.apply {w0 wc w : World} {v1 v2 v3 : Value} {K V : List Int} {L : List ByteArray} {T : Nat} {G : Nat → Prop} (h : Rows w0 wc v1 v2 v3 K V L) (hk : Below wc.heap.size wc w) (hT : Scripted w T G [] [] 0) (hG : ∀ k, w.heap.size ≤ k → G k) (hg : ∀ k, G k → wc.heap.size ≤ k)
    (hK : K.length ≤ 4096) (hV : V.length ≤ 4096) (hL : L.length ≤ 4096) (hb : ∀ z ∈ K, -65536 ≤ z ∧ z ≤ 65536) :
    Calls Tryz.prog 18 #[.pointer (some ⟨T, 0, none⟩), v1, v2, v3] w fun e w' => e = .returned (.tuple #[]) ∧ Keeps G w w' ∧ Scripted w' T G (K.zip V) L 8192 ∧ Below wc.heap.size wc w' := by
  have f : ∀ B : Nat, B < wc.heap.size → G B → False := fun B hB hgB => by have := hg B hgB; omega
  refine (apply_script K V L v1 v2 v3 T G w hT hG (h.r1.below hk) (h.r2.below hk) (h.r3.below hk) (fun h0 B n c hv hg => f B (h.r1.lt h0 B n c hv) hg) (fun h0 B n c hv hg => f B (h.r2.lt h0 B n c hv) hg) (fun h0 B n c hv hg => f B (h.r3.lt h0 B n c hv) hg) hK hV hL hb).mono ?_
  rintro e w' ⟨he, hk1, hs⟩
  exact ⟨he, hk1, hs, Keeps.below_of hk hk1 hk.size (fun n hn hgn => by have := hg n hgn; omega)⟩

theorem Rows.matches {w0 wc w : World} {v1 v2 v3 : Value} {K V : List Int} {L : List ByteArray} {T : Nat} {G : Nat → Prop} (h : Rows w0 wc v1 v2 v3 K V L) (hk : Below wc.heap.size wc w) (hT : Scripted w T G (K.zip V) L 8192)
    (hK : K.length ≤ 4096) (hV : V.length ≤ 4096) (hL : L.length ≤ 4096) (hb : ∀ z ∈ K, -65536 ≤ z ∧ z ≤ 65536) (hss : ∀ s ∈ L, s.size ≤ 1048576) :
    Calls Tryz.prog 19 #[.pointer (some ⟨T, 0, none⟩), v1, v2, v3] w fun e w' => e = .returned (.bool true) ∧ Below w.heap.size w w' :=
  matches_model K V L v1 v2 v3 T G w hT (h.r1.below hk) (h.r2.below hk) (h.r3.below hk) hK hV hL hb hss
end Go.Proofs.YtbgolkdhcgjfkaaGreatDoor
