/-
  matchesModel: true at the table behind a script; nothing that was there is turned.
-/
import Derived.Test.YtbgolkdhcgjfkaaGreatDoorAbsent
namespace Go.Proofs.YtbgolkdhcgjfkaaGreatDoor
open Go.RowKit
set_option maxRecDepth 100000
set_option maxHeartbeats 400000

theorem maxK_le (ps : List (Int × Int)) (hps : ∀ p ∈ ps, p.1 ≤ 65536) : maxK ps ≤ 65536 := by
  induction ps with
  | nil => unfold maxK; omega
  | cons p ps ih => unfold maxK; have := ih (fun q hq => hps q (by simp [hq])); have := hps p (by simp); omega

theorem getV_end (xs : List Value) (cd : Value → Option Value) (X : Nat) (h : xs.length = X) (hX : X ≤ 65536) : getV xs cd ((X : Int) + 1) = LNIL := by
  unfold getV
  rw [if_pos (by omega), show ((X : Int) + 1 - 1).toNat = X by omega, List.getElem?_eq_none (by omega)]
  rfl

theorem getV_last (xs : List Value) (cd : Value → Option Value) (X : Nat) (h : xs.length = X) (h0 : 0 < X) (hX : X ≤ 65536) (hl : ∀ x, xs.getLast? = some x → ∃ b, x = NUM b) : ∃ b, getV xs cd (X : Int) = NUM b := by
  unfold getV
  rw [if_pos (by omega), show ((X : Int) - 1).toNat = X - 1 by omega]
  rw [List.getLast?_eq_getElem?, h] at hl
  obtain ⟨x, hx⟩ : ∃ x, xs[X - 1]? = some x := ⟨_, List.getElem?_eq_getElem (by omega)⟩
  obtain ⟨b, hb⟩ := hl x hx
  exact ⟨b, by rw [hx, hb]; rfl⟩

theorem matches_model (K V : List Int) (L : List ByteArray) (v1 v2 v3 : Value) (T : Nat) (G : Nat → Prop) (w : World) (h : Scripted w T G (K.zip V) L 8192)
    (h1 : IRow w v1 K) (h2 : IRow w v2 V) (h3 : SRow w v3 L)
    (hK : K.length ≤ 4096) (hV : V.length ≤ 4096) (hL : L.length ≤ 4096) (hb : ∀ z ∈ K, -65536 ≤ z ∧ z ≤ 65536) (hss : ∀ s ∈ L, s.size ≤ 1048576) :
    Calls Tryz.prog 19 #[.pointer (some ⟨T, 0, none⟩), v1, v2, v3] w fun e w' => e = .returned (.bool true) ∧ Below w.heap.size w w' := by
  have HA := Lib.hid (absent L v3 w h3 hL hss)
  have HM := Lib.hid (model_max K V v1 v2 w h1 h2 hK hb)
  obtain ⟨a1, rfl, c1⟩ := h1
  obtain ⟨a2, rfl, c2⟩ := h2
  obtain ⟨a3, rfl, c3⟩ := h3
  obtain ⟨av, dv, sv, kv, iv, ks, ht, hks⟩ := h
  have HP := Lib.hid (pair_count a1 a2 K.length V.length K.length V.length w)
  have hl : (K.zip V).length = min K.length V.length := by simp
  have hn : min K.length V.length ≤ 4096 := by omega
  have hmn : min K.length V.length ≤ K.length := by omega
  have hmv : min K.length V.length ≤ V.length := by omega
  generalize hN : min K.length V.length = N at *
  have hl' := Lib.hid hl
  have ht' := Lib.hid ht
  have HXL : Hid ((sX (K.zip V)).length ≤ 67108864) := Lib.hid (by
    have hm : ∀ ps : List (Int × Int), (∀ p ∈ ps, p.1 ≤ 65536) → maxK ps ≤ 65536 := by
      intro ps hps
      induction ps with
      | nil => unfold maxK; omega
      | cons p ps ih => unfold maxK; have := ih (fun q hq => hps q (by simp [hq])); have := hps p (by simp); omega
    have := hm (K.zip V) (fun p hp => (hb p.1 (List.of_mem_zip hp).1).2)
    rw [length_script]; omega)
  have c1' := Lib.hid c1
  have c2' := Lib.hid c2
  have c3' := Lib.hid c3
  clear hN hl c1 c2 c3 ht hks
  go_enter Tryz.func19, Tryz.ntmps19
  go_wp2_with fail
  refine HP.out.mono ?_
  rintro e w' ⟨rfl, rfl⟩
  go_wp2_with fail
  go_loopw [10] (fun i wr => ∃ k : Nat, k ≤ N ∧ i = .int .i64 k ∧ Hid (SameW w wr)) (fun i _ => N - (intOf i).toNat)
  case atStart => exact ⟨0, Nat.zero_le _, rfl, Lib.hid (SameW.refl _)⟩
  case round =>
    obtain ⟨k, hk, rfl, hw⟩ := hrel
    by_cases hlt : k < N
    · obtain ⟨B1, rfl, hB1⟩ := c1'.out (by omega)
      obtain ⟨B2, rfl, hB2⟩ := c2'.out (by omega)
      obtain ⟨p, hp⟩ : ∃ p, (K.zip V)[k]? = some p := ⟨_, List.getElem?_eq_getElem (by rw [hl'.out]; exact hlt)⟩
      have hpz := hp
      rw [List.getElem?_zip_eq_some] at hpz
      have hz := hb p.1 (List.mem_of_getElem? hpz.1)
      have hp' := Lib.hid hp
      have hB1' := Lib.hid hB1
      have hB2' := Lib.hid hB2
      have hpz' := Lib.hid hpz
      clear hp hpz hB1 hB2
      go_wp2_with fail
      go_loopw [11, 12] (fun l j wr2 => ∃ q : Nat, k < q ∧ q ≤ N ∧ j = .int .i64 q ∧ l = .bool false ∧ Hid (SameW w wr2) ∧ Hid (∀ j p', k < j → j < q → (K.zip V)[j]? = some p' → p'.1 ≠ p.1)) (fun _ j _ => N - (intOf j).toNat)
      case atStart => exact ⟨k + 1, by omega, by omega, by go_num, rfl, hw, Lib.hid (fun j p' h1 h2 => by omega)⟩
      case round =>
        obtain ⟨q, hkq, hqN, rfl, rfl, hw2, hno⟩ := hrel
        by_cases hq : q < N
        · obtain ⟨p2, hp2⟩ : ∃ p2, (K.zip V)[q]? = some p2 := ⟨_, List.getElem?_eq_getElem (by rw [hl'.out]; exact hq)⟩
          have hpz2 := hp2
          rw [List.getElem?_zip_eq_some] at hpz2
          have cs1 : wr.cell? ⟨B1, k, none⟩ = some (.int .i32 p.1) := by rw [cell_of (by rw [hw2.out.heap]; exact hB1'.out)]; simp [hpz'.out.1]
          have cs3 : wr.cell? ⟨B1, q, none⟩ = some (.int .i32 p2.1) := by rw [cell_of (by rw [hw2.out.heap]; exact hB1'.out)]; simp [hpz2.1]
          have hwd : Hid (SameW w wr.drew) := Lib.hid (hw2.out.trans ⟨rfl, rfl, rfl, rfl⟩)
          have hkK : k < K.length := by omega
          have hqK : q < K.length := by omega
          have hp2' := Lib.hid hp2
          clear hp2 hpz2
          by_cases he : p2.1 = p.1
          · have he' : (p2.1 == p.1) = true := by simpa using he
            go_wp2_with fail
            go_region_held3 (fun w' => w'.cell? ⟨B1, k, none⟩ = some (.int .i32 p.1) ∧ w'.cell? ⟨B1, q, none⟩ = some (.int .i32 p2.1)) (go_keep) (fail)
            go_wp2_with fail
            go_region
            all_goals go_wp2_with fail
            go_roundw
            case rel => exact ⟨k + 1, by omega, by go_num, Lib.hid (hwd.out.trans ⟨rfl, rfl, rfl, rfl⟩)⟩
            case measure => simp [intOf]; omega
          · have he' : (p2.1 == p.1) = false := by simpa using he
            go_wp2_with fail
            go_region_held3 (fun w' => w'.cell? ⟨B1, k, none⟩ = some (.int .i32 p.1) ∧ w'.cell? ⟨B1, q, none⟩ = some (.int .i32 p2.1)) (go_keep) (fail)
            go_wp2_with fail
            go_roundw
            case rel => exact ⟨q + 1, by omega, by omega, by go_num, rfl, hwd, Lib.hid (fun j p' h1 h2 h3 => by
              by_cases e : j = q
              · subst e
                rw [hp2'.out] at h3
                cases h3
                exact he
              · exact hno.out j p' h1 (by omega) h3)⟩
            case measure => simp [intOf]; omega
        · obtain rfl : q = N := by omega
          have hkK : k < K.length := by omega
          have hkV : k < V.length := by omega
          have cs1 : wr.cell? ⟨B1, k, none⟩ = some (.int .i32 p.1) := by rw [cell_of (by rw [hw2.out.heap]; exact hB1'.out)]; simp [hpz'.out.1]
          have cs2 : wr.cell? ⟨B2, k, none⟩ = some (.int .i32 p.2) := by rw [cell_of (by rw [hw2.out.heap]; exact hB2'.out)]; simp [hpz'.out.2]
          have hwd : Hid (SameW w wr.drew) := Lib.hid (hw2.out.trans ⟨rfl, rfl, rfl, rfl⟩)
          have hlast : lastI (K.zip V) p.1 = some p.2 := lastI_at _ k p hp'.out (fun j p' h1 h2 => hno.out j p' h1 (by have := (List.getElem?_eq_some_iff.1 h2).1; rw [hl'.out] at this; exact this) h2)
          have hgv : getV (sX (K.zip V)) (sD (K.zip V)) p.1 = NZ p.2 := by
            rw [get_script _ _ (by omega) (by omega) (fun r hr => hb r.1 (List.of_mem_zip hr).1), hlast]; rfl
          have HGI := getint_int (ht'.out.tab.same hwd.out) HXL.out p.1 (by omega) (by omega)
          rw [hgv] at HGI
          have HGI' := Lib.hid HGI
          have HNI := Lib.hid (numis_yes p.2 wr.drew)
          have hwr : IntKind.i64.wrap p.1 = p.1 := wrap_id p.1 hz.1 hz.2
          clear HGI hgv hlast
          go_wp2_with fail
          go_region_held3 (fun w' => w'.cell? ⟨B1, k, none⟩ = some (.int .i32 p.1) ∧ w'.cell? ⟨B2, k, none⟩ = some (.int .i32 p.2)) (go_keep) (first | (go_at_call 26; refine HGI'.out.mono ?_; rintro e w5 ⟨rfl, rfl⟩) | (go_at_call 30; refine HNI.out.mono ?_; rintro e w5 ⟨rfl, rfl⟩))
          go_wp2_with fail
          go_roundw
          case rel => exact ⟨k + 1, by omega, by go_num, hwd⟩
          case measure => simp [intOf]; omega
    · obtain rfl : k = N := by omega
      go_wp2_with fail
      go_loopw [13] (fun i wr => ∃ m : Nat, m ≤ L.length ∧ i = .int .i64 m ∧ Hid (SameW w wr)) (fun i _ => L.length - (intOf i).toNat)
      case atStart => exact ⟨0, Nat.zero_le _, rfl, hw⟩
      case round =>
        obtain ⟨m, hm, rfl, hw3⟩ := hrel
        by_cases hltm : m < L.length
        · obtain ⟨B3, rfl, hB3⟩ := c3'.out (by omega)
          obtain ⟨s, hs⟩ : ∃ s, L[m]? = some s := ⟨_, List.getElem?_eq_getElem hltm⟩
          have hs' := Lib.hid hs
          have hB3' := Lib.hid hB3
          clear hs hB3
          go_wp2_with fail
          go_loopw [14, 15] (fun l j wr2 => ∃ q : Nat, m < q ∧ q ≤ L.length ∧ j = .int .i64 q ∧ l = .bool false ∧ Hid (SameW w wr2) ∧ Hid (∀ j t, m < j → j < q → L[j]? = some t → t ≠ s)) (fun _ j _ => L.length - (intOf j).toNat)
          case atStart => exact ⟨m + 1, by omega, by omega, by go_num, rfl, hw3, Lib.hid (fun j p' h1 h2 => by omega)⟩
          case round =>
            obtain ⟨q, hkq, hqN, rfl, rfl, hw2, hno⟩ := hrel
            by_cases hq : q < L.length
            · obtain ⟨s2, hs2⟩ : ∃ s2, L[q]? = some s2 := ⟨_, List.getElem?_eq_getElem hq⟩
              have cs1 : wr.cell? ⟨B3, m, none⟩ = some (.string s) := by rw [cell_of (by rw [hw2.out.heap]; exact hB3'.out)]; simp [hs'.out]
              have cs3 : wr.cell? ⟨B3, q, none⟩ = some (.string s2) := by rw [cell_of (by rw [hw2.out.heap]; exact hB3'.out)]; simp [hs2]
              have hwd : Hid (SameW w wr.drew) := Lib.hid (hw2.out.trans ⟨rfl, rfl, rfl, rfl⟩)
              have hs2' := Lib.hid hs2
              clear hs2
              by_cases he : (s2.toList == s.toList) = true
              · go_wp2_with fail
                go_region_held3 (fun w' => w'.cell? ⟨B3, m, none⟩ = some (.string s) ∧ w'.cell? ⟨B3, q, none⟩ = some (.string s2)) (go_keep) (fail)
                go_wp2_with fail
                go_roundw
                case rel => exact ⟨m + 1, by omega, by go_num, hwd⟩
                case measure => simp [intOf]; omega
              · have he' : (s2.toList == s.toList) = false := by simpa using he
                go_wp2_with fail
                go_region_held3 (fun w' => w'.cell? ⟨B3, m, none⟩ = some (.string s) ∧ w'.cell? ⟨B3, q, none⟩ = some (.string s2)) (go_keep) (fail)
                go_wp2_with fail
                go_roundw
                case rel => exact ⟨q + 1, by omega, by omega, by go_num, rfl, hwd, Lib.hid (fun j p' h1 h2 h3 => by
                  by_cases e : j = q
                  · subst e
                    rw [hs2'.out] at h3
                    cases h3
                    intro e2
                    rw [e2] at he
                    simp at he
                  · exact hno.out j p' h1 (by omega) h3)⟩
                case measure => simp [intOf]; omega
            · obtain rfl : q = L.length := by omega
              have cs1 : wr.cell? ⟨B3, m, none⟩ = some (.string s) := by rw [cell_of (by rw [hw2.out.heap]; exact hB3'.out)]; simp [hs'.out]
              have hlast : lastS L 0 s = some (0 + m + 1) := lastS_at L m 0 s hs'.out (fun j t h1 h2 => hno.out j t h1 (List.getElem?_eq_some_iff.1 h2).1 h2)
              have hR := rgstr_any (ht'.out.tab.same hw2.out) s
              have e0 : (sS L (.string s)).getD LNIL = NZ ((m : Int) + 1) := by rw [gets_script, hlast]; simp
              rw [e0] at hR
              have hR' := Lib.hid hR
              have hNI := Lib.hid (numis_yes ((m : Int) + 1) wr)
              clear hR hlast
              go_wp2_with fail
              refine hR'.out.mono ?_
              rintro e w5 ⟨rfl, rfl⟩
              go_wp2_with (go_at_call 30; refine hNI.out.mono ?_; rintro e w5 ⟨rfl, rfl⟩)
              go_roundw
              case rel => exact ⟨m + 1, by omega, by go_num, hw2⟩
              case measure => simp [intOf]; omega
        · obtain rfl : m = L.length := by omega
          obtain ⟨X, hX⟩ : ∃ X, maxK (K.zip V) = X := ⟨_, rfl⟩
          have hbz : ∀ r ∈ K.zip V, -65536 ≤ r.1 ∧ r.1 ≤ 65536 := fun r hr => hb r.1 (List.of_mem_zip hr).1
          have hX2 : X ≤ 65536 := by rw [← hX]; exact maxK_le _ (fun r hr => (hbz r hr).2)
          have hxl : (sX (K.zip V)).length = X := by rw [length_script, hX]
          have e1 : getV (sX (K.zip V)) (sD (K.zip V)) 65537 = LNIL := by
            rw [get_script _ _ (by omega) (by omega) hbz, lastI_none _ _ (fun p hp e => by have := hbz p hp; omega)]; rfl
          have e2 : getV (sX (K.zip V)) (sD (K.zip V)) (-65537) = LNIL := by
            rw [get_script _ _ (by omega) (by omega) hbz, lastI_none _ _ (fun p hp e => by have := hbz p hp; omega)]; rfl
          have e3 : getV (sX (K.zip V)) (sD (K.zip V)) ((X : Int) + 1) = LNIL := getV_end _ _ X hxl (by omega)
          have e4 : 0 < X → ∃ b, getV (sX (K.zip V)) (sD (K.zip V)) (X : Int) = NUM b := fun h0 => getV_last _ _ X hxl h0 (by omega) (last_script _)
          have TR := ht'.out.tab.same hw3.out
          have P1 := Lib.hid (e1 ▸ getint_int TR HXL.out 65537 (by omega) (by omega))
          have P2 := Lib.hid (e2 ▸ getint_int TR HXL.out (-65537) (by omega) (by omega))
          have HA := Lib.hid (absent L (.slice a3 L.length L.length) wr (SRow.keep (S := fun _ => False) ⟨a3, rfl, c3'.out⟩ hw3.out.keeps (fun _ _ _ _ _ => id)) hL hss)
          have HI := Lib.hid (fun W : World => isnil_nil W)
          have HE := Lib.hid (fun (W : World) (hk : Below wr.heap.size wr W) => TR.keep (S := fun _ => False) (Keeps.of_below hk) id (fun _ _ => id) (fun _ _ => id) (fun _ _ => id) (fun _ _ => id) (fun _ _ => id))
          have HM := Lib.hid (fun (W : World) (hk : Below wr.heap.size wr W) => model_max K V (.slice a1 K.length K.length) (.slice a2 V.length V.length) W
            (IRow.keep (S := fun _ => False) ⟨a1, rfl, c1'.out⟩ (hw3.out.keeps.trans (Keeps.of_below hk) (fun _ _ h => h)) (fun _ _ _ _ _ => id))
            (IRow.keep (S := fun _ => False) ⟨a2, rfl, c2'.out⟩ (hw3.out.keeps.trans (Keeps.of_below hk) (fun _ _ h => h)) (fun _ _ _ _ _ => id)) hK hb)
          rw [hX] at HM
          have hxl' := Lib.hid hxl
          have e3' := Lib.hid e3
          have e4' := Lib.hid e4
          have hX' := Lib.hid hX
          have hX3 : ¬ (X : Int) < 0 := by omega
          have hX4 : ¬ (X : Int) < X := by omega
          clear e1 e2 e3 e4 hxl hX hbz TR
          go_wp2_with fail
          refine P1.out.mono ?_
          rintro e w5 ⟨rfl, rfl⟩
          clear P1
          go_wp2_with fail
          refine (HI.out _).mono ?_
          rintro e w5 ⟨rfl, rfl⟩
          go_wp2_with fail
          refine P2.out.mono ?_
          rintro e w5 ⟨rfl, rfl⟩
          clear P2
          go_wp2_with fail
          refine (HI.out _).mono ?_
          rintro e w5 ⟨rfl, rfl⟩
          go_wp2_with fail
          refine HA.out.mono ?_
          rintro e w4 ⟨⟨s, rfl, hlong⟩, hb4⟩
          have T4 := HE.out w4 hb4
          have hR := rgstr_any T4 s
          have e0 : (sS L (.string s)).getD LNIL = LNIL := by rw [gets_script, lastS_none L 0 s (fun t ht e => by have := hlong t ht; rw [e] at this; omega)]; rfl
          rw [e0] at hR
          have hR' := Lib.hid hR
          have hM' := Lib.hid (HM.out w4 hb4)
          have hN' := Lib.hid (hxl'.out ▸ maxn_any T4 HXL.out (last_script _))
          have hL' := Lib.hid (hxl'.out ▸ len_any T4 HXL.out (last_script _))
          have hE' := Lib.hid (e3'.out ▸ getint_int T4 HXL.out ((X : Int) + 1) (by omega) (by omega))
          have hG' := Lib.hid (getint_int T4 HXL.out (X : Int) (by omega) (by omega))
          have hfin : Hid (Below w.heap.size w w4) := Lib.hid (by
            have h1 := hw3.out.keeps (S := fun _ => False)
            have h2 : Below w.heap.size w wr := h1.below (fun _ _ => id)
            exact h2.trans (hb4.mono (by rw [hw3.out.heap]; exact Nat.le_refl _)))
          clear e0 hR T4 HA HM HE hb4 hlong
          go_wp2_with fail
          refine hR'.out.mono ?_
          rintro e w5 ⟨rfl, rfl⟩
          clear hR'
          go_wp2_with fail
          refine (HI.out _).mono ?_
          rintro e w5 ⟨rfl, rfl⟩
          go_wp2_with fail
          refine hM'.out.mono ?_
          rintro e w5 ⟨rfl, rfl⟩
          clear hM'
          go_wp2_with fail
          refine hN'.out.mono ?_
          rintro e w5 ⟨rfl, rfl⟩
          clear hN'
          go_wp2_with fail
          refine hL'.out.mono ?_
          rintro e w5 ⟨rfl, rfl⟩
          clear hL'
          by_cases hX0 : 0 < X
          · obtain ⟨b, hbx⟩ := e4'.out hX0
            have hG2 := Lib.hid (hbx ▸ hG'.out)
            have hN := Lib.hid (isnil_num b w4)
            clear hbx hG' e4'
            go_wp2_with fail
            refine hG2.out.mono ?_
            rintro e w5 ⟨rfl, rfl⟩
            clear hG2
            go_wp2_with fail
            refine hN.out.mono ?_
            rintro e w5 ⟨rfl, rfl⟩
            go_wp2_with fail
            refine hE'.out.mono ?_
            rintro e w5 ⟨rfl, rfl⟩
            go_wp2_with fail
            refine (HI.out _).mono ?_
            rintro e w5 ⟨rfl, rfl⟩
            go_wp2_with fail
            go_ret
            exact ⟨rfl, hfin.out⟩
          · have hX1 : ¬ (0 : Int) < (X : Int) := by omega
            clear hG' e4'
            go_wp2_with fail
            refine hE'.out.mono ?_
            rintro e w5 ⟨rfl, rfl⟩
            go_wp2_with fail
            refine (HI.out _).mono ?_
            rintro e w5 ⟨rfl, rfl⟩
            go_wp2_with fail
            go_ret
            exact ⟨rfl, hfin.out⟩
end Go.Proofs.YtbgolkdhcgjfkaaGreatDoor
