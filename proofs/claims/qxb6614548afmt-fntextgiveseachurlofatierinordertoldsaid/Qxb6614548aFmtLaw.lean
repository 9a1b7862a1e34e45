/-
  The walk of the law.
-/
import Derived.Test.Qxb6614548aFmtLawAid
import Derived.Test.Qxb6614548aFmtLawPlain
import Derived.OwnWalk
import Derived.Lib.AppendStr
import Derived.Test.Qxb6614548aFmtBenWalks3
set_option linter.unusedVariables false
namespace Go.Proofs.Qxb6614548aFmt.Ben
open Go.RowKit Go.Shelf Go.Extern.Stop Go.Stop Go.Extern

attribute [local go_sem] Oper.semAt_some

def bys (l : List Int) : List Value := l.map (Value.int .u8)
theorem bys_append (a b : List Int) : bys (a ++ b) = bys a ++ bys b := by simp [bys]
theorem hdr_cells : Lib.strCells ⟨#[100, 49, 51, 58, 97, 110, 110, 111, 117, 110, 99, 101, 45, 108, 105, 115, 116, 108, 108]⟩ = bys hdr := by rfl
theorem end_cells : Lib.strCells ⟨#[101, 101, 101]⟩ = bys [101, 101, 101] := by rfl
theorem info5 : (Tryf.prog.info? 5).map (fun i => (i.zero, i.size, i.bytes)) = some (some (.int .u8 0), 1, 1) := by kernel_rfl

theorem row_rd {w : World} {base g n cap : Nat} {l : List Int} (h : w.ownsRow base 5 1 (.slice (some ⟨g, 0, none⟩) n cap) n (bys l)) (hb : ∀ x ∈ l, 0 ≤ x ∧ x ≤ 255) : Rd w g 0 n (fun j => l.getD j 0) ∧ n ≤ cap := by
  have hl : l.length = n := by have := h.1; simpa [bys] using this
  rcases h.2 with ⟨h0, _⟩ | ⟨g', cap', cur, h1, _, h3, h4, h5, h6, h7⟩
  · cases h0
  · cases h1
    refine ⟨fun i hi => ?_, h4⟩
    have hi' : i < l.length := by omega
    have e : cur.toList[i]? = some (.int .u8 l[i]) := by
      have : (cur.toList.take (n * 1))[i]? = (bys l)[i]? := by rw [h7]
      rw [List.getElem?_take_of_lt (by omega)] at this
      rw [this]
      simp [bys, hi']
    refine ⟨?_, ?_⟩
    · simp only [World.cell?, h3, Nat.zero_add]
      simp [List.getD, hi']
      simpa using e
    · simp [List.getD, hi']
      exact hb _ (List.getElem_mem hi')

/-- the law's count of warnings -/
def bdv (fz : Nat → Nat → Int) (i : Nat) : Int := if wnn fz i = 0 then 0 else 1
theorem key1 (fz : Nat → Nat → Int) (L : Nat → Nat) (N : Nat) : ((win (bf fz L N) 4 13).toList == (⟨#[97, 110, 110, 111, 117, 110, 99, 101, 45, 108, 105, 115, 116]⟩ : ByteArray).toList) = true := by
  rw [key_win]; exact beq_self_eq_true _
theorem key2 (fz : Nat → Nat → Int) (L : Nat → Nat) (N : Nat) : ((win (bf fz L N) 4 13).toList == (⟨#[97, 110, 110, 111, 117, 110, 99, 101]⟩ : ByteArray).toList) = false := by
  rw [key_win]; kernel_rfl
theorem row_cell0 {w : World} {base g cap : Nat} {e : TypeId} {v : Value} (h : w.ownsRow base e 1 (.slice (some ⟨g, 0, none⟩) 1 cap) 1 [v]) : w.cell? ⟨g, 0, none⟩ = some v := by
  rcases h.2 with ⟨h0, _⟩ | ⟨g', cap', cur, h1, _, h3, h4, h5, h6, h7⟩
  · cases h0
  · cases h1
    have e : cur.toList[0]? = some v := by
      have : (cur.toList.take (1 * 1))[0]? = [v][0]? := by rw [h7]
      rw [List.getElem?_take_of_lt (by omega)] at this
      rw [this]; rfl
    simp only [World.cell?, h3]
    simpa using e
theorem bdv_t {fz : Nat → Nat → Int} {K : Nat} (h : digB (fz K 0) = true) : bdv fz (K + 1) = bdv fz K := by simp [bdv, wnn, h]
theorem bdv_f {fz : Nat → Nat → Int} {K : Nat} (h : digB (fz K 0) = false) : bdv fz (K + 1) = 1 := by simp [bdv, wnn, h]
theorem keep_e {fz : Nat → Nat → Int} {L : Nat → Nat} {K : Nat} (h : emp (tx (fz K) 0 (L K)) = true) : kept (tsx fz L (K + 1)) = kept (tsx fz L K) := by
  simp [tsx, List.range_succ, kept, h]
theorem keep_n {fz : Nat → Nat → Int} {L : Nat → Nat} {K : Nat} (h : emp (tx (fz K) 0 (L K)) = false) : kept (tsx fz L (K + 1)) = kept (tsx fz L K) ++ [tx (fz K) 0 (L K)] := by
  simp [tsx, List.range_succ, kept, h]
theorem keep_len (fz : Nat → Nat → Int) (L : Nat → Nat) (K : Nat) : (kept (tsx fz L K)).length ≤ K := by
  have : (kept (tsx fz L K)).length ≤ (tsx fz L K).length := List.length_filter_le _ _
  simpa [tsx] using this


set_option maxRecDepth 100000 in
set_option maxHeartbeats 4000000 in
theorem law_any (F : Interp) (a : Option Addr) (ab ao N cap : Nat) (A : Nat → Option Addr) (L C Bk Of : Nat → Nat) (fz : Nat → Nat → Int) (w : World) (hF : F.told.answers w.tape) (hN : N ≤ 9223372036854775807) (hI : Its w ab ao N A L C)
    (hA : ∀ r, r < N → 0 < L r → A r = some ⟨Bk r, Of r, none⟩ ∧ Rd w (Bk r) (Of r) (L r) (fz r) ∧ L r ≤ C r) (ha : 0 < N → a = some ⟨ab, ao, none⟩) :
    Calls Tryf.prog 6 #[.slice a N cap] w fun e w' => e = .returned (.bool true) ∧ Below w.heap.size w w' := by
  have HI : Hid (Its w ab ao N A L C) := hI
  have HA : Hid (∀ r, r < N → 0 < L r → A r = some ⟨Bk r, Of r, none⟩ ∧ Rd w (Bk r) (Of r) (L r) (fz r) ∧ L r ≤ C r) := hA
  clear hA
  obtain ⟨i5, hi, hz0, hz1, hz2⟩ := info_parts info5
  obtain ⟨i9, hj, hj0, hj1, hj2⟩ := info_parts info9
  go_enter Tryf.func6, Tryf.ntmps6
  go_wp2_with fail
  refine (bytes_any a ab ao N cap A L C w hN hI ha).mono ?_
  clear hI
  rintro e w1 ⟨⟨rfl, hN1, HLm⟩ | rfl, hw1⟩
  rotate_left
  · subst w1
    go_wp2
    go_ret
    exact ⟨rfl, Below.refl _ _⟩
  subst w1
  go_wp2
  go_loop [3, 4] (fun t i => ∃ (T I : Nat), t = .int .i64 (T : Int) ∧ i = .int .i64 (I : Int) ∧ T ≤ 1048576 ∧ I ≤ N ∧ Hid (T = 8 * I + Sm L I)) (fun _ i => N - (intOf i).toNat)
  case atStart => exact ⟨0, 0, rfl, rfl, Nat.zero_le _, Nat.zero_le _, rfl⟩
  case round =>
    obtain ⟨T, I, rfl, rfl, hT, hIN, HT⟩ := hrel
    by_cases hlt : I < N
    · have hlt' : (I : Int) < (N : Int) := by omega
      obtain rfl := ha (by omega)
      clear ha
      have hc := (HI.out I hlt).1
      have hm := HLm.out I hlt
      by_cases h3 : T + (8 + L I) ≤ 1048576
      · have h3' : decide ((1048576 : Int) < (T : Int) + (8 + (L I : Int))) = false := decide_eq_false (by omega)
        go_wp2
        go_round
        case rel => exact ⟨T + (8 + L I), I + 1, by simp, by simp, h3, by omega, by have := HT.out; show _ = 8 * (I + 1) + (Sm L I + L I); omega⟩
        case measure => simp [intOf]; omega
      · have h3' : decide ((1048576 : Int) < (T : Int) + (8 + (L I : Int))) = true := decide_eq_true (by omega)
        go_wp2
        go_ret
        exact ⟨rfl, Below.refl _ _⟩
    · have hlt' : ¬ (I : Int) < (N : Int) := by omega
      obtain rfl : I = N := by omega
      go_wp2
      go_loop [5] (fun i => ∃ (J : Nat), i = .int .i64 (J : Int) ∧ J ≤ I ∧ Hid (∀ r, r < J → 0 < L r ∧ Val (L r + 1) (fz r) 0 (L r))) (fun i => I - (intOf i).toNat)
      case atStart => exact ⟨0, rfl, Nat.zero_le _, fun r h => absurd h (Nat.not_lt_zero _)⟩
      case round =>
        obtain ⟨J, rfl, hJI, HV⟩ := hrel
        by_cases hlt2 : J < I
        · have hlt2' : (J : Int) < (I : Int) := by omega
          obtain rfl := ha (by omega)
          clear ha
          have hc := (HI.out J hlt2).1
          have hm := HLm.out J hlt2
          by_cases h0 : 0 < L J
          · have h0' : ((L J : Int) == 0) = false := by rw [beq_eq_false_iff_ne]; omega
            obtain ⟨hAJ, hRJ, hCJ⟩ := HA.out J hlt2 h0
            rw [hAJ] at hc
            go_wp2_with fail
            refine (valid_any (Bk J) (Of J) (L J) (C J) (fz J) w (by omega) h0 hRJ).mono ?_
            rintro e w2 ⟨⟨v, rfl, hv⟩, hw2⟩
            subst w2
            cases v with
            | true =>
              have HV' : Hid (∀ r, r < J + 1 → 0 < L r ∧ Val (L r + 1) (fz r) 0 (L r)) := fun r h => by
                rcases Nat.lt_or_ge r J with h' | h'
                · exact HV.out r h'
                · have e : r = J := by omega
                  rw [e]; exact ⟨h0, hv rfl⟩
              clear hv
              go_wp2
              go_round
              case rel => exact ⟨J + 1, by simp, by omega, HV'⟩
              case measure => simp [intOf]; omega
            | false =>
              clear hv
              go_wp2
              go_ret
              exact ⟨rfl, Below.refl _ _⟩
          · have h0' : ((L J : Int) == 0) = true := by rw [beq_iff_eq]; omega
            go_wp2
            go_ret
            exact ⟨rfl, Below.refl _ _⟩
        · have hlt2' : ¬ (J : Int) < (I : Int) := by omega
          obtain rfl : J = I := by omega
          have hS : Sm L J ≤ 1048576 := by have := HT.out; omega
          clear hlt hlt' hlt2 hlt2' hIN hJI
          go_wp2_with (first
            | (at_make; refine wpList_make_own _ rfl _ _ 25 rfl w.heap.size 5 i5 (.int .u8 0) 1 Tryf.underlying25 hi hz0 hz1 .i64 .i64 _ (T + 32) rfl rfl (by simp) (by rw [hz2]; omega) (by unfold maxLen; omega) (Nat.le_refl _) ?_; intro w2 hown2 hgrow2)
            | (at_builtin; refine Lib.wpList_append_own_string _ rfl _ _ 25 9 rfl w.heap.size 5 i5 Tryf.underlying25 Tryf.underlying9 hi hz0 hz1 hz2 _ _ _ rfl hown2 _ rfl (by unfold maxLen; decide) (by decide) hgrow2.size ?_; intro v3 w3 hown3 hgrow3 _))
          have hown3' : w3.ownsRow w.heap.size 5 1 v3 (19 + Sm L 0) (bys (hdr ++ flat fz L 0)) := hown3
          have hgrow3' : w2.grownBy w3 (some w.heap.size) := hgrow3
          have hB3 : Below w.heap.size w w3 := ((Below.refl _ w).grown hgrow2 (Nat.le_refl _) (fun k e => by cases e)).grown hgrow3' hgrow2.size (fun k e => by cases e; exact Nat.le_refl _)
          clear hown3 hgrow3 hgrow3' hown2 hgrow2
          go_loopw [6, 7] (fun v i wr => ∃ (I : Nat), i = .int .i64 (I : Int) ∧ I ≤ J ∧ Hid (wr.ownsRow w.heap.size 5 1 v (19 + Sm L I) (bys (hdr ++ flat fz L I))) ∧ Hid (Below w.heap.size w wr)) (fun _ i _ => J - (intOf i).toNat)
          case atStart => exact ⟨0, rfl, Nat.zero_le _, hown3', hB3⟩
          case round =>
            rename Value => v6
            obtain ⟨I, rfl, hIJ, HO, HB⟩ := hrel
            by_cases hlt : I < J
            · have hlt' : (I : Int) < (J : Int) := by omega
              obtain rfl := ha (by omega)
              clear ha
              have hc := (HI.out I hlt).1
              have hab : ab < w.heap.size := World.block_lt_of_cell? _ _ hc
              have hcr := (HB.out.cell (p := ⟨ab, ao + I, none⟩) hab).trans hc
              obtain ⟨h0, hv⟩ := HV.out I hlt
              obtain ⟨hAI, hRI, hCI⟩ := HA.out I hlt h0
              rw [hAI] at hcr
              have hRr := hRI.below HB.out (hRI.lt h0)
              have hSI := Sm_lt (L := L) hlt
              have hcs : ∀ j u, (bys ((List.range (L I)).map (fz I)))[j]? = some u → wr.cell? ((⟨Bk I, Of I, none⟩ : Addr).add j) = some u := by
                intro j u hu
                have hj : j < L I := by
                  rcases Nat.lt_or_ge j (L I) with h | h
                  · exact h
                  · rw [List.getElem?_eq_none (by simpa [bys] using h)] at hu; cases hu
                have e : (⟨Bk I, Of I, none⟩ : Addr).add j = ⟨Bk I, Of I + j, none⟩ := by
                  unfold Addr.add; split
                  · rename_i h; subst h; rfl
                  · rfl
                rw [e, (hRr j hj).1]
                rw [← hu]
                simp [bys, hj]
              have h1c : ∀ u ∈ bys ((List.range (L I)).map (fz I)), u.oneCell' = true := by
                intro u hu
                simp only [bys, List.mem_map] at hu
                obtain ⟨x, _, rfl⟩ := hu
                rfl
              have hln : (bys ((List.range (L I)).map (fz I))).length = L I * 1 := by simp [bys]
              have hwr : w.heap.size ≤ wr.heap.size := HB.out.size
              clear hRr hRI hc hv
              go_wp2_with (at_builtin; refine wpList_append_own _ rfl _ _ 25 rfl w.heap.size 5 i5 (.int .u8 0) 1 1 Tryf.underlying25 hi hz0 hz1 hz2 rfl (by decide) _ _ _ rfl HO.out ⟨Bk I, Of I, none⟩ (L I) (C I) (bys ((List.range (L I)).map (fz I))) rfl hln hcs h1c (by unfold maxLen; omega) (by omega) hwr ?_; intro v4 w4 hown4 hgrow4 _)
              have hown4' : w4.ownsRow w.heap.size 5 1 v4 (19 + Sm L (I + 1)) (bys (hdr ++ flat fz L (I + 1))) := by
                have e1 : 19 + Sm L (I + 1) = 19 + Sm L I + L I := by simp only [Sm]; omega
                have e2 : bys (hdr ++ flat fz L (I + 1)) = bys (hdr ++ flat fz L I) ++ bys ((List.range (L I)).map (fz I)) := by simp [bys, flat]
                rw [e1, e2]; exact hown4
              have hB4 : Below w.heap.size w w4 := HB.out.grown hgrow4 hwr (fun k e => (HO.out.lt k e).1)
              go_roundw
              case rel => exact ⟨I + 1, by simp, by omega, hown4', hB4⟩
              case measure => simp [intOf]; omega
            · have hlt' : ¬ (I : Int) < (J : Int) := by omega
              obtain rfl : I = J := by omega
              clear hlt hlt' hIJ
              have hwr : w.heap.size ≤ wr.heap.size := HB.out.size
              go_wp2_with (at_builtin; refine Lib.wpList_append_own_string _ rfl _ _ 25 9 rfl w.heap.size 5 i5 Tryf.underlying25 Tryf.underlying9 hi hz0 hz1 hz2 _ _ _ rfl HO.out _ rfl (by unfold maxLen; show _ + 3 ≤ _; omega) (by show _ + 3 ≤ _; omega) hwr ?_; intro v4 w4 hown4 hgrow4 _)
              have hown4' : w4.ownsRow w.heap.size 5 1 v4 (22 + Sm L I) (bys (buf fz L I)) := by
                have e1 : 22 + Sm L I = 19 + Sm L I + 3 := by omega
                have e2 : bys (buf fz L I) = bys (hdr ++ flat fz L I) ++ Lib.strCells ⟨#[101, 101, 101]⟩ := by rw [end_cells]; simp [bys, buf]
                rw [e1, e2]; exact hown4
              have hB4 : Below w.heap.size w w4 := HB.out.grown hgrow4 hwr (fun k e => (HO.out.lt k e).1)
              clear hown4 hgrow4
              rcases hown4'.2 with ⟨_, h0⟩ | ⟨g4, cap4, cur4, rfl, _⟩
              · omega
              obtain ⟨hR4, hcap4⟩ := row_rd hown4' (bf_bounds fz L I (fun r hr j hj => ((HA.out r hr (HV.out r hr).1).2.1 j hj).2))
              obtain ⟨hD, h17, x0, xs, m1, m2, hL1, hL2, hks, hwn⟩ := build fz L I (fun r h => (HV.out r h).2)
              refine (zzread_any F g4 0 (22 + Sm L I) cap4 (21 + Sm L I) m1 m2 (bf fz L I) x0 xs w4 (by rw [hB4.tape]; exact hF) (by omega) hcap4 hR4 hD (key1 fz L I) (key2 fz L I) h17 hL1 hL2).mono ?_
              rintro e w5 ⟨T5, Wv, rfl, hT5, hW5, hb5⟩
              rw [hks] at hT5
              rw [hwn] at hW5
              have hB5 : Below w.heap.size w w5 := hB4.trans (hb5.mono hB4.size)
              have HT5 : Hid (TierOk w4.heap.size (kept (tsx fz L I)) T5 w5) := hT5
              have HW5 : Hid ((wnn fz I = 0 ∧ Wv = .slice none 0 0) ∨ (0 < wnn fz I ∧ ∃ g cap, Wv = .slice (some ⟨g, 0, none⟩) 1 cap)) := hW5
              have HB5 : Hid (Below w.heap.size w w5) := hB5
              clear hT5 hW5 hB5 hb5 hks hwn hL1 hL2 hD h17 hR4 hcap4 hown4' hB4 HO HB x0 xs
              go_wp2
              go_loopw [10, 11, 12] (fun wv bad i wr => ∃ (K : Nat), i = .int .i64 (K : Int) ∧ K ≤ I ∧ bad = .int .i64 (bdv fz K) ∧ Hid (wr.ownsRow w5.heap.size 9 1 wv (kept (tsx fz L K)).length (strs (kept (tsx fz L K)))) ∧ Hid (Below w5.heap.size w5 wr)) (fun _ _ i _ => I - (intOf i).toNat)
              case atStart => exact ⟨0, rfl, Nat.zero_le _, rfl, World.ownsRow_nil _ _ _ _, Below.refl _ _⟩
              case round =>
                obtain ⟨K, rfl, hKI, rfl, HO, HB⟩ := hrel
                have hkl := keep_len fz L K
                have hBr : Below w.heap.size w wr := HB5.out.trans (HB.out.mono HB5.out.size)
                by_cases hlt : K < I
                · have hlt' : (K : Int) < (I : Int) := by omega
                  obtain rfl := ha (by omega)
                  clear ha
                  have hc := (HI.out K hlt).1
                  have hab : ab < w.heap.size := World.block_lt_of_cell? _ _ hc
                  have hcr := (hBr.cell (p := ⟨ab, ao + K, none⟩) hab).trans hc
                  obtain ⟨h0, hv⟩ := HV.out K hlt
                  obtain ⟨hAK, hRK, hCK⟩ := HA.out K hlt h0
                  have hm := HLm.out K hlt
                  rw [hAK] at hcr
                  have hbk := hRK.lt h0
                  have hRr := hRK.below hBr hbk
                  have hwr : w.heap.size ≤ wr.heap.size := hBr.size
                  have Hv : Hid (Val (L K + 1) (fz K) 0 (L K)) := hv
                  have HR : Hid (Rd wr (Bk K) (Of K) (L K) (fz K)) := hRr
                  clear hRK hc hv hRr
                  go_wp2_with fail
                  refine (zztext_any (Bk K) (Of K) (L K) (C K) (L K + 1) (fz K) wr (by omega) hCK HR.out Hv.out).mono ?_
                  rintro e w6 ⟨rfl, hb6⟩
                  have hcr6 := (hb6.cell (p := ⟨ab, ao + K, none⟩) (by show ab < _; omega)).trans hcr
                  have hR6 := HR.out.below hb6 (by omega)
                  clear hcr
                  go_wp2_with fail
                  refine (istext_any (Bk K) (Of K) (L K) (C K) (L K + 1) (fz K) w6 (by omega) hR6 Hv.out).mono ?_
                  rintro e w7 ⟨rfl, q, hq⟩
                  have hb7 : Below w6.heap.size w6 w7 := by rw [hq]; exact ⟨rfl, rfl, rfl, Nat.le_refl _, fun _ _ => rfl⟩
                  have hs6 := hb6.size
                  have hs7 := hb7.size
                  have hcr7 := (hb7.cell (p := ⟨ab, ao + K, none⟩) (by show ab < _; omega)).trans hcr6
                  have hc0 : w7.cell? ⟨Bk K, Of K, none⟩ = some (.int .u8 (fz K 0)) := ((hR6.below hb7 (by omega)) 0 h0).1
                  have HO7 : Hid (w7.ownsRow w5.heap.size 9 1 u10 (kept (tsx fz L K)).length (strs (kept (tsx fz L K)))) := row_below (row_below HO.out hb6) hb7
                  have hB7 : Below w5.heap.size w5 w7 := (HB.out.trans (hb6.mono HB.out.size)).trans (hb7.mono (by have := HB.out.size; omega))
                  have HB7 : Hid (Below w5.heap.size w5 w7) := hB7
                  have hs5 : w5.heap.size ≤ w7.heap.size := hB7.size
                  clear hcr6 hR6 hq hb6 hb7 hB7
                  go_wp2_with fail
                  refine (zzdigit_any (fz K 0) w7).mono ?_
                  rintro e w8 ⟨rfl, hw8⟩
                  subst w8
                  cases hd : digB (fz K 0) with
                  | true =>
                    have Hd : Hid (digB (fz K 0) = true) := hd
                    clear hd
                    cases he : emp (tx (fz K) 0 (L K)) with
                    | true =>
                      have he' : (tx (fz K) 0 (L K)).toList.isEmpty = true := he
                      go_wp2
                      go_roundw
                      case rel => exact ⟨K + 1, by simp, by omega, by rw [bdv_t Hd.out], by rw [keep_e he]; exact HO7.out, HB7.out⟩
                      case measure => simp [intOf]; omega
                    | false =>
                      have he' : (tx (fz K) 0 (L K)).toList.isEmpty = false := he
                      go_wp2_with (at_builtin; refine wpList_append_own _ rfl _ _ 28 rfl w5.heap.size 9 i9 (.string ByteArray.empty) 1 16 Tryf.underlying28 hj hj0 hj1 hj2 rfl (by decide) _ _ _ rfl (HO7.out.alloc _) ⟨w7.heap.size, 0, none⟩ 1 1 [.string (tx (fz K) 0 (L K))] rfl rfl (cell_one_new _ _ _) (by simp [Value.oneCell']) (by unfold maxLen; omega) (by omega) (by simp; omega) ?_; intro v9 w9 hown9 hgrow9 _)
                      have hB9 : Below w5.heap.size w5 w9 := (HB7.out.alloc hs5 _).grown hgrow9 (by simp; omega) (fun k e => (HO7.out.lt k e).1)
                      have hown9' : w9.ownsRow w5.heap.size 9 1 v9 (kept (tsx fz L (K + 1))).length (strs (kept (tsx fz L (K + 1)))) := by
                        rw [keep_n he]; simpa [strs] using hown9
                      go_roundw
                      case rel => exact ⟨K + 1, by simp, by omega, by rw [bdv_t Hd.out], hown9', hB9⟩
                      case measure => simp [intOf]; omega
                  | false =>
                    have Hd : Hid (digB (fz K 0) = false) := hd
                    have he : emp (tx (fz K) 0 (L K)) = true := by rw [tx_non hd]; exact emp_empty
                    have he' : (tx (fz K) 0 (L K)).toList.isEmpty = true := he
                    clear hd
                    go_wp2
                    go_roundw
                    case rel => exact ⟨K + 1, by simp, by omega, by rw [bdv_f Hd.out], by rw [keep_e he]; exact HO7.out, HB7.out⟩
                    case measure => simp [intOf]; omega
                · have hlt' : ¬ (K : Int) < (I : Int) := by omega
                  obtain rfl : K = I := by omega
                  clear hlt hlt' hKI
                  have hrow := HO.out
                  have hTk : TierOk w4.heap.size (kept (tsx fz L K)) T5 wr := HT5.out.kc (kc_below HB.out)
                  have fin : ∀ {x : Ending}, x = .returned (.bool true) → x = .returned (.bool true) ∧ Below w.heap.size w wr := fun h => ⟨h, hBr⟩
                  clear HT HLm HA HI HV HB HB5 hS hT hN
                  have hWb : (bdv fz K = 0 ∧ Wv = .slice none 0 0) ∨ (bdv fz K = 1 ∧ ∃ g cap, Wv = .slice (some ⟨g, 0, none⟩) 1 cap) := by
                    rcases HW5.out with ⟨h1, h2⟩ | ⟨h1, h2⟩
                    · exact .inl ⟨by simp [bdv, h1], h2⟩
                    · exact .inr ⟨by simp [bdv]; omega, h2⟩
                  clear HW5 HT5
                  rcases Nat.eq_zero_or_pos (kept (tsx fz L K)).length with hk0 | hk0
                  · obtain rfl : T5 = .slice none 0 0 := by
                      rcases hTk with ⟨_, h⟩ | ⟨h, _⟩
                      · exact h
                      · omega
                    have hu : u10 = .slice none 0 0 ∨ ∃ g cap, u10 = .slice (some ⟨g, 0, none⟩) 0 cap := by
                      rcases hrow.2 with ⟨h, _⟩ | ⟨g, cap, _, h, _⟩
                      · exact .inl h
                      · exact .inr ⟨g, cap, by rw [h, hk0]⟩
                    clear hrow HO hTk hk0 hkl
                    rcases hu with rfl | ⟨gu, cu, rfl⟩ <;> rcases hWb with ⟨hb, rfl⟩ | ⟨hb, gw, cw, rfl⟩ <;> rw [hb] <;> clear hb
                    all_goals (
                      go_wp2
                      go_ret
                      exact ⟨rfl, hBr⟩)
                  · rcases hTk with ⟨h, _⟩ | ⟨_, v2, hT1, hT2⟩
                    · rw [h] at hk0; simp at hk0
                    obtain ⟨gT, cT, rfl⟩ := ownsRow_succ (k := 0) hT1
                    have hcT := row_cell0 hT1
                    rcases hT2.2 with ⟨_, h⟩ | ⟨g2, cap2, cur2, rfl, _⟩
                    · omega
                    rcases hrow.2 with ⟨_, h⟩ | ⟨gu, cu, curu, rfl, _⟩
                    · omega
                    have hs2 := fun i hi => strs_at hT2 i hi
                    have hsu := fun i hi => strs_at hrow i hi
                    have hkm : (kept (tsx fz L K)).length ≤ 2097152 := by omega
                    obtain ⟨M, hM⟩ : ∃ M, (kept (tsx fz L K)).length = M := ⟨_, rfl⟩
                    rw [hM] at hk0 hcT hs2 hsu hkm ⊢
                    have hM0 : ((M : Int) == 0) = false := by rw [beq_eq_false_iff_ne]; omega
                    clear hrow HO hT1 hT2 hM hkl
                    rcases hWb with ⟨hb, rfl⟩ | ⟨hb, gw, cw, rfl⟩ <;> rw [hb] <;> clear hb
                    all_goals (
                      go_wp2_with fail
                      refine (strsEq_any g2 gu M cap2 cu (kept (tsx fz L K)) wr hkm hs2 hsu).mono ?_
                      rintro e w9 ⟨rfl, q, rfl⟩
                      go_wp2
                      go_ret
                      exact ⟨rfl, hBr.trans ⟨rfl, rfl, rfl, Nat.le_refl _, fun _ _ => rfl⟩⟩)

end Go.Proofs.Qxb6614548aFmt.Ben
