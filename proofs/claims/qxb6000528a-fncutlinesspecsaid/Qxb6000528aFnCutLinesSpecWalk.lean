/-
  The walk of the law 'FnCutLinesSpec' itself, out of the contracts.
-/
import Derived.Test.Qxb6000528aCutWalks3
import Derived.WalkSmall
namespace Go.Proofs.Qxb6000528a.Cut
open Go.RowKit

/-- the comparison of two slices of no element -/
theorem same_none (a b : Option Addr) (c d : Nat) (w : World) :
    Calls Try.prog 24 #[.slice a 0 c, .slice b 0 d] w fun e w' => e = .returned (.bool true) ∧ w' = w := by
  go_enter Try.func24, Try.ntmps24
  go_wp2
  refine wp_loop_rounds 1 ?_
  rw [rounds_succ]
  go_wp2
  go_ret
  exact ⟨rfl, rfl⟩

/-- more bytes than the bound: true at once -/
theorem law_long (a : Option Addr) (n cap : Nat) (k : Int) (w : World) (hl : n ≤ maxLen) (h : ¬ n ≤ 1048576) :
    Calls Try.prog 7 #[.slice a n cap, .int .i64 k] w fun e w' => e = .returned (.bool true) ∧ Below w.heap.size w w' := by
  have hd : decide (n ≤ 1048576) = false := decide_eq_false h
  go_enter Try.func7, Try.ntmps7
  go_wp2_with fail
  refine (bytes_any a n cap k w hl).mono ?_
  rintro e w1 ⟨rfl, rfl⟩
  rw [hd]
  go_wp2
  go_ret
  exact ⟨rfl, Below.refl _ _⟩

set_option maxHeartbeats 400000 in
/-- nil -/
theorem law_nil (k : Int) (w : World) :
    Calls Try.prog 7 #[.slice none 0 0, .int .i64 k] w fun e w' => e = .returned (.bool true) ∧ Below w.heap.size w w' := by
  have hq := fun (w : World) => Lib.run_eql_slice_nil (P := Try.prog) w 22 5 none 0 0 0 0 Try.underlying22
  go_enter Try.func7, Try.ntmps7
  go_wp2_with fail
  refine (bytes_any none 0 0 k w (Nat.zero_le _)).mono ?_
  rintro e w1 ⟨rfl, rfl⟩
  rw [show decide (0 ≤ 1048576) = true from rfl]
  go_wp2_with fail
  refine (copy_nil _).mono ?_
  rintro e w2 ⟨rfl, rfl⟩
  go_wp2_with fail
  refine (zzcut_nil k _).mono ?_
  rintro e w3 ⟨ha, q, rfl⟩
  rcases ha with ⟨hk, rfl⟩ | ⟨hk, rfl⟩
  · go_wp2_with fail
    refine (count_none none 0 _).mono ?_
    rintro e w4 ⟨rfl, rfl⟩
    have hd : decide (k ≤ 0) = false := decide_eq_false (by omega)
    go_wp2
    go_ret
    exact ⟨rfl, below_drewN (Below.refl _ _) _⟩
  · go_wp2_with fail
    refine (count_none none 0 _).mono ?_
    rintro e w4 ⟨rfl, rfl⟩
    by_cases h0 : k < 0
    · go_wp2_with fail
      refine (same_none none none 0 0 _).mono ?_
      rintro e w5 ⟨rfl, rfl⟩
      go_wp2_with fail
      refine (same_none none none 0 0 _).mono ?_
      rintro e w6 ⟨rfl, rfl⟩
      go_wp2_with fail
      refine (count_none none 0 _).mono ?_
      rintro e w7 ⟨rfl, rfl⟩
      go_wp2
      go_ret
      exact ⟨rfl, below_drewN (Below.refl _ _) _⟩
    · obtain rfl : k = 0 := by omega
      go_wp2_with fail
      refine (same_none none none 0 0 _).mono ?_
      rintro e w5 ⟨rfl, rfl⟩
      go_wp2_with fail
      refine (same_none none none 0 0 _).mono ?_
      rintro e w6 ⟨rfl, rfl⟩
      go_wp2_with fail
      refine (count_none none 0 _).mono ?_
      rintro e w7 ⟨rfl, rfl⟩
      go_wp2
      go_ret
      exact ⟨rfl, below_drewN (Below.refl _ _) _⟩

set_option maxHeartbeats 1000000 in
/-- a slice that is not nil -/
theorem law_some (x : Addr) (n cap : Nat) (zs : List Int) (k : Int) (w : World) (hn : n ≤ 1048576) (hz : n ≤ zs.length) (hw : ∀ z ∈ zs, 0 ≤ z ∧ z ≤ 255)
    (hc : ∀ i, i < zs.length → w.cell? (x.add i) = some (.int .u8 (zs.getD i 0))) :
    Calls Try.prog 7 #[.slice (some x) n cap, .int .i64 k] w fun e w' => e = .returned (.bool true) ∧ Below w.heap.size w w' := by
  have hq := fun (w : World) (a : Option Addr) (n c : Nat) => Lib.run_eql_slice_nil (P := Try.prog) w 22 5 a n c 0 0 Try.underlying22
  have hd : decide (n ≤ 1048576) = true := decide_eq_true hn
  have hb : ∀ z ∈ zs.take n, 0 ≤ z ∧ z ≤ 255 := fun z hz => hw z (List.mem_of_mem_take hz)
  have hx : (zs.take n).length = n := by simp; omega
  go_enter Try.func7, Try.ntmps7
  go_wp2_with fail
  refine (bytes_any (some x) n cap k w (by unfold maxLen; omega)).mono ?_
  rintro e w1 ⟨rfl, rfl⟩
  rw [hd]
  clear hd
  go_wp2_with fail
  refine (copy_any x n cap zs _ hn hz hc).mono ?_
  rintro e w2 ⟨rfl, hb2, hc2⟩
  clear hc hz hw
  generalize zs.take n = xs at *
  obtain ⟨g, hg⟩ : ∃ g, w1.heap.size = g := ⟨_, rfl⟩
  have Hg : Hid (w1.heap.size = g) := hg
  rw [hg] at hb2 hc2 ⊢
  clear hg
  go_wp2_with fail
  refine (zzcut_any g n xs k _ hx hn hb hc2).mono ?_
  rintro e w3 ⟨ha, q, rfl⟩
  clear hb
  have hbel : Below g w1 (w2.drewN q) := below_drewN hb2 q
  have hc3 : ∀ i, i < n → (w2.drewN q).cell? ⟨g, 0 + i, none⟩ = some (.int .u8 (xs.getD i 0)) := hc2
  clear hc2 hb2
  generalize w2.drewN q = w3 at *
  rcases ha with ⟨rfl, hf⟩ | ⟨E, o, h1, h2, rfl, h3, h4⟩
  · go_wp2_with fail
    refine (count_any g 0 n n xs _ hx hn hc3).mono ?_
    rintro e w4 ⟨rfl, rfl⟩
    have hd : decide (k ≤ (cnt xs : Int)) = false := decide_eq_false (by omega)
    clear hc3
    go_wp2
    go_ret
    exact ⟨rfl, by rw [Hg.out]; exact hbel⟩
  · have hcT : cnt (xs.take E) ≤ cnt xs := by rw [cnt_split xs E]; omega
    have HT : Hid (cnt (xs.take E) ≤ cnt xs) := hcT
    have H2 : Hid (E < n → o = E) := h2
    have H3 : Hid (k ≤ 0 → E = 0) := h3
    have H4 : Hid (0 < k → (cnt (xs.take E) : Int) = k ∧ 0 < E ∧ xs.getD (E - 1) 0 = 10) := h4
    clear hcT h2 h3 h4
    by_cases hk : k ≤ 0
    · obtain rfl : E = 0 := H3.out hk
      have hce : ∀ i, i < n → w3.cell? ⟨g, o + i, none⟩ = some (.int .u8 (xs.getD i 0)) := by
        intro i hi
        rw [H2.out (by omega)]
        exact hc3 i hi
      have hkc : k ≤ (cnt xs : Int) := by omega
      go_wp2_with fail
      refine (count_any g 0 n n xs _ hx hn hc3).mono ?_
      rintro e w4 ⟨rfl, rfl⟩
      by_cases h0 : k < 0
      · go_wp2_with fail
        refine (same_none _ _ _ _ _).mono ?_
        rintro e w5 ⟨rfl, rfl⟩
        go_wp2_with fail
        refine (same_any g o n g 0 n n xs _ hn hce hc3).mono ?_
        rintro e w6 ⟨rfl, q', rfl⟩
        go_wp2_with fail
        refine (count_none _ _ _).mono ?_
        rintro e w7 ⟨rfl, rfl⟩
        clear hc3 hce
        go_wp2
        go_ret
        exact ⟨rfl, by rw [Hg.out]; exact below_drewN hbel _⟩
      · obtain rfl : k = 0 := by omega
        go_wp2_with fail
        refine (same_none _ _ _ _ _).mono ?_
        rintro e w5 ⟨rfl, rfl⟩
        go_wp2_with fail
        refine (same_any g o n g 0 n n xs _ hn hce hc3).mono ?_
        rintro e w6 ⟨rfl, q', rfl⟩
        go_wp2_with fail
        refine (count_none _ _ _).mono ?_
        rintro e w7 ⟨rfl, rfl⟩
        clear hc3 hce
        go_wp2
        go_ret
        exact ⟨rfl, by rw [Hg.out]; exact below_drewN hbel _⟩
    · obtain ⟨hT, hE0, h10⟩ := H4.out (by omega)
      obtain ⟨kk, rfl⟩ := Int.eq_ofNat_of_zero_le (show 0 ≤ k by omega)
      have HkT : Hid (cnt (xs.take E) = kk) := (by omega : cnt (xs.take E) = kk)
      have H10 : Hid (xs.getD (E - 1) 0 = 10) := h10
      have hkc : kk ≤ cnt xs := by have := HT.out; omega
      have hkp : 0 < kk := by omega
      have hk0 : ((kk : Int) == 0) = false := by rw [beq_eq_false_iff_ne]; omega
      clear hT h10 hk H3 H4 HT
      have hcT : ∀ i, i < E → w3.cell? ⟨g, 0 + i, none⟩ = some (.int .u8 ((xs.take E).getD i 0)) := by
        intro i hi
        rw [hc3 i (by omega)]
        simp [List.getD_eq_getElem?_getD, hi]
      have hlast : w3.cell? ⟨g, E - 1, none⟩ = some (.int .u8 10) := by
        have h := hc3 (E - 1) (by omega)
        rw [Nat.zero_add, H10.out] at h
        exact h
      by_cases hEn : E < n
      · obtain rfl : o = E := H2.out hEn
        have hcD : ∀ i, i < n - o → w3.cell? ⟨g, o + i, none⟩ = some (.int .u8 ((xs.drop o).getD i 0)) := by
          intro i hi
          have h := hc3 (o + i) (by omega)
          rw [Nat.zero_add] at h
          rw [h]
          simp [List.getD_eq_getElem?_getD, List.getElem?_drop]
        have hsum : ((o : Int) + ((n - o : Nat) : Int) != (n : Int)) = false := by rw [bne_eq_false_iff_eq]; omega
        go_wp2_with fail
        refine (count_any g 0 n n xs _ hx hn hc3).mono ?_
        rintro e w4 ⟨rfl, rfl⟩
        go_wp2_with fail
        refine (same_any g 0 n g 0 n o (xs.take o) _ (by omega) hcT hcT).mono ?_
        rintro e w5 ⟨rfl, q1, rfl⟩
        go_wp2_with fail
        refine (same_any g o (n - o) g o (n - o) (n - o) (xs.drop o) _ (by omega) (by exact hcD) (by exact hcD)).mono ?_
        rintro e w6 ⟨rfl, q2, rfl⟩
        go_wp2_with fail
        refine (count_any g 0 o n (xs.take o) _ (by simp; omega) (by omega) (by exact hcT)).mono ?_
        rintro e w7 ⟨rfl, rfl⟩
        rw [HkT.out]
        clear hc3 hcT hcD
        go_wp2
        go_ret
        exact ⟨rfl, by rw [Hg.out]; exact below_drewN hbel _⟩
      · obtain rfl : E = n := by omega
        go_wp2_with fail
        refine (count_any g 0 E E xs _ hx hn hc3).mono ?_
        rintro e w4 ⟨rfl, rfl⟩
        go_wp2_with fail
        refine (same_any g 0 E g 0 E E (xs.take E) _ (by omega) hcT hcT).mono ?_
        rintro e w5 ⟨rfl, q1, rfl⟩
        go_wp2_with fail
        refine (same_none _ _ _ _ _).mono ?_
        rintro e w6 ⟨rfl, rfl⟩
        go_wp2_with fail
        refine (count_any g 0 E E (xs.take E) _ (by simp; omega) (by omega) (by exact hcT)).mono ?_
        rintro e w7 ⟨rfl, rfl⟩
        rw [HkT.out]
        clear hc3 hcT
        go_wp2
        go_ret
        exact ⟨rfl, by rw [Hg.out]; exact below_drewN hbel _⟩

end Go.Proofs.Qxb6000528a.Cut
