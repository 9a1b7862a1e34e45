/-
  The walk of cutLines.
-/
import Derived.Test.Qxb6000528aCutWalks2
namespace Go.Proofs.Qxb6000528a.Cut
open Go.RowKit

/-- what cutLines answers over a row of n cells at the head of the block g -/
def Answer (g n : Nat) (xs : List Int) (k : Int) (e : Ending) : Prop :=
  (e = .returned (.tuple #[.slice none 0 0, .slice none 0 0, .bool false]) ∧ (cnt xs : Int) < k) ∨
  ∃ E o : Nat, E ≤ n ∧ (E < n → o = E) ∧ e = .returned (.tuple #[.slice (some ⟨g, 0, none⟩) E n, .slice (some ⟨g, o, none⟩) (n - E) (n - E), .bool true]) ∧
    (k ≤ 0 → E = 0) ∧ (0 < k → (cnt (xs.take E) : Int) = k ∧ 0 < E ∧ xs.getD (E - 1) 0 = 10)

set_option maxHeartbeats 1000000 in
theorem cut_any (g n : Nat) (xs : List Int) (k : Int) (w : World) (hx : xs.length = n) (hn : n ≤ 1048576) (hb : ∀ x ∈ xs, 0 ≤ x ∧ x ≤ 255)
    (hc : ∀ i, i < n → w.cell? ⟨g, 0 + i, none⟩ = some (.int .u8 (xs.getD i 0))) :
    Calls Try.prog 28 #[.slice (some ⟨g, 0, none⟩) n n, .int .i64 k] w fun e w' => Answer g n xs k e ∧ ∃ q, w' = w.drewN q := by
  go_enter Try.func28, Try.ntmps28
  go_wp2
  go_loop [7, 10] (fun e r => ∃ E R : Nat, e = .int .i64 E ∧ r = .int .i64 R ∧ E ≤ n ∧ Hid (cnt (xs.take E) = R) ∧ Hid (R = 0 → E = 0) ∧ Hid (0 < R → 0 < E ∧ xs.getD (E - 1) 0 = 10) ∧ Hid ((R : Int) ≤ k ∨ R = 0)) (fun e _ => n - (intOf e).toNat)
  case atStart => exact ⟨0, 0, rfl, rfl, Nat.zero_le _, rfl, fun _ => rfl, fun h => absurd h (Nat.lt_irrefl _), .inr rfl⟩
  case round =>
    obtain ⟨E, R, rfl, rfl, hE, HR, H0, H1, H2⟩ := hrel
    have hRn : R ≤ n := by rw [← HR.out]; exact Nat.le_trans (cnt_le _) (by simp; omega)
    by_cases hlt : (R : Int) < k
    · by_cases hEn : E < n
      · have hcd : ∀ i, i < n - E → w.cell? ⟨g, E + i, none⟩ = some (.int .u8 ((xs.drop E).getD i 0)) := by
          intro i hi
          have h := hc (E + i) (by omega)
          rw [Nat.zero_add] at h
          rw [h]
          simp [List.getD_eq_getElem?_getD, List.getElem?_drop]
        have Hs : Hid ((Lib.indexByte (Lib.bytesOf (xs.drop E)) 10 = -1 ∧ cnt (xs.drop E) = 0) ∨
          ∃ i : Nat, Lib.indexByte (Lib.bytesOf (xs.drop E)) 10 = (i : Int) ∧ i < (xs.drop E).length ∧ (xs.drop E).getD i 0 = 10 ∧ cnt ((xs.drop E).take (i + 1)) = 1) := index_spec (xs.drop E) (bounds_drop hb E)
        go_wp2_with fail
        refine (index_any g E (n - E) (n - E) (xs.drop E) 10 w (by simp; omega) hcd).mono ?_
        rintro e w1 ⟨rfl, rfl⟩
        clear hcd hc
        rcases Hs.out with ⟨hi, h0⟩ | ⟨i, hi, h1, h2, h3⟩
        · have Hf : Hid ((cnt xs : Int) < k) := (by rw [cnt_split xs E, HR.out, h0]; simpa using hlt : (cnt xs : Int) < k)
          clear h0 hb
          rw [show (10 : Int).toNat.toUInt8 = (10 : UInt8) from rfl, hi]
          clear hi
          go_wp2
          go_ret3
          exact ⟨.inl ⟨rfl, Hf.out⟩, 0, rfl⟩
        · have hm := one_more xs E i h1 h2 h3
          rw [HR.out] at hm
          have Hm : Hid (cnt (xs.take (E + i + 1)) = R + 1) := hm.1
          have H10 : Hid (xs.getD (E + i) 0 = 10) := hm.2.2
          have hle : E + i + 1 ≤ n := by have := hm.2.1; omega
          clear h1 h2 h3 hm hb
          rw [show (10 : Int).toNat.toUInt8 = (10 : UInt8) from rfl, hi]
          clear hi
          go_wp2
          go_round
          case rel => exact ⟨E + i + 1, R + 1, by go_num, by go_num, hle, Hm, fun h => absurd h (by omega), fun _ => ⟨by omega, by simpa using H10.out⟩, .inl (by omega)⟩
          case measure => simp [intOf]; omega
      · obtain rfl : E = n := by omega
        have Hf : Hid ((cnt xs : Int) < k) := (by have h := HR.out; rw [List.take_of_length_le (by omega)] at h; rw [h]; exact hlt : (cnt xs : Int) < k)
        clear hc
        go_wp2_with fail
        refine (index_any g 0 0 0 [] 10 w rfl (fun i hi => absurd hi (Nat.not_lt_zero _))).mono ?_
        rintro e w1 ⟨rfl, rfl⟩
        rw [show Lib.indexByte (Lib.bytesOf []) (10 : Int).toNat.toUInt8 = -1 from rfl]
        go_wp2
        go_ret3
        exact ⟨.inl ⟨rfl, Hf.out⟩, 0, rfl⟩
    · have Hk : Hid ((k ≤ 0 → E = 0) ∧ (0 < k → (cnt (xs.take E) : Int) = k ∧ 0 < E ∧ xs.getD (E - 1) 0 = 10)) := by
        refine ⟨fun h => ?_, fun h => ?_⟩
        · refine H0.out ?_
          rcases H2.out with h2 | h2 <;> omega
        · have hk : (R : Int) = k := by rcases H2.out with h2 | h2 <;> omega
          refine ⟨by rw [HR.out]; exact hk, H1.out (by omega)⟩
      clear hc
      by_cases hEn : E < n
      · have hne : ¬ n = E := by omega
        go_wp2
        go_quiet (fail)
        go_wp2
        go_ret3
        exact ⟨.inr ⟨E, E, hE, fun _ => rfl, rfl, Hk.out⟩, nq, rfl⟩
      · obtain rfl : E = n := by omega
        go_wp2
        go_quiet (fail)
        go_wp2
        go_ret3
        exact ⟨.inr ⟨E, 0, hE, fun h => absurd h (Nat.lt_irrefl _), by simp, Hk.out⟩, nq, rfl⟩

set_option maxHeartbeats 400000 in
/-- cutLines at nil -/
theorem cut_nil (k : Int) (w : World) :
    Calls Try.prog 28 #[.slice none 0 0, .int .i64 k] w fun e w' => ((0 < k ∧ e = .returned (.tuple #[.slice none 0 0, .slice none 0 0, .bool false])) ∨ (k ≤ 0 ∧ e = .returned (.tuple #[.slice none 0 0, .slice none 0 0, .bool true]))) ∧ ∃ q, w' = w.drewN q := by
  by_cases hk : 0 < k
  · go_enter Try.func28, Try.ntmps28
    go_wp2
    refine wp_loop_rounds 1 ?_
    rw [rounds_succ]
    go_wp2_with fail
    refine (index_nil 10 w).mono ?_
    rintro e w1 ⟨rfl, rfl⟩
    go_wp2
    go_ret3
    exact ⟨.inl ⟨hk, rfl⟩, 0, rfl⟩
  · go_enter Try.func28, Try.ntmps28
    go_wp2
    refine wp_loop_rounds 1 ?_
    rw [rounds_succ]
    go_wp2
    go_quiet (fail)
    go_wp2
    go_ret3
    exact ⟨.inr ⟨by omega, rfl⟩, nq, rfl⟩

theorem zzcut_any (g n : Nat) (xs : List Int) (k : Int) (w : World) (hx : xs.length = n) (hn : n ≤ 1048576) (hb : ∀ x ∈ xs, 0 ≤ x ∧ x ≤ 255)
    (hc : ∀ i, i < n → w.cell? ⟨g, 0 + i, none⟩ = some (.int .u8 (xs.getD i 0))) :
    Calls Try.prog 22 #[.slice (some ⟨g, 0, none⟩) n n, .int .i64 k] w fun e w' => Answer g n xs k e ∧ ∃ q, w' = w.drewN q := by
  go_enter Try.func22, Try.ntmps22
  go_wp2_with fail
  refine (cut_any g n xs k w hx hn hb hc).mono ?_
  rintro e w1 ⟨ha, q, rfl⟩
  clear hc hb
  rcases ha with ⟨rfl, h⟩ | ⟨E, o, h1, h2, rfl, h3, h4⟩
  · have H : Hid ((cnt xs : Int) < k) := h
    clear h
    go_wp2
    go_ret3
    exact ⟨.inl ⟨rfl, H.out⟩, q, rfl⟩
  · have H2 : Hid (E < n → o = E) := h2
    have H3 : Hid (k ≤ 0 → E = 0) := h3
    have H4 : Hid (0 < k → (cnt (xs.take E) : Int) = k ∧ 0 < E ∧ xs.getD (E - 1) 0 = 10) := h4
    clear h2 h3 h4
    go_wp2
    go_ret3
    exact ⟨.inr ⟨E, o, h1, H2.out, rfl, H3.out, H4.out⟩, q, rfl⟩

theorem zzcut_nil (k : Int) (w : World) :
    Calls Try.prog 22 #[.slice none 0 0, .int .i64 k] w fun e w' => ((0 < k ∧ e = .returned (.tuple #[.slice none 0 0, .slice none 0 0, .bool false])) ∨ (k ≤ 0 ∧ e = .returned (.tuple #[.slice none 0 0, .slice none 0 0, .bool true]))) ∧ ∃ q, w' = w.drewN q := by
  go_enter Try.func22, Try.ntmps22
  go_wp2_with fail
  refine (cut_nil k w).mono ?_
  rintro e w1 ⟨ha, q, rfl⟩
  rcases ha with ⟨h, rfl⟩ | ⟨h, rfl⟩
  · go_wp2
    go_ret3
    exact ⟨.inl ⟨h, rfl⟩, q, rfl⟩
  · go_wp2
    go_ret3
    exact ⟨.inr ⟨h, rfl⟩, q, rfl⟩

end Go.Proofs.Qxb6000528a.Cut
