/-
  The walk of next.
-/
import Derived.Test.Qxb6614548aFmtBenWalks4
set_option linter.unusedVariables false
namespace Go.Proofs.Qxb6614548aFmt.Ben
open Go.RowKit

set_option maxHeartbeats 4000000 in
/-- next at a whole value: where it ends -/
theorem next_any (b o n c pos q : Nat) (f : Nat → Int) (w : World) (hn : n ≤ 2097152) (hcap : n ≤ c) (hr : Rd w b o n f) (hB : ∃ t, Bal f t 0 pos q) (hq : q ≤ n) :
    Calls Tryf.prog 40 #[.agg #[.slice (some ⟨b, o, none⟩) n c], .int .i64 pos] w fun e w' => e = .returned (.int .i64 q) ∧ w' = w.alloc (.cells #[.slice (some ⟨b, o, none⟩) n c] 50) := by
  obtain ⟨t, hB⟩ := hB
  have h0 : 0 < n := by have := bal_lt hB; omega
  have hr1 : Rd (w.alloc (.cells #[.slice (some ⟨b, o, none⟩) n c] 50)) b o n f := hr.below ((Below.refl _ w).alloc (Nat.le_refl _) _) (hr.lt h0)
  have hlt0 := hr.lt h0
  clear hr
  go_enter Tryf.func40, Tryf.ntmps40
  go_wp2_with fail
  go_loop [1, 5] (fun p v => ∃ (P : Nat) (O : Nat) (t : Nat), p = .int .i64 (P : Int) ∧ v = .int .i64 (O : Int) ∧ O ≤ P ∧ P < q ∧ Hid (Bal f t O P q)) (fun p _ => n - (intOf p).toNat)
  case atStart => exact ⟨pos, 0, t, rfl, rfl, Nat.zero_le _, bal_lt hB, hB⟩
  case round =>
    clear hB t
    obtain ⟨P, O, t, rfl, rfl, hO, hP, HB⟩ := hrel
    have hlt : P < n := by omega
    have hlt' : (P : Int) < (n : Int) := by omega
    obtain ⟨hc, hy0, hy1⟩ := hr1 P hlt
    cases t with
    | zero => exact (HB.out : False).elim
    | succ t =>
    obtain ⟨r, δ, ht, hrest⟩ := HB.out
    have hPr := ht.lt
    rcases ht with ⟨h, rfl, rfl⟩ | ⟨h, rfl, rfl⟩ | ⟨hI, rfl⟩ | ⟨⟨s, hS⟩, rfl⟩
    · have hrest' : Bal f t ((O + 1 : Nat) : Int) (P + 1) q := by
        rcases hrest with h | h
        · omega
        · exact h.2
      have HB2 : Hid (Bal f t ((O + 1 : Nat) : Int) (P + 1) q) := hrest'
      have hPq := bal_lt hrest'
      have hz : ((O : Int) + 1 == 0) = false := by rw [beq_eq_false_iff_ne]; omega
      clear hrest hrest' HB
      rcases h with h | h
      all_goals
        rw [h] at hc
        clear h
        go_wp2
        go_round
        case rel => exact ⟨P + 1, O + 1, t, by go_num, by go_num, by omega, by omega, HB2⟩
        case measure => simp [intOf]; omega
    · rw [h] at hc
      clear h HB
      by_cases hO1 : O = 1
      · subst hO1
        have hPq : P + 1 = q := by
          rcases hrest with h | h
          · exact h.2
          · omega
        subst hPq
        clear hrest
        go_wp2
        go_ret
        exact ⟨by simp, rfl⟩
      · have hrest' : 1 < O ∧ Bal f t ((O - 1 : Nat) : Int) (P + 1) q := by
          rcases hrest with h | h
          · omega
          · have h2 := h.2
            rw [show (O : Int) + -1 = ((O - 1 : Nat) : Int) from by omega] at h2
            exact ⟨by omega, h2⟩
        have HB2 : Hid (Bal f t ((O - 1 : Nat) : Int) (P + 1) q) := hrest'.2
        have hPq := bal_lt hrest'.2
        have hO2 := hrest'.1
        have hz : ((O : Int) - 1 == 0) = false := by rw [beq_eq_false_iff_ne]; omega
        clear hrest hrest'
        go_wp2
        go_round
        case rel => exact ⟨P + 1, O - 1, t, by go_num, by go_num, by omega, by omega, HB2⟩
        case measure => simp [intOf]; omega
    · have hrn : r ≤ n := by
        rcases hrest with h | h
        · omega
        · have := bal_lt h.2; omega
      obtain ⟨h105, hI2, hI3, hI4⟩ := hI
      have hidx := fun w' (hr' : Rd w' b o n f) => index_f b (o + P) (n - P) (c - P) (r - 1 - P) (fun j => f (P + j)) 101 w' (hr'.drop P (n - P) (by omega)) (by omega) (by omega) (by omega) (by show f (P + (r - 1 - P)) = 101; rw [show P + (r - 1 - P) = r - 1 from by omega]; exact hI3)
        (fun j hj => by
          show f (P + j) ≠ 101
          by_cases hj0 : j = 0
          · subst hj0; rw [Nat.add_zero, h105]; decide
          · exact hI4 (P + j) (by omega) (by omega))
      have HX : Hid (∀ w', Rd w' b o n f → Calls Tryf.prog 44 #[.slice (some ⟨b, o + P, none⟩) (n - P) (c - P), .int .u8 101] w' fun e w'' => e = .returned (.int .i64 ((r - 1 - P : Nat) : Int)) ∧ w'' = w') := hidx
      rw [h105] at hc
      have hcP : ¬ c = P := by omega
      clear h105 hI3 hI4 hidx HB
      rcases hrest with ⟨h1, rfl⟩ | ⟨h1, h2⟩
      · obtain rfl : O = 0 := by omega
        go_wp2_with fail
        refine (HX.out _ hr1).mono ?_
        rintro e w1 ⟨rfl, rfl⟩
        go_wp2
        go_ret
        exact ⟨by simp; omega, rfl⟩
      · have HB2 : Hid (Bal f t (O : Int) r q) := (by rw [Int.add_zero] at h2; exact h2 : Bal f t (O : Int) r q)
        have hPq := bal_lt h2
        have hz : ((O : Int) == 0) = false := by rw [beq_eq_false_iff_ne]; omega
        clear h2
        go_wp2_with fail
        refine (HX.out _ hr1).mono ?_
        rintro e w1 ⟨rfl, rfl⟩
        go_wp2
        go_round
        case rel => exact ⟨r, O, t, by go_num, rfl, by omega, by omega, HB2⟩
        case measure => simp [intOf]; omega
    · have hrn : r ≤ n := by
        rcases hrest with h | h
        · omega
        · have := bal_lt h.2; omega
      have hd : Dig (f P) := by obtain ⟨k, hk, hd, _⟩ := hS; have := hd 0 hk; simpa using this
      unfold Dig at hd
      have g1 : (f P == 108) = false := by rw [beq_eq_false_iff_ne]; omega
      have g2 : (f P == 100) = false := by rw [beq_eq_false_iff_ne]; omega
      have g3 : (f P == 101) = false := by rw [beq_eq_false_iff_ne]; omega
      have g4 : (f P == 105) = false := by rw [beq_eq_false_iff_ne]; omega
      have HS : Hid (Str f P s r) := hS
      clear hS HB hd
      rcases hrest with ⟨h1, rfl⟩ | ⟨h1, h2⟩
      · obtain rfl : O = 0 := by omega
        go_wp2_with fail
        refine (body_any b o n c P s r f _ hn hr1 HS.out hrn).mono ?_
        rintro e w1 ⟨rfl, rfl⟩
        go_wp2
        go_ret
        exact ⟨rfl, rfl⟩
      · have HB2 : Hid (Bal f t (O : Int) r q) := (by rw [Int.add_zero] at h2; exact h2 : Bal f t (O : Int) r q)
        have hPq := bal_lt h2
        have hz : ((O : Int) == 0) = false := by rw [beq_eq_false_iff_ne]; omega
        clear h2
        go_wp2_with fail
        refine (body_any b o n c P s r f _ hn hr1 HS.out hrn).mono ?_
        rintro e w1 ⟨rfl, rfl⟩
        go_wp2
        go_round
        case rel => exact ⟨r, O, t, rfl, rfl, by omega, by omega, HB2⟩
        case measure => simp [intOf]; omega

end Go.Proofs.Qxb6614548aFmt.Ben
