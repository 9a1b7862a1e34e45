/-
  The walk of zzSkip (it calls itself: by induction on what is left) and of zzValid.
-/
import Derived.Test.Qxb6614548aFmtBenWalks
set_option linter.unusedVariables false
namespace Go.Proofs.Qxb6614548aFmt.Ben
open Go.RowKit

/-- what zzSkip answers at pos -/
def Skip (f : Nat → Int) (n pos : Nat) (e : Ending) : Prop := ∃ r : Int, e = .returned (.int .i64 r) ∧ (r = -1 ∨ ∃ q : Nat, r = (q : Int) ∧ q ≤ n ∧ Val (n - pos + 1) f pos q)

theorem skip_no {f : Nat → Int} {n pos : Nat} : Skip f n pos (.returned (.int .i64 (-1))) := ⟨-1, rfl, .inl rfl⟩
theorem skip_yes {f : Nat → Int} {n pos : Nat} {r : Int} (q : Nat) (hr : r = (q : Int)) (hq : q ≤ n) (hv : Val (n - pos + 1) f pos q) : Skip f n pos (.returned (.int .i64 r)) := ⟨r, rfl, .inr ⟨q, hr, hq, hv⟩⟩

set_option maxHeartbeats 1000000 in
/-- a byte string -/
theorem skip_str (b o n c pos : Nat) (f : Nat → Int) (w : World) (hn : n ≤ 2097152) (hr : Rd w b o n f) (hp : pos < n) (hd : digB (f pos) = true) :
    Calls Tryf.prog 25 #[.slice (some ⟨b, o, none⟩) n c, .int .i64 pos] w fun e w' => Skip f n pos e ∧ w' = w := by
  obtain ⟨hc0, hb0, hb1⟩ := hr pos hp
  have Hd : Hid (digB (f pos) = true) := hd
  have hA : decide ((pos : Int) < 0) = false := decide_eq_false (by omega)
  have hB : decide (n ≤ pos) = false := decide_eq_false (by omega)
  clear hd
  go_enter Tryf.func25, Tryf.ntmps25
  go_wp2_with fail
  refine (zzdigit_any _ _).mono ?_
  rintro e w1 ⟨rfl, rfl⟩
  rw [Hd.out]
  go_wp2_with fail
  refine (span_any b o n c pos f _ hn hr hp Hd.out).mono ?_
  rintro e w1 ⟨⟨r1, r2, rfl, hs⟩, rfl⟩
  clear hc0
  rcases hs with ⟨rfl, rfl⟩ | ⟨s, q, rfl, rfl, hs, hq⟩
  · go_wp2
    go_ret
    exact ⟨skip_no, rfl⟩
  · have HS : Hid (Val (n - pos + 1) f pos q) := (.inl ⟨s, hs⟩ : Val (n - pos + 1) f pos q)
    clear hs
    go_wp2
    go_ret
    exact ⟨skip_yes q rfl hq HS.out, rfl⟩

/-- neither a byte string, nor an integer, a list or a dictionary -/
theorem skip_other (b o n c pos : Nat) (f : Nat → Int) (w : World) (hn : n ≤ 2097152) (hr : Rd w b o n f) (hp : pos < n) (hd : digB (f pos) = false) (h1 : f pos ≠ 105) (h2 : f pos ≠ 108) (h3 : f pos ≠ 100) :
    Calls Tryf.prog 25 #[.slice (some ⟨b, o, none⟩) n c, .int .i64 pos] w fun e w' => Skip f n pos e ∧ w' = w := by
  obtain ⟨hc0, hb0, hb1⟩ := hr pos hp
  have Hd : Hid (digB (f pos) = false) := hd
  have hA : decide ((pos : Int) < 0) = false := decide_eq_false (by omega)
  have hB : decide (n ≤ pos) = false := decide_eq_false (by omega)
  have g1 : (f pos == 105) = false := by simp [h1]
  have g2 : (f pos != 108) = true := by simp [h2]
  have g3 : (f pos != 100) = true := by simp [h3]
  clear hd h1 h2 h3
  go_enter Tryf.func25, Tryf.ntmps25
  go_wp2_with fail
  refine (zzdigit_any _ _).mono ?_
  rintro e w1 ⟨rfl, rfl⟩
  rw [Hd.out]
  go_wp2
  go_ret
  exact ⟨skip_no, rfl⟩

set_option maxHeartbeats 2000000 in
/-- an integer with a sign -/
theorem skip_int_neg (b o n c pos : Nat) (f : Nat → Int) (w : World) (hn : n ≤ 2097152) (hr : Rd w b o n f) (hp : pos < n) (hi : f pos = 105) (hp1 : pos + 1 < n) (hm : f (pos + 1) = 45) :
    Calls Tryf.prog 25 #[.slice (some ⟨b, o, none⟩) n c, .int .i64 pos] w fun e w' => Skip f n pos e ∧ w' = w := by
  obtain ⟨hc0, hb0, hb1⟩ := hr pos hp
  rw [hi] at hc0
  have H105 : Hid (f pos = 105) := hi
  have hA : decide ((pos : Int) < 0) = false := decide_eq_false (by omega)
  have hB : decide (n ≤ pos) = false := decide_eq_false (by omega)
  clear hi hb0 hb1
  obtain ⟨hc1, hb0, hb1⟩ := hr (pos + 1) hp1
  have hp1' : (pos : Int) + 1 < (n : Int) := by omega
  have hm' : (f (pos + 1) == 45) = true := by simp [hm]
  have Hm : Hid (f (pos + 1) = 45) := hm
  clear hm
  go_enter Tryf.func25, Tryf.ntmps25
  go_wp2_with fail
  refine (zzdigit_any _ _).mono ?_
  rintro e w1 ⟨rfl, rfl⟩
  rw [show digB 105 = false from rfl]
  go_wp2_with fail
  clear hc0 hc1 hm' hb0 hb1 hA hB
  go_loop [8] (fun p => ∃ P : Nat, (pos + 2) ≤ P ∧ P ≤ n ∧ p = .int .i64 (P : Int) ∧ Hid (∀ j, (pos + 2) ≤ j → j < P → Dig (f j))) (fun p => n - (intOf p).toNat)
  case atStart => exact ⟨(pos + 2), by omega, by omega, by go_num, fun j h1 h2 => absurd h2 (by omega)⟩
  case round =>
    obtain ⟨P, hP1, hP2, rfl, HD⟩ := hrel
    have HV : Hid ((pos + 2) < P → P < n → f P = 101 → Val (n - pos + 1) f pos (P + 1)) := by
      intro h1 h2 h3
      refine .inr (.inl ⟨H105.out, by omega, by simpa using h3, fun j hj1 hj2 => ?_⟩)
      by_cases hj : (pos + 2) ≤ j
      · have := HD.out j hj (by omega); unfold Dig at this; omega
      · obtain rfl : j = pos + 1 := by omega
        rw [Hm.out]; decide
    by_cases hlt : P < n
    · obtain ⟨hc, hy0, hy1⟩ := hr P hlt
      have hlt' : (P : Int) < (n : Int) := by omega
      cases hdig : digB (f P) with
      | true =>
        have HSD : Hid (∀ j, (pos + 2) ≤ j → j < P + 1 → Dig (f j)) := by
          intro j h1 h2
          by_cases hjk : j = P
          · subst hjk; exact digB_true.1 hdig
          · exact HD.out j h1 (by omega)
        have Hg : Hid (digB (f P) = true) := hdig
        clear hdig
        go_wp2_with fail
        refine (zzdigit_any _ _).mono ?_
        rintro e w1 ⟨rfl, rfl⟩
        rw [Hg.out]
        go_wp2
        go_round
        case rel => exact ⟨P + 1, by omega, by omega, by go_num, HSD⟩
        case measure => simp [intOf]; omega
      | false =>
        have Hg : Hid (digB (f P) = false) := hdig
        clear hdig
        have hD3 : decide (n ≤ P) = false := decide_eq_false (by omega)
        by_cases heq : (pos + 2) = P
        · have hD4 : ((P : Int) == ((pos + 2) : Nat)) = true := by rw [heq]; simp
          subst heq
          go_wp2_with fail
          refine (zzdigit_any _ _).mono ?_
          rintro e w1 ⟨rfl, rfl⟩
          rw [Hg.out]
          go_wp2
          go_ret
          exact ⟨skip_no, rfl⟩
        · have hD4 : ((P : Int) == (((pos + 2) : Nat) : Int)) = false := by rw [beq_eq_false_iff_ne]; omega
          have hD5 : ((P : Int) == ((pos : Int) + 1 + 1)) = false := by rw [beq_eq_false_iff_ne]; omega
          by_cases he : f P = 101
          · have HV' : Hid (Val (n - pos + 1) f pos (P + 1)) := HV.out (by omega) hlt he
            have he' : (f P != 101) = false := by simp [he]
            have He : Hid (f P = 101) := he
            clear he
            go_wp2_with fail
            refine (zzdigit_any _ _).mono ?_
            rintro e w1 ⟨rfl, rfl⟩
            rw [Hg.out]
            go_wp2
            go_ret
            exact ⟨skip_yes (P + 1) (by go_num) (by omega) HV'.out, rfl⟩
          · have he' : (f P != 101) = true := by simp [he]
            clear he
            go_wp2_with fail
            refine (zzdigit_any _ _).mono ?_
            rintro e w1 ⟨rfl, rfl⟩
            rw [Hg.out]
            go_wp2
            go_ret
            exact ⟨skip_no, rfl⟩
    · obtain rfl : P = n := by omega
      have hD3 : decide (P ≤ P) = true := decide_eq_true (Nat.le_refl _)
      have hD6 : decide ((P : Int) < (P : Int)) = false := decide_eq_false (by omega)
      by_cases heq : (pos + 2) = P
      · have hD4 : ((P : Int) == ((pos : Int) + 1 + 1)) = true := by rw [beq_iff_eq]; omega
        go_wp2
        go_ret
        exact ⟨skip_no, rfl⟩
      · have hD4 : ((P : Int) == ((pos : Int) + 1 + 1)) = false := by rw [beq_eq_false_iff_ne]; omega
        go_wp2
        go_ret
        exact ⟨skip_no, rfl⟩

set_option maxHeartbeats 2000000 in
/-- an integer without a sign -/
theorem skip_int_pos (b o n c pos : Nat) (f : Nat → Int) (w : World) (hn : n ≤ 2097152) (hr : Rd w b o n f) (hp : pos < n) (hi : f pos = 105) (hp1 : pos + 1 < n) (hm : f (pos + 1) ≠ 45) :
    Calls Tryf.prog 25 #[.slice (some ⟨b, o, none⟩) n c, .int .i64 pos] w fun e w' => Skip f n pos e ∧ w' = w := by
  obtain ⟨hc0, hb0, hb1⟩ := hr pos hp
  rw [hi] at hc0
  have H105 : Hid (f pos = 105) := hi
  have hA : decide ((pos : Int) < 0) = false := decide_eq_false (by omega)
  have hB : decide (n ≤ pos) = false := decide_eq_false (by omega)
  clear hi hb0 hb1
  obtain ⟨hc1, hb0, hb1⟩ := hr (pos + 1) hp1
  have hp1' : (pos : Int) + 1 < (n : Int) := by omega
  have hm' : (f (pos + 1) == 45) = false := by simp [hm]
  clear hm
  go_enter Tryf.func25, Tryf.ntmps25
  go_wp2_with fail
  refine (zzdigit_any _ _).mono ?_
  rintro e w1 ⟨rfl, rfl⟩
  rw [show digB 105 = false from rfl]
  go_wp2_with fail
  clear hc0 hc1 hm' hb0 hb1 hA hB
  go_loop [8] (fun p => ∃ P : Nat, (pos + 1) ≤ P ∧ P ≤ n ∧ p = .int .i64 (P : Int) ∧ Hid (∀ j, (pos + 1) ≤ j → j < P → Dig (f j))) (fun p => n - (intOf p).toNat)
  case atStart => exact ⟨(pos + 1), by omega, by omega, by go_num, fun j h1 h2 => absurd h2 (by omega)⟩
  case round =>
    obtain ⟨P, hP1, hP2, rfl, HD⟩ := hrel
    have HV : Hid ((pos + 1) < P → P < n → f P = 101 → Val (n - pos + 1) f pos (P + 1)) := by
      intro h1 h2 h3
      refine .inr (.inl ⟨H105.out, by omega, by simpa using h3, fun j hj1 hj2 => ?_⟩)
      by_cases hj : (pos + 1) ≤ j
      · have := HD.out j hj (by omega); unfold Dig at this; omega
      · omega
    by_cases hlt : P < n
    · obtain ⟨hc, hy0, hy1⟩ := hr P hlt
      have hlt' : (P : Int) < (n : Int) := by omega
      cases hdig : digB (f P) with
      | true =>
        have HSD : Hid (∀ j, (pos + 1) ≤ j → j < P + 1 → Dig (f j)) := by
          intro j h1 h2
          by_cases hjk : j = P
          · subst hjk; exact digB_true.1 hdig
          · exact HD.out j h1 (by omega)
        have Hg : Hid (digB (f P) = true) := hdig
        clear hdig
        go_wp2_with fail
        refine (zzdigit_any _ _).mono ?_
        rintro e w1 ⟨rfl, rfl⟩
        rw [Hg.out]
        go_wp2
        go_round
        case rel => exact ⟨P + 1, by omega, by omega, by go_num, HSD⟩
        case measure => simp [intOf]; omega
      | false =>
        have Hg : Hid (digB (f P) = false) := hdig
        clear hdig
        have hD3 : decide (n ≤ P) = false := decide_eq_false (by omega)
        by_cases heq : (pos + 1) = P
        · have hD4 : ((P : Int) == ((pos + 1) : Nat)) = true := by rw [heq]; simp
          subst heq
          go_wp2_with fail
          refine (zzdigit_any _ _).mono ?_
          rintro e w1 ⟨rfl, rfl⟩
          rw [Hg.out]
          go_wp2
          go_ret
          exact ⟨skip_no, rfl⟩
        · have hD4 : ((P : Int) == (((pos + 1) : Nat) : Int)) = false := by rw [beq_eq_false_iff_ne]; omega
          have hD5 : ((P : Int) == ((pos : Int) + 1)) = false := by rw [beq_eq_false_iff_ne]; omega
          by_cases he : f P = 101
          · have HV' : Hid (Val (n - pos + 1) f pos (P + 1)) := HV.out (by omega) hlt he
            have he' : (f P != 101) = false := by simp [he]
            have He : Hid (f P = 101) := he
            clear he
            go_wp2_with fail
            refine (zzdigit_any _ _).mono ?_
            rintro e w1 ⟨rfl, rfl⟩
            rw [Hg.out]
            go_wp2
            go_ret
            exact ⟨skip_yes (P + 1) (by go_num) (by omega) HV'.out, rfl⟩
          · have he' : (f P != 101) = true := by simp [he]
            clear he
            go_wp2_with fail
            refine (zzdigit_any _ _).mono ?_
            rintro e w1 ⟨rfl, rfl⟩
            rw [Hg.out]
            go_wp2
            go_ret
            exact ⟨skip_no, rfl⟩
    · obtain rfl : P = n := by omega
      have hD3 : decide (P ≤ P) = true := decide_eq_true (Nat.le_refl _)
      have hD6 : decide ((P : Int) < (P : Int)) = false := decide_eq_false (by omega)
      by_cases heq : (pos + 1) = P
      · have hD4 : ((P : Int) == ((pos : Int) + 1)) = true := by rw [beq_iff_eq]; omega
        go_wp2
        go_ret
        exact ⟨skip_no, rfl⟩
      · have hD4 : ((P : Int) == ((pos : Int) + 1)) = false := by rw [beq_eq_false_iff_ne]; omega
        go_wp2
        go_ret
        exact ⟨skip_no, rfl⟩

set_option maxHeartbeats 1000000 in
/-- nothing behind the 'i' -/
theorem skip_int_end (b o n c pos : Nat) (f : Nat → Int) (w : World) (hn : n ≤ 2097152) (hr : Rd w b o n f) (hp : pos < n) (hi : f pos = 105) (hp1 : ¬ pos + 1 < n) :
    Calls Tryf.prog 25 #[.slice (some ⟨b, o, none⟩) n c, .int .i64 pos] w fun e w' => Skip f n pos e ∧ w' = w := by
  obtain ⟨hc0, hb0, hb1⟩ := hr pos hp
  rw [hi] at hc0
  obtain rfl : n = pos + 1 := by omega
  have hA : decide ((pos : Int) < 0) = false := decide_eq_false (by omega)
  have hB : decide (pos + 1 ≤ pos) = false := decide_eq_false (by omega)
  have hC : decide ((pos : Int) + 1 < (pos : Int) + 1) = false := decide_eq_false (by omega)
  have hE : ((pos : Int) + 1 == (pos : Int) + 1) = true := by simp
  clear hi hb0 hb1 hp1
  go_enter Tryf.func25, Tryf.ntmps25
  go_wp2_with fail
  refine (zzdigit_any _ _).mono ?_
  rintro e w1 ⟨rfl, rfl⟩
  rw [show digB 105 = false from rfl]
  go_wp2_with fail
  refine wp_loop_rounds 1 ?_
  rw [rounds_succ]
  go_wp2
  go_ret
  exact ⟨skip_no, rfl⟩

end Go.Proofs.Qxb6614548aFmt.Ben
