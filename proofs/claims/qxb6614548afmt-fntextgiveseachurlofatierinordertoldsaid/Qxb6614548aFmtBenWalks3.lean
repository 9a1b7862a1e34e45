/-
  The walk of zzSkip over a list or a dictionary; zzSkip whole, by induction on what is left; zzValid.
-/
import Derived.Test.Qxb6614548aFmtBenWalks2
set_option linter.unusedVariables false
namespace Go.Proofs.Qxb6614548aFmt.Ben
open Go.RowKit

set_option maxHeartbeats 2000000 in
/-- a list -/
theorem skip_list (b o n c pos : Nat) (f : Nat → Int) (w : World) (hn : n ≤ 2097152) (hr : Rd w b o n f) (hp : pos < n) (hi : f pos = 108)
    (IH : Hid (∀ P, pos < P → P < n → ∀ w, Rd w b o n f → Calls Tryf.prog 25 #[.slice (some ⟨b, o, none⟩) n c, .int .i64 P] w fun e w' => Skip f n P e ∧ w' = w)) :
    Calls Tryf.prog 25 #[.slice (some ⟨b, o, none⟩) n c, .int .i64 pos] w fun e w' => Skip f n pos e ∧ w' = w := by
  obtain ⟨hc0, hb0, hb1⟩ := hr pos hp
  rw [hi] at hc0
  have H108 : Hid (f pos = 108) := hi
  have hA : decide ((pos : Int) < 0) = false := decide_eq_false (by omega)
  have hB : decide (n ≤ pos) = false := decide_eq_false (by omega)
  clear hi hb0 hb1
  go_enter Tryf.func25, Tryf.ntmps25
  go_wp2_with fail
  refine (zzdigit_any _ _).mono ?_
  rintro e w1 ⟨rfl, rfl⟩
  rw [show digB 108 = false from rfl]
  go_wp2_with fail
  clear hc0 hA hB
  go_loop [10] (fun p => ∃ (P : Nat) (L : List (Nat × Nat)), pos + 1 ≤ P ∧ P ≤ n ∧ p = .int .i64 (P : Int) ∧ Hid (Chain (Val (n - pos) f) L (pos + 1) P)) (fun p => n - (intOf p).toNat)
  case atStart => exact ⟨pos + 1, [], by omega, by omega, by go_num, rfl⟩
  case round =>
    obtain ⟨P, L, hP1, hP2, rfl, HC⟩ := hrel
    by_cases hlt : P < n
    · obtain ⟨hc, hy0, hy1⟩ := hr P hlt
      have hlt' : (P : Int) < (n : Int) := by omega
      by_cases he : f P = 101
      · have he' : (f P == 101) = true := by simp [he]
        have HV : Hid (Val (n - pos + 1) f pos (P + 1)) := (.inr (.inr ⟨.inl H108.out, L, P, HC.out, he, rfl⟩) : Val (n - pos + 1) f pos (P + 1))
        clear he
        go_wp2
        go_ret
        exact ⟨skip_yes (P + 1) (by go_num) (by omega) HV.out, rfl⟩
      · have he' : (f P == 101) = false := by simp [he]
        clear he
        go_wp2_with fail
        refine (IH.out P (by omega) hlt _ hr).mono ?_
        rintro e w1 ⟨⟨r, rfl, hs⟩, rfl⟩
        rcases hs with rfl | ⟨q, rfl, hq, hv⟩
        · go_wp2
          go_ret
          exact ⟨skip_no, rfl⟩
        · have hlt2 := val_lt hv
          have HC2 : Hid (Chain (Val (n - pos) f) (L ++ [(P, q)]) (pos + 1) q) := chain_snoc HC.out (val_mono hv (by omega))
          clear hv
          go_wp2
          go_round
          case rel => exact ⟨q, L ++ [(P, q)], by omega, hq, rfl, HC2⟩
          case measure => simp [intOf]; omega
    · have hD : decide ((P : Int) < (n : Int)) = false := decide_eq_false (by omega)
      go_wp2
      go_ret
      exact ⟨skip_no, rfl⟩

set_option maxHeartbeats 4000000 in
/-- a dictionary -/
theorem skip_dict (b o n c pos : Nat) (f : Nat → Int) (w : World) (hn : n ≤ 2097152) (hr : Rd w b o n f) (hp : pos < n) (hi : f pos = 100)
    (IH : Hid (∀ P, pos < P → P < n → ∀ w, Rd w b o n f → Calls Tryf.prog 25 #[.slice (some ⟨b, o, none⟩) n c, .int .i64 P] w fun e w' => Skip f n P e ∧ w' = w)) :
    Calls Tryf.prog 25 #[.slice (some ⟨b, o, none⟩) n c, .int .i64 pos] w fun e w' => Skip f n pos e ∧ w' = w := by
  obtain ⟨hc0, hb0, hb1⟩ := hr pos hp
  rw [hi] at hc0
  have H100 : Hid (f pos = 100) := hi
  have hA : decide ((pos : Int) < 0) = false := decide_eq_false (by omega)
  have hB : decide (n ≤ pos) = false := decide_eq_false (by omega)
  clear hi hb0 hb1
  go_enter Tryf.func25, Tryf.ntmps25
  go_wp2_with fail
  refine (zzdigit_any _ _).mono ?_
  rintro e w1 ⟨rfl, rfl⟩
  rw [show digB 100 = false from rfl]
  go_wp2_with fail
  clear hc0 hA hB
  go_loop [10, 11] (fun p k => ∃ (P : Nat) (L : List (Nat × Nat)) (kb : Bool), pos + 1 ≤ P ∧ P ≤ n ∧ p = .int .i64 (P : Int) ∧ k = .bool kb ∧ Hid (Chain (Val (n - pos) f) L (pos + 1) P)) (fun p _ => n - (intOf p).toNat)
  case atStart => exact ⟨pos + 1, [], true, by omega, by omega, by go_num, rfl, rfl⟩
  case round =>
    obtain ⟨P, L, kb, hP1, hP2, rfl, rfl, HC⟩ := hrel
    by_cases hlt : P < n
    · obtain ⟨hc, hy0, hy1⟩ := hr P hlt
      have hlt' : (P : Int) < (n : Int) := by omega
      by_cases he : f P = 101
      · have he' : (f P == 101) = true := by simp [he]
        have HV : Hid (Val (n - pos + 1) f pos (P + 1)) := (.inr (.inr ⟨.inr H100.out, L, P, HC.out, he, rfl⟩) : Val (n - pos + 1) f pos (P + 1))
        clear he
        cases kb with
        | true =>
          go_wp2
          go_ret
          exact ⟨skip_yes (P + 1) (by go_num) (by omega) HV.out, rfl⟩
        | false =>
          go_wp2
          go_ret
          exact ⟨skip_no, rfl⟩
      · have he' : (f P == 101) = false := by simp [he]
        clear he
        cases kb with
        | true =>
          cases hdig : digB (f P) with
          | true =>
            have Hg : Hid (digB (f P) = true) := hdig
            clear hdig
            go_wp2_with fail
            refine (zzdigit_any _ _).mono ?_
            rintro e w1 ⟨rfl, rfl⟩
            rw [Hg.out]
            go_wp2_with fail
            refine (IH.out P (by omega) hlt _ hr).mono ?_
            rintro e w1 ⟨⟨r, rfl, hs⟩, rfl⟩
            rcases hs with rfl | ⟨q, rfl, hq, hv⟩
            · go_wp2
              go_ret
              exact ⟨skip_no, rfl⟩
            · have hlt2 := val_lt hv
              have HC2 : Hid (Chain (Val (n - pos) f) (L ++ [(P, q)]) (pos + 1) q) := chain_snoc HC.out (val_mono hv (by omega))
              clear hv
              go_wp2
              go_round
              case rel => exact ⟨q, L ++ [(P, q)], false, by omega, hq, rfl, rfl, HC2⟩
              case measure => simp [intOf]; omega
          | false =>
            have Hg : Hid (digB (f P) = false) := hdig
            clear hdig
            go_wp2_with fail
            refine (zzdigit_any _ _).mono ?_
            rintro e w1 ⟨rfl, rfl⟩
            rw [Hg.out]
            go_wp2
            go_ret
            exact ⟨skip_no, rfl⟩
        | false =>
          go_wp2_with fail
          refine (IH.out P (by omega) hlt _ hr).mono ?_
          rintro e w1 ⟨⟨r, rfl, hs⟩, rfl⟩
          rcases hs with rfl | ⟨q, rfl, hq, hv⟩
          · go_wp2
            go_ret
            exact ⟨skip_no, rfl⟩
          · have hlt2 := val_lt hv
            have HC2 : Hid (Chain (Val (n - pos) f) (L ++ [(P, q)]) (pos + 1) q) := chain_snoc HC.out (val_mono hv (by omega))
            clear hv
            go_wp2
            go_round
            case rel => exact ⟨q, L ++ [(P, q)], true, by omega, hq, rfl, rfl, HC2⟩
            case measure => simp [intOf]; omega
    · have hD : decide ((P : Int) < (n : Int)) = false := decide_eq_false (by omega)
      go_wp2
      go_ret
      exact ⟨skip_no, rfl⟩

/-- zzSkip, whole -/
theorem skip_any (b o n c : Nat) (f : Nat → Int) (hn : n ≤ 2097152) : ∀ (m pos : Nat), n - pos ≤ m → pos < n → ∀ w, Rd w b o n f →
    Calls Tryf.prog 25 #[.slice (some ⟨b, o, none⟩) n c, .int .i64 pos] w fun e w' => Skip f n pos e ∧ w' = w
  | 0, pos, hm, hp, _, _ => absurd hm (by omega)
  | m + 1, pos, hm, hp, w, hr => by
    have IH : Hid (∀ P, pos < P → P < n → ∀ w, Rd w b o n f → Calls Tryf.prog 25 #[.slice (some ⟨b, o, none⟩) n c, .int .i64 P] w fun e w' => Skip f n P e ∧ w' = w) :=
      fun P h1 h2 w hr => skip_any b o n c f hn m P (by omega) h2 w hr
    cases hd : digB (f pos) with
    | true => exact skip_str b o n c pos f w hn hr hp hd
    | false =>
      by_cases h1 : f pos = 105
      · by_cases hp1 : pos + 1 < n
        · by_cases hm : f (pos + 1) = 45
          · exact skip_int_neg b o n c pos f w hn hr hp h1 hp1 hm
          · exact skip_int_pos b o n c pos f w hn hr hp h1 hp1 hm
        · exact skip_int_end b o n c pos f w hn hr hp h1 hp1
      · by_cases h2 : f pos = 108
        · exact skip_list b o n c pos f w hn hr hp h2 IH
        · by_cases h3 : f pos = 100
          · exact skip_dict b o n c pos f w hn hr hp h3 IH
          · exact skip_other b o n c pos f w hn hr hp hd h1 h2 h3

/-- zzValid at a slice that is not empty -/
theorem valid_any (b o n c : Nat) (f : Nat → Int) (w : World) (hn : n ≤ 2097152) (h0 : 0 < n) (hr : Rd w b o n f) :
    Calls Tryf.prog 11 #[.slice (some ⟨b, o, none⟩) n c] w fun e w' => (∃ v : Bool, e = .returned (.bool v) ∧ (v = true → Val (n + 1) f 0 n)) ∧ w' = w := by
  have hq : ((n : Int) == 0) = false := by rw [beq_eq_false_iff_ne]; omega
  go_enter Tryf.func11, Tryf.ntmps11
  go_wp2_with fail
  refine (skip_any b o n c f hn n 0 (by omega) h0 _ hr).mono ?_
  rintro e w1 ⟨⟨r, rfl, hs⟩, rfl⟩
  rcases hs with rfl | ⟨q, rfl, hq, hv⟩
  · have hm : ((-1 : Int) == (n : Int)) = false := by rw [beq_eq_false_iff_ne]; omega
    go_wp2
    go_ret
    exact ⟨⟨false, rfl, fun h => by cases h⟩, rfl⟩
  · by_cases hqn : q = n
    · subst hqn
      have HV : Hid (Val (q + 1) f 0 q) := hv
      clear hv
      go_wp2
      go_ret
      exact ⟨⟨true, by simp, fun _ => HV.out⟩, rfl⟩
    · have hm : ((q : Int) == (n : Int)) = false := by rw [beq_eq_false_iff_ne]; omega
      clear hv
      go_wp2
      go_ret
      exact ⟨⟨false, by simp, fun h => by cases h⟩, rfl⟩

end Go.Proofs.Qxb6614548aFmt.Ben
