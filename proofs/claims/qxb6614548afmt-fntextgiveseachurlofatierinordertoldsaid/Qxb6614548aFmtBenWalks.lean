/-
  The walks of zzIsDigit, isDigit, zzStrSpan, zzSkip, zzValid.
-/
import Derived.Test.Qxb6614548aFmtRows
import Derived.Test.Qxb6614548aFmtBenPlain
import Derived.WalkKit
import Derived.WalkSpells
import Derived.Below
import Derived.OwnWalk
set_option linter.unusedVariables false
namespace Go.Proofs.Qxb6614548aFmt.Ben
open Go.RowKit

/-- the n cells from o on in the block b hold the bytes that f gives -/
def Rd (w : World) (b o n : Nat) (f : Nat → Int) : Prop := ∀ i, i < n → w.cell? ⟨b, o + i, none⟩ = some (.int .u8 (f i)) ∧ 0 ≤ f i ∧ f i ≤ 255

theorem zzdigit_any (c : Int) (w : World) : Calls Tryf.prog 17 #[.int .u8 c] w fun e w' => e = .returned (.bool (digB c)) ∧ w' = w := by
  unfold digB
  by_cases h1 : 48 ≤ c
  all_goals
    go_enter Tryf.func17, Tryf.ntmps17
    go_wp2
    go_ret
    exact ⟨by simp_all <;> omega, rfl⟩

theorem digit_any (c : Int) (w : World) : Calls Tryf.prog 47 #[.int .u8 c] w fun e w' => e = .returned (.bool (digB c)) ∧ w' = w := by
  unfold digB
  by_cases h1 : 48 ≤ c
  all_goals
    go_enter Tryf.func47, Tryf.ntmps47
    go_wp2
    go_ret
    exact ⟨by simp_all <;> omega, rfl⟩

/-- what zzStrSpan answers -/
def Span (f : Nat → Int) (n pos : Nat) (r1 r2 : Int) : Prop := (r1 = -1 ∧ r2 = -1) ∨ ∃ s q : Nat, r1 = (s : Int) ∧ r2 = (q : Int) ∧ Str f pos s q ∧ q ≤ n

set_option maxHeartbeats 1000000 in
theorem span_any (b o n c pos : Nat) (f : Nat → Int) (w : World) (hn : n ≤ 2097152) (hr : Rd w b o n f) (hp : pos < n) (hd : digB (f pos) = true) :
    Calls Tryf.prog 18 #[.slice (some ⟨b, o, none⟩) n c, .int .i64 pos] w fun e w' => (∃ r1 r2, e = .returned (.tuple #[.int .i64 r1, .int .i64 r2]) ∧ Span f n pos r1 r2) ∧ w' = w := by
  obtain ⟨hc0, hb0, hb1⟩ := hr pos hp
  have Hd : Hid (digB (f pos) = true) := hd
  have hp' : (pos : Int) < (n : Int) := by omega
  have hA : decide ((pos : Int) < 0) = false := decide_eq_false (by omega)
  have hB : decide (n ≤ pos) = false := decide_eq_false (by omega)
  clear hd
  go_enter Tryf.func18, Tryf.ntmps18
  go_wp2_with fail
  refine (zzdigit_any _ _).mono ?_
  rintro e w1 ⟨rfl, rfl⟩
  rw [Hd.out]
  clear hc0
  go_wp2_with fail
  clear hA hB
  go_loop [6, 7] (fun v p => ∃ k : Nat, pos + k ≤ n ∧ p = .int .i64 ((pos + k : Nat) : Int) ∧ v = .int .i64 ((dv f pos k : Nat) : Int) ∧ dv f pos k ≤ n ∧ Hid (∀ j, j < k → Dig (f (pos + j)))) (fun _ p => n - (intOf p).toNat)
  case atStart => exact ⟨0, by omega, rfl, rfl, Nat.zero_le _, fun j hj => absurd hj (Nat.not_lt_zero _)⟩
  case round =>
    obtain ⟨k, hk, rfl, rfl, hv, HD⟩ := hrel
    have HS : Hid (dv f pos (k + 1) = dv f pos k * 10 + (f (pos + k) - 48).toNat) := (rfl : dv f pos (k + 1) = _)
    have HQ : Hid (f (pos + k) = 58 → 0 < k → Str f pos (pos + k + 1) (pos + k + 1 + dv f pos k)) := fun h58 hk0 => ⟨k, hk0, HD.out, h58, rfl, rfl⟩
    have HK : Hid (digB (f (pos + k)) = false → 0 < k) := by
      intro hf
      by_cases h0 : k = 0
      · subst h0
        rw [Nat.add_zero, Hd.out] at hf
        cases hf
      · omega
    generalize hdv : dv f pos k = v at *
    clear hdv
    by_cases hlt : pos + k < n
    · obtain ⟨hc, hy0, hy1⟩ := hr (pos + k) hlt
      have hlt' : ((pos + k : Nat) : Int) < (n : Int) := by omega
      have HSD : Hid (digB (f (pos + k)) = true → ∀ j, j < k + 1 → Dig (f (pos + j))) := by
        intro hdg j hj
        by_cases hjk : j = k
        · subst hjk; exact digB_true.1 hdg
        · exact HD.out j (by omega)
      cases hdig : digB (f (pos + k)) with
      | true =>
        have hy := digB_true.1 hdig
        unfold Dig at hy
        have Hg : Hid (digB (f (pos + k)) = true) := hdig
        clear hdig
        generalize f (pos + k) = y at *
        by_cases hle : v * 10 + (y - 48).toNat ≤ n
        · have hle' : (v : Int) * 10 + (y - 48) ≤ (n : Int) := by omega
          go_wp2_with fail
          refine (zzdigit_any _ _).mono ?_
          rintro e w1 ⟨rfl, rfl⟩
          rw [Hg.out]
          go_wp2
          go_round
          case rel => exact ⟨k + 1, by omega, by go_num, by rw [HS.out]; go_num, by rw [HS.out]; exact hle, HSD.out Hg.out⟩
          case measure => simp [intOf]; omega
        · have hle' : (n : Int) < (v : Int) * 10 + (y - 48) := by omega
          go_wp2_with fail
          refine (zzdigit_any _ _).mono ?_
          rintro e w1 ⟨rfl, rfl⟩
          rw [Hg.out]
          go_wp2
          go_ret2
          exact ⟨⟨_, _, rfl, .inl ⟨rfl, rfl⟩⟩, rfl⟩
      | false =>
        have hk0 := HK.out hdig
        have Hg : Hid (digB (f (pos + k)) = false) := hdig
        clear hdig
        by_cases h58 : f (pos + k) = 58
        · have HQ' : Hid (Str f pos (pos + k + 1) (pos + k + 1 + v)) := HQ.out h58 hk0
          have h58' : (f (pos + k) != 58) = false := by simp [h58]
          have Hx : Hid (f (pos + k) = 58) := h58
          clear h58
          generalize f (pos + k) = y at *
          by_cases hle : v ≤ n - (pos + k + 1)
          · have hle' : (v : Int) ≤ (n : Int) - ((pos + k : Nat) + 1 : Int) := by omega
            go_wp2_with fail
            refine (zzdigit_any _ _).mono ?_
            rintro e w1 ⟨rfl, rfl⟩
            rw [Hg.out]
            go_wp2
            go_ret2
            exact ⟨⟨_, _, rfl, .inr ⟨pos + k + 1, pos + k + 1 + v, by go_num, by go_num, HQ'.out, by omega⟩⟩, rfl⟩
          · have hle' : (n : Int) - ((pos + k : Nat) + 1 : Int) < (v : Int) := by omega
            go_wp2_with fail
            refine (zzdigit_any _ _).mono ?_
            rintro e w1 ⟨rfl, rfl⟩
            rw [Hg.out]
            go_wp2
            go_ret2
            exact ⟨⟨_, _, rfl, .inl ⟨rfl, rfl⟩⟩, rfl⟩
        · have h58' : (f (pos + k) != 58) = true := by simp [h58]
          clear h58
          generalize f (pos + k) = y at *
          go_wp2_with fail
          refine (zzdigit_any _ _).mono ?_
          rintro e w1 ⟨rfl, rfl⟩
          rw [Hg.out]
          go_wp2
          go_ret2
          exact ⟨⟨_, _, rfl, .inl ⟨rfl, rfl⟩⟩, rfl⟩
    · have hge : (n : Int) ≤ ((pos + k : Nat) : Int) := by omega
      have hd1 : decide (((pos + k : Nat) : Int) < (n : Int)) = false := decide_eq_false (by omega)
      have hd2 : decide ((n : Int) ≤ ((pos + k : Nat) : Int)) = true := decide_eq_true (by omega)
      go_wp2
      go_ret2
      exact ⟨⟨_, _, rfl, .inl ⟨rfl, rfl⟩⟩, rfl⟩

end Go.Proofs.Qxb6614548aFmt.Ben
