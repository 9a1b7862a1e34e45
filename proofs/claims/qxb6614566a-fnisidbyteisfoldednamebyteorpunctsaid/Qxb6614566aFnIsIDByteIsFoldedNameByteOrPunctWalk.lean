/-
  The walk of the law 'FnIsIDByteIsFoldedNameByteOrPunct' itself, out of the contracts of Qxb6614566aIdWalks.lean.
-/
import Derived.Test.Qxb6614566aIdWalks
namespace Go.Proofs.Qxb6614566a.IdByte
open Go.RowKit

/-- an ASCII capital -/
theorem law_cap (c : Int) (h1 : 65 ≤ c) (h2 : c ≤ 90) (w : World) :
    Calls Try.prog 3 #[.int .u8 c] w fun e w' => e = .returned (.bool true) ∧ w' = w := by
  have hl := law (c := c) (by omega) (by omega)
  have hcap : capB c = true := by unfold capB; rw [decide_eq_true h1, decide_eq_true h2]; rfl
  have hf : fold c = c + 32 := by unfold fold; rw [if_pos hcap]
  have hi : idB c = true := by unfold idB; rw [hcap]; simp
  have Hi : Hid (idB c = true) := hi
  have Hf : Hid (idB (c + 32) = true) := (by rw [← hf, hl.2, hi] : idB (c + 32) = true)
  have Hn : Hid (nameB (c + 32) = true) := (by unfold nameB lowB; rw [decide_eq_true (show 97 ≤ c + 32 by omega), decide_eq_true (show c + 32 ≤ 122 by omega)]; rfl : nameB (c + 32) = true)
  clear hl hcap hf hi
  go_enter Try.func3, Try.ntmps3
  go_wp2_with fail
  refine (zzname_any (c + 32) w).mono ?_
  rintro e w1 ⟨rfl, rfl⟩
  rw [Hn.out]
  go_wp2_with fail
  refine (zzid_any c _).mono ?_
  rintro e w2 ⟨rfl, rfl⟩
  rw [Hi.out]
  go_wp2_with fail
  refine (zzid_any (c + 32) _).mono ?_
  rintro e w3 ⟨rfl, rfl⟩
  rw [Hf.out]
  go_wp2
  go_ret
  exact ⟨rfl, rfl⟩

/-- any other byte, which may stand in a name -/
theorem law_name (c : Int) (h0 : 0 ≤ c) (hb : c ≤ 255) (h : c < 65 ∨ 90 < c) (hn : nameB c = true) (w : World) :
    Calls Try.prog 3 #[.int .u8 c] w fun e w' => e = .returned (.bool true) ∧ w' = w := by
  have hl := law h0 hb
  have hcap : ¬ capB c = true := by
    unfold capB
    rcases h with h | h
    · rw [decide_eq_false (show ¬ 65 ≤ c by omega)]; simp
    · rw [decide_eq_false (show ¬ c ≤ 90 by omega)]; simp
  have hf : fold c = c := by unfold fold; rw [if_neg hcap]
  have Hi : Hid (idB c = true) := (by rw [hl.1]; unfold wantB; rw [hf, hn]; rfl : idB c = true)
  have Hn : Hid (nameB c = true) := hn
  clear hl hcap hf hn
  rcases h with h | h
  · have hq : decide (65 ≤ c) = false := decide_eq_false (by omega)
    go_enter Try.func3, Try.ntmps3
    go_wp2_with fail
    refine (zzname_any c w).mono ?_
    rintro e w1 ⟨rfl, rfl⟩
    rw [Hn.out]
    go_wp2_with fail
    refine (zzid_any c _).mono ?_
    rintro e w2 ⟨rfl, rfl⟩
    rw [Hi.out]
    go_wp2_with fail
    refine (zzid_any c _).mono ?_
    rintro e w3 ⟨rfl, rfl⟩
    rw [Hi.out]
    go_wp2
    go_ret
    exact ⟨rfl, rfl⟩
  · have hp : 65 ≤ c := by omega
    have hq : decide (c ≤ 90) = false := decide_eq_false (by omega)
    go_enter Try.func3, Try.ntmps3
    go_wp2_with fail
    refine (zzname_any c w).mono ?_
    rintro e w1 ⟨rfl, rfl⟩
    rw [Hn.out]
    go_wp2_with fail
    refine (zzid_any c _).mono ?_
    rintro e w2 ⟨rfl, rfl⟩
    rw [Hi.out]
    go_wp2_with fail
    refine (zzid_any c _).mono ?_
    rintro e w3 ⟨rfl, rfl⟩
    rw [Hi.out]
    go_wp2
    go_ret
    exact ⟨rfl, rfl⟩

/-- any other byte, which may not stand in a name: what the three tests for ':', '.', '_' say is what isIDByte says -/
theorem law_other (c : Int) (h0 : 0 ≤ c) (hb : c ≤ 255) (h : c < 65 ∨ 90 < c) (hn : nameB c = false) (w : World) :
    Calls Try.prog 3 #[.int .u8 c] w fun e w' => e = .returned (.bool true) ∧ w' = w := by
  have hl := law h0 hb
  have hcap : ¬ capB c = true := by
    unfold capB
    rcases h with h | h
    · rw [decide_eq_false (show ¬ 65 ≤ c by omega)]; simp
    · rw [decide_eq_false (show ¬ c ≤ 90 by omega)]; simp
  have hf : fold c = c := by unfold fold; rw [if_neg hcap]
  have hw : idB c = (c == 58 || c == 46 || c == 95) := by rw [hl.1]; unfold wantB; rw [hf, hn]; rfl
  clear hl hcap hf
  have Hn : Hid (nameB c = false) := hn
  clear hn
  by_cases e1 : c = 58
  · subst e1
    have Hi : Hid (idB 58 = true) := hw
    clear hw
    go_enter Try.func3, Try.ntmps3
    go_wp2_with fail
    refine (zzname_any 58 w).mono ?_
    rintro e w1 ⟨rfl, rfl⟩
    rw [Hn.out]
    go_wp2_with fail
    refine (zzid_any 58 _).mono ?_
    rintro e w2 ⟨rfl, rfl⟩
    rw [Hi.out]
    go_wp2_with fail
    refine (zzid_any 58 _).mono ?_
    rintro e w3 ⟨rfl, rfl⟩
    rw [Hi.out]
    go_wp2
    go_ret
    exact ⟨rfl, rfl⟩
  by_cases e2 : c = 46
  · subst e2
    have Hi : Hid (idB 46 = true) := hw
    clear hw e1
    go_enter Try.func3, Try.ntmps3
    go_wp2_with fail
    refine (zzname_any 46 w).mono ?_
    rintro e w1 ⟨rfl, rfl⟩
    rw [Hn.out]
    go_wp2_with fail
    refine (zzid_any 46 _).mono ?_
    rintro e w2 ⟨rfl, rfl⟩
    rw [Hi.out]
    go_wp2_with fail
    refine (zzid_any 46 _).mono ?_
    rintro e w3 ⟨rfl, rfl⟩
    rw [Hi.out]
    go_wp2
    go_ret
    exact ⟨rfl, rfl⟩
  by_cases e3 : c = 95
  · subst e3
    have Hi : Hid (idB 95 = true) := hw
    clear hw e1 e2
    go_enter Try.func3, Try.ntmps3
    go_wp2_with fail
    refine (zzname_any 95 w).mono ?_
    rintro e w1 ⟨rfl, rfl⟩
    rw [Hn.out]
    go_wp2_with fail
    refine (zzid_any 95 _).mono ?_
    rintro e w2 ⟨rfl, rfl⟩
    rw [Hi.out]
    go_wp2_with fail
    refine (zzid_any 95 _).mono ?_
    rintro e w3 ⟨rfl, rfl⟩
    rw [Hi.out]
    go_wp2
    go_ret
    exact ⟨rfl, rfl⟩
  have f1 : (c == 58) = false := by simp [e1]
  have f2 : (c == 46) = false := by simp [e2]
  have f3 : (c == 95) = false := by simp [e3]
  have Hi : Hid (idB c = false) := (by rw [hw, f1, f2, f3]; rfl : idB c = false)
  clear hw e1 e2 e3
  rcases h with h | h
  · have hq : decide (65 ≤ c) = false := decide_eq_false (by omega)
    go_enter Try.func3, Try.ntmps3
    go_wp2_with fail
    refine (zzname_any c w).mono ?_
    rintro e w1 ⟨rfl, rfl⟩
    rw [Hn.out]
    go_wp2_with fail
    refine (zzid_any c _).mono ?_
    rintro e w2 ⟨rfl, rfl⟩
    rw [Hi.out]
    go_wp2_with fail
    refine (zzid_any c _).mono ?_
    rintro e w3 ⟨rfl, rfl⟩
    rw [Hi.out]
    go_wp2
    go_ret
    exact ⟨rfl, rfl⟩
  · have hp : 65 ≤ c := by omega
    have hq : decide (c ≤ 90) = false := decide_eq_false (by omega)
    go_enter Try.func3, Try.ntmps3
    go_wp2_with fail
    refine (zzname_any c w).mono ?_
    rintro e w1 ⟨rfl, rfl⟩
    rw [Hn.out]
    go_wp2_with fail
    refine (zzid_any c _).mono ?_
    rintro e w2 ⟨rfl, rfl⟩
    rw [Hi.out]
    go_wp2_with fail
    refine (zzid_any c _).mono ?_
    rintro e w3 ⟨rfl, rfl⟩
    rw [Hi.out]
    go_wp2
    go_ret
    exact ⟨rfl, rfl⟩

theorem law_any (c : Int) (h0 : 0 ≤ c) (hb : c ≤ 255) (w : World) :
    Calls Try.prog 3 #[.int .u8 c] w fun e w' => e = .returned (.bool true) ∧ w' = w := by
  by_cases h : 65 ≤ c ∧ c ≤ 90
  · exact law_cap c h.1 h.2 w
  · cases hn : nameB c with
    | true => exact law_name c h0 hb (by omega) hn w
    | false => exact law_other c h0 hb (by omega) hn w

end Go.Proofs.Qxb6614566a.IdByte
