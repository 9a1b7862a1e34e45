/-
  The walks of the seven project functions on the road of 'FnIsIDByteIsFoldedNameByteOrPunct', and of strings.IndexByte beneath them.
-/
import Derived.Test.Qxb6614566aRows
import Derived.Test.Qxb6614566aIdPlain
import Derived.WalkKit
import Derived.Below
import Derived.Lib.Bytealg
namespace Go.Proofs.Qxb6614566a.IdByte
open Go.RowKit

theorem lite_any (s : ByteArray) (c : Int) (w : World) :
    Calls Try.prog 11 #[.string s, .int .u8 c] w fun e w' => e = .returned (.int .i64 (Lib.indexByte s.data.toList c.toNat.toUInt8)) ∧ w' = w := by
  go_enter Try.func11, Try.ntmps11
  go_wp2
  rw [run_callFunc_extern Try.func12 (by kernel_rfl) (by kernel_rfl) (by kernel_rfl) (e := Extern.BytealgIndexByte.indexByte) (by kernel_rfl), Lib.run_indexByteString]
  simp only [Result.andThen]
  rw [Oper.upon_value]
  go_wp2
  go_ret
  exact ⟨rfl, rfl⟩

theorem index_any (s : ByteArray) (c : Int) (w : World) :
    Calls Try.prog 10 #[.string s, .int .u8 c] w fun e w' => e = .returned (.int .i64 (Lib.indexByte s.data.toList c.toNat.toUInt8)) ∧ w' = w := by
  go_enter Try.func10, Try.ntmps10
  go_wp2_with fail
  refine (lite_any s c w).mono ?_
  rintro e w1 ⟨rfl, rfl⟩
  go_wp2
  go_ret
  exact ⟨rfl, rfl⟩

theorem lower_any (c : Int) (w : World) : Calls Try.prog 8 #[.int .u8 c] w fun e w' => e = .returned (.bool (lowB c)) ∧ w' = w := by
  unfold lowB
  by_cases h1 : 97 ≤ c
  all_goals
    go_enter Try.func8, Try.ntmps8
    go_wp2
    go_ret
    exact ⟨by simp_all <;> omega, rfl⟩

theorem digit_any (c : Int) (w : World) : Calls Try.prog 9 #[.int .u8 c] w fun e w' => e = .returned (.bool (digB c)) ∧ w' = w := by
  unfold digB
  by_cases h1 : 48 ≤ c
  all_goals
    go_enter Try.func9, Try.ntmps9
    go_wp2
    go_ret
    exact ⟨by simp_all <;> omega, rfl⟩

theorem name_any (c : Int) (w : World) : Calls Try.prog 6 #[.int .u8 c] w fun e w' => e = .returned (.bool (nameB c)) ∧ w' = w := by
  cases hl : lowB c with
  | true =>
    have Hl : Hid (lowB c = true) := hl
    have Hn : Hid (nameB c = true) := (by unfold nameB; rw [hl]; rfl : nameB c = true)
    clear hl
    rw [Hn.out]
    go_enter Try.func6, Try.ntmps6
    go_wp2_with fail
    refine (lower_any c w).mono ?_
    rintro e w1 ⟨rfl, rfl⟩
    rw [Hl.out]
    go_wp2
    go_ret
    exact ⟨rfl, rfl⟩
  | false =>
    cases hd : digB c with
    | true =>
      have Hl : Hid (lowB c = false) := hl
      have Hd : Hid (digB c = true) := hd
      have Hn : Hid (nameB c = true) := (by unfold nameB; rw [hl, hd]; rfl : nameB c = true)
      clear hl hd
      rw [Hn.out]
      go_enter Try.func6, Try.ntmps6
      go_wp2_with fail
      refine (lower_any c w).mono ?_
      rintro e w1 ⟨rfl, rfl⟩
      rw [Hl.out]
      go_wp2_with fail
      refine (digit_any c _).mono ?_
      rintro e w2 ⟨rfl, rfl⟩
      rw [Hd.out]
      go_wp2
      go_ret
      exact ⟨rfl, rfl⟩
    | false =>
      have Hl : Hid (lowB c = false) := hl
      have Hd : Hid (digB c = false) := hd
      have Hn : Hid (nameB c = (c == 45)) := (by unfold nameB; rw [hl, hd]; rfl : nameB c = (c == 45))
      clear hl hd
      rw [Hn.out]
      go_enter Try.func6, Try.ntmps6
      go_wp2_with fail
      refine (lower_any c w).mono ?_
      rintro e w1 ⟨rfl, rfl⟩
      rw [Hl.out]
      go_wp2_with fail
      refine (digit_any c _).mono ?_
      rintro e w2 ⟨rfl, rfl⟩
      rw [Hd.out]
      go_wp2
      go_ret
      exact ⟨rfl, rfl⟩

theorem zzname_any (c : Int) (w : World) : Calls Try.prog 4 #[.int .u8 c] w fun e w' => e = .returned (.bool (nameB c)) ∧ w' = w := by
  go_enter Try.func4, Try.ntmps4
  go_wp2_with fail
  refine (name_any c w).mono ?_
  rintro e w1 ⟨rfl, rfl⟩
  go_wp2
  go_ret
  exact ⟨rfl, rfl⟩

theorem id_low (c : Int) (w : World) (hl : lowB c = true) : Calls Try.prog 7 #[.int .u8 c] w fun e w' => e = .returned (.bool (idB c)) ∧ w' = w := by
  have Hl : Hid (lowB c = true) := hl
  have Hn : Hid (idB c = true) := (by unfold idB; rw [hl]; rfl : idB c = true)
  clear hl
  rw [Hn.out]
  go_enter Try.func7, Try.ntmps7
  go_wp2_with fail
  refine (lower_any c w).mono ?_
  rintro e w1 ⟨rfl, rfl⟩
  rw [Hl.out]
  go_wp2
  go_ret
  exact ⟨rfl, rfl⟩

theorem id_cap (c : Int) (w : World) (hl : lowB c = false) (h1 : 65 ≤ c) (h2 : c ≤ 90) : Calls Try.prog 7 #[.int .u8 c] w fun e w' => e = .returned (.bool (idB c)) ∧ w' = w := by
  have Hl : Hid (lowB c = false) := hl
  have Hn : Hid (idB c = true) := (by unfold idB capB; rw [hl, decide_eq_true h1, decide_eq_true h2]; rfl : idB c = true)
  clear hl
  rw [Hn.out]
  go_enter Try.func7, Try.ntmps7
  go_wp2_with fail
  refine (lower_any c w).mono ?_
  rintro e w1 ⟨rfl, rfl⟩
  rw [Hl.out]
  go_wp2
  go_ret
  exact ⟨by simp_all, rfl⟩

theorem id_dig (c : Int) (w : World) (hl : lowB c = false) (h1 : c < 65 ∨ 90 < c) (hd : digB c = true) : Calls Try.prog 7 #[.int .u8 c] w fun e w' => e = .returned (.bool (idB c)) ∧ w' = w := by
  have Hl : Hid (lowB c = false) := hl
  have Hd : Hid (digB c = true) := hd
  have Hn : Hid (idB c = true) := (by unfold idB; rw [hl, hd]; simp : idB c = true)
  clear hl hd
  rw [Hn.out]
  rcases h1 with h1 | h1
  · have hq : decide (65 ≤ c) = false := decide_eq_false (by omega)
    go_enter Try.func7, Try.ntmps7
    go_wp2_with fail
    refine (lower_any c w).mono ?_
    rintro e w1 ⟨rfl, rfl⟩
    rw [Hl.out]
    go_wp2_with fail
    refine (digit_any c _).mono ?_
    rintro e w2 ⟨rfl, rfl⟩
    rw [Hd.out]
    go_wp2
    go_ret
    exact ⟨rfl, rfl⟩
  · have hp : 65 ≤ c := by omega
    have hq : decide (c ≤ 90) = false := decide_eq_false (by omega)
    go_enter Try.func7, Try.ntmps7
    go_wp2_with fail
    refine (lower_any c w).mono ?_
    rintro e w1 ⟨rfl, rfl⟩
    rw [Hl.out]
    go_wp2_with fail
    refine (digit_any c _).mono ?_
    rintro e w2 ⟨rfl, rfl⟩
    rw [Hd.out]
    go_wp2
    go_ret
    exact ⟨rfl, rfl⟩

theorem id_pun (c : Int) (w : World) (hl : lowB c = false) (h1 : c < 65 ∨ 90 < c) (hd : digB c = false) : Calls Try.prog 7 #[.int .u8 c] w fun e w' => e = .returned (.bool (idB c)) ∧ w' = w := by
  have Hl : Hid (lowB c = false) := hl
  have Hd : Hid (digB c = false) := hd
  have hc : capB c = false := by
    unfold capB
    rcases h1 with h1 | h1
    · rw [decide_eq_false (show ¬ 65 ≤ c by omega)]; rfl
    · rw [decide_eq_false (show ¬ c ≤ 90 by omega)]; simp
  have Hn : Hid (idB c = decide (0 ≤ punI c)) := (by unfold idB; rw [hl, hd, hc]; simp : idB c = decide (0 ≤ punI c))
  have Hi : Hid (Lib.indexByte (⟨#[58, 46, 95, 45]⟩ : ByteArray).data.toList c.toNat.toUInt8 = punI c) := (rfl : Lib.indexByte [58, 46, 95, 45] c.toNat.toUInt8 = punI c)
  clear hl hd hc
  rw [Hn.out]
  generalize punI c = j at *
  rcases h1 with h1 | h1
  · have hq : decide (65 ≤ c) = false := decide_eq_false (by omega)
    go_enter Try.func7, Try.ntmps7
    go_wp2_with fail
    refine (lower_any c w).mono ?_
    rintro e w1 ⟨rfl, rfl⟩
    rw [Hl.out]
    go_wp2_with fail
    refine (digit_any c _).mono ?_
    rintro e w2 ⟨rfl, rfl⟩
    rw [Hd.out]
    go_wp2_with fail
    refine (index_any _ c _).mono ?_
    rintro e w3 ⟨rfl, rfl⟩
    rw [Hi.out]
    go_wp2
    go_ret
    exact ⟨rfl, rfl⟩
  · have hp : 65 ≤ c := by omega
    have hq : decide (c ≤ 90) = false := decide_eq_false (by omega)
    go_enter Try.func7, Try.ntmps7
    go_wp2_with fail
    refine (lower_any c w).mono ?_
    rintro e w1 ⟨rfl, rfl⟩
    rw [Hl.out]
    go_wp2_with fail
    refine (digit_any c _).mono ?_
    rintro e w2 ⟨rfl, rfl⟩
    rw [Hd.out]
    go_wp2_with fail
    refine (index_any _ c _).mono ?_
    rintro e w3 ⟨rfl, rfl⟩
    rw [Hi.out]
    go_wp2
    go_ret
    exact ⟨rfl, rfl⟩

theorem id_any (c : Int) (w : World) : Calls Try.prog 7 #[.int .u8 c] w fun e w' => e = .returned (.bool (idB c)) ∧ w' = w := by
  cases hl : lowB c with
  | true => exact id_low c w hl
  | false =>
    by_cases h : 65 ≤ c ∧ c ≤ 90
    · exact id_cap c w hl h.1 h.2
    · cases hd : digB c with
      | true => exact id_dig c w hl (by omega) hd
      | false => exact id_pun c w hl (by omega) hd

theorem zzid_any (c : Int) (w : World) : Calls Try.prog 5 #[.int .u8 c] w fun e w' => e = .returned (.bool (idB c)) ∧ w' = w := by
  go_enter Try.func5, Try.ntmps5
  go_wp2_with fail
  refine (id_any c w).mono ?_
  rintro e w1 ⟨rfl, rfl⟩
  go_wp2
  go_ret
  exact ⟨rfl, rfl⟩

end Go.Proofs.Qxb6614566a.IdByte
