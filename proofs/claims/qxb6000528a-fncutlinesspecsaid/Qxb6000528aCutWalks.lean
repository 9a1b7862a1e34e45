/-
  The walks of the functions on the road of 'FnCutLinesSpec': the bound, the copy, the count of newlines, the comparison, bytes.IndexByte, cutLines.
-/
import Derived.Test.Qxb6000528aRows
import Derived.Test.Qxb6000528aCutPlain
import Derived.WalkKit
import Derived.WalkSpells
import Derived.Below
import Derived.Lib.BytesEntry
import Derived.Laws.CopyOwn
import Derived.Laws.MakeOwn
import Derived.OwnWalk
import Derived.Deep.QuietTactic
import Derived.BigQuiet
namespace Go.Proofs.Qxb6000528a.Cut
open Go.RowKit

/-- bytes.IndexByte at a slice whose cells are known -/
theorem index_any (b o n c : Nat) (xs : List Int) (cv : Int) (w : World) (hx : xs.length = n)
    (hc : ∀ i, i < n → w.cell? ⟨b, o + i, none⟩ = some (.int .u8 (xs.getD i 0))) :
    Calls Try.prog 31 #[.slice (some ⟨b, o, none⟩) n c, .int .u8 cv] w fun e w' => e = .returned (.int .i64 (Lib.indexByte (Lib.bytesOf xs) cv.toNat.toUInt8)) ∧ w' = w := by
  go_enter Try.func31, Try.ntmps31
  go_wp2
  rw [run_callFunc_extern Try.func32 (by kernel_rfl) (by kernel_rfl) (by kernel_rfl) (e := Extern.BytealgIndexByte.indexByte) (by kernel_rfl), Lib.run_indexByteSlice w b o n c xs hx hc cv]
  simp only [Result.andThen]
  rw [Oper.upon_value]
  go_wp2
  go_ret
  exact ⟨rfl, rfl⟩

/-- bytes.IndexByte at nil -/
theorem index_nil (cv : Int) (w : World) :
    Calls Try.prog 31 #[.slice none 0 0, .int .u8 cv] w fun e w' => e = .returned (.int .i64 (-1)) ∧ w' = w := by
  go_enter Try.func31, Try.ntmps31
  go_wp2
  rw [run_callFunc_extern Try.func32 (by kernel_rfl) (by kernel_rfl) (by kernel_rfl) (e := Extern.BytealgIndexByte.indexByte) (by kernel_rfl), Lib.run_indexByteNil w 0 0 cv]
  simp only [Result.andThen]
  rw [Oper.upon_value]
  go_wp2
  go_ret
  exact ⟨rfl, rfl⟩

/-- the bound on the length -/
theorem bytes_any (a : Option Addr) (len cap : Nat) (n : Int) (w : World) (hl : len ≤ maxLen) :
    Calls Try.prog 21 #[.slice a len cap, .int .i64 n] w fun e w' => e = .returned (.bool (decide (len ≤ 1048576))) ∧ w' = w := by
  unfold maxLen at hl
  by_cases h : len ≤ 1048576
  · have h' : (len : Int) ≤ 1048576 := by omega
    go_enter Try.func21, Try.ntmps21
    go_wp2
    go_ret
    exact ⟨by simp [h], rfl⟩
  · have h' : 1048576 < (len : Int) := by omega
    go_enter Try.func21, Try.ntmps21
    go_wp2
    go_ret
    exact ⟨by simp [h], rfl⟩

/-- the count of newlines -/
theorem count_any (b o n c : Nat) (xs : List Int) (w : World) (hx : xs.length = n) (hn : n ≤ 1048576)
    (hc : ∀ i, i < n → w.cell? ⟨b, o + i, none⟩ = some (.int .u8 (xs.getD i 0))) :
    Calls Try.prog 23 #[.slice (some ⟨b, o, none⟩) n c] w fun e w' => e = .returned (.int .i64 (cnt xs : Nat)) ∧ w' = w := by
  go_enter Try.func23, Try.ntmps23
  go_wp2
  go_loop [3, 4] (fun q i => ∃ k : Nat, k ≤ n ∧ i = .int .i64 k ∧ q = .int .i64 (cnt (xs.take k) : Nat)) (fun _ i => n - (intOf i).toNat)
  case atStart => exact ⟨0, Nat.zero_le _, rfl, rfl⟩
  case round =>
    obtain ⟨k, hk, rfl, rfl⟩ := hrel
    have hle := cnt_le (xs.take k)
    have hl : (xs.take k).length ≤ k := List.length_take_le _ _
    by_cases hlt : k < n
    · have hcell := hc k hlt
      have HS : Hid (cnt (xs.take (k + 1)) = cnt (xs.take k) + if xs.getD k 0 = 10 then 1 else 0) := cnt_snoc xs k (by omega)
      clear hc
      generalize xs.getD k 0 = y at hcell HS
      go_wp2
      all_goals
        go_round
        case rel => exact ⟨k + 1, by omega, by go_num, by rw [HS.out]; first | (rw [if_pos (by simp_all)]; go_num) | (rw [if_neg (by simp_all)]; go_num)⟩
        case measure => simp [intOf]; omega
    · have ek : xs.take k = xs := List.take_of_length_le (by omega)
      rw [ek]
      go_wp2
      go_ret
      exact ⟨rfl, rfl⟩

/-- the count at a slice of no element -/
theorem count_none (a : Option Addr) (c : Nat) (w : World) :
    Calls Try.prog 23 #[.slice a 0 c] w fun e w' => e = .returned (.int .i64 0) ∧ w' = w := by
  go_enter Try.func23, Try.ntmps23
  go_wp2
  refine wp_loop_rounds 1 ?_
  rw [rounds_succ]
  go_wp2
  go_ret
  exact ⟨rfl, rfl⟩

end Go.Proofs.Qxb6000528a.Cut
