/-
  The walks of the four project functions on the road of 'FnScalarStartsHighTwinNeverInWord', and of bytes.IndexByte beneath them.
-/
import Derived.Test.Qxb6612781aRows
import Derived.Test.Qxb6612781aStartsPlain
import Derived.WalkKit
import Derived.Below
import Derived.Lib.BytesEntry
import Derived.Lib.SlBytesConst
import Derived.Laws.BitsAllLaws
namespace Go.Proofs.Qxb6612781a.Starts
open Go.RowKit

/-- bytes.IndexByte at a slice whose cells are known -/
theorem index_any (b o n c : Nat) (xs : List Int) (cv : Int) (w : World) (hx : xs.length = n)
    (hc : ∀ i, i < n → w.cell? ⟨b, o + i, none⟩ = some (.int .u8 (xs.getD i 0))) :
    Calls Try.prog 15 #[.slice (some ⟨b, o, none⟩) n c, .int .u8 cv] w fun e w' => e = .returned (.int .i64 (Lib.indexByte (Lib.bytesOf xs) cv.toNat.toUInt8)) ∧ w' = w := by
  go_enter Try.func15, Try.ntmps15
  go_wp2
  rw [run_callFunc_extern Try.func16 (by kernel_rfl) (by kernel_rfl) (by kernel_rfl) (e := Extern.BytealgIndexByte.indexByte) (by kernel_rfl), Lib.run_indexByteSlice w b o n c xs hx hc cv]
  simp only [Result.andThen]
  rw [Oper.upon_value]
  go_wp2
  go_ret
  exact ⟨rfl, rfl⟩

/-- the block of the ten bytes, as '[]byte(" ..")' lays it -/
def blk : Obj := .cells #[.int .u8 32, .int .u8 9, .int .u8 13, .int .u8 10, .int .u8 91, .int .u8 93, .int .u8 123, .int .u8 125, .int .u8 44, .int .u8 58] 5 (10, 11)

theorem cellAt (w : World) (k : Nat) (hk : k < 10) : (w.alloc blk).cell? ⟨w.heap.size, 0 + k, none⟩ = some (.int .u8 (seps.getD k 0)) := by
  unfold blk
  rw [Nat.zero_add, World.cell?_alloc_mark]
  rcases (show k = 0 ∨ k = 1 ∨ k = 2 ∨ k = 3 ∨ k = 4 ∨ k = 5 ∨ k = 6 ∨ k = 7 ∨ k = 8 ∨ k = 9 from by omega) with rfl | rfl | rfl | rfl | rfl | rfl | rfl | rfl | rfl | rfl <;> rfl

set_option maxHeartbeats 400000 in
theorem scalarStarts_any (c : Int) (w : World) :
    Calls Try.prog 12 #[.int .u8 c] w fun e w' => e = .returned (.bool (startB c)) ∧ Below w.heap.size w w' := by
  have kc := fun (w : World) (C : Array Value) (n c : Nat) => Lib.run_convert_bytes_const (P := Try.prog) w 34 5 C n c Try.underlying34 Try.underlying5
  go_enter Try.func12, Try.ntmps12
  go_wp2_with fail
  refine (index_any w.heap.size 0 10 10 seps c (w.alloc blk) rfl (fun k hk => cellAt w k hk)).mono ?_
  rintro e w1 ⟨rfl, rfl⟩
  have hb : Below w.heap.size w (w.alloc blk) := (Below.refl _ w).alloc (Nat.le_refl _) _
  obtain ⟨j, hj⟩ : ∃ j, Lib.indexByte (Lib.bytesOf seps) c.toNat.toUInt8 = j := ⟨_, rfl⟩
  have hs : startB c = (decide (0 ≤ j) || decide (128 ≤ c)) := by rw [← hj]; rfl
  have Hs : Hid (startB c = (decide (0 ≤ j) || decide (128 ≤ c))) := hs
  rw [hj]
  clear hj hs
  by_cases hj : 0 ≤ j
  · go_wp2
    go_ret
    exact ⟨by rw [Hs.out]; simp [hj], hb⟩
  · by_cases hc : 128 ≤ c
    · go_wp2
      go_ret
      exact ⟨by rw [Hs.out]; simp [hc], hb⟩
    · go_wp2
      go_ret
      exact ⟨by rw [Hs.out]; rfl, hb⟩

theorem zzscalarStarts_any (c : Int) (w : World) :
    Calls Try.prog 6 #[.int .u8 c] w fun e w' => e = .returned (.bool (startB c)) ∧ Below w.heap.size w w' := by
  go_enter Try.func6, Try.ntmps6
  go_wp2_with fail
  refine (scalarStarts_any c w).mono ?_
  rintro e w1 ⟨rfl, hb⟩
  go_wp2
  go_ret
  exact ⟨rfl, hb⟩

set_option maxHeartbeats 400000 in
theorem word_any (c : Int) (w : World) :
    Calls Try.prog 7 #[.int .u8 c] w fun e w' => e = .returned (.bool (wordB c)) ∧ w' = w := by
  unfold wordB
  go_enter Try.func7, Try.ntmps7
  go_wp2
  all_goals
    go_ret
    refine ⟨?_, rfl⟩
    simp_all
    try omega

theorem or_high (c : Int) (h0 : 0 ≤ c) (h1 : c ≤ 255) : 128 ≤ bits .or .u8 c 128 ∧ bits .or .u8 c 128 ≤ 255 := by
  obtain ⟨n, rfl⟩ := Int.eq_ofNat_of_zero_le h0
  have hd : ∀ m : Fin 256, 128 ≤ (m.val ||| 128) ∧ (m.val ||| 128) ≤ 255 := by decide +kernel
  have e := u8_or_nat n 128 (by omega) (by omega)
  have := hd ⟨n, by omega⟩
  simp only at this
  have e2 : bits .or .u8 (n : Int) 128 = ((n ||| 128 : Nat) : Int) := e
  rw [e2]
  omega

theorem law_any (c : Int) (h0 : 0 ≤ c) (h1 : c ≤ 255) (w : World) :
    Calls Try.prog 4 #[.int .u8 c] w fun e w' => e = .returned (.bool true) ∧ Below w.heap.size w w' := by
  have hh := or_high c h0 h1
  have Hs : Hid (startB (bits BinOp.or IntKind.u8 c 128) = true) := start_high hh.1
  clear hh
  cases hw : wordB c with
  | true =>
    have Hw : Hid (startB c = false) := word_not_start h0 h1 hw
    have Hv : Hid (wordB c = true) := hw
    clear hw
    go_enter Try.func4, Try.ntmps4
    go_wp2_with fail
    refine (zzscalarStarts_any _ _).mono ?_
    rintro e w1 ⟨rfl, hb1⟩
    rw [Hs.out]
    go_wp2_with fail
    refine (word_any _ _).mono ?_
    rintro e w2 ⟨rfl, rfl⟩
    rw [Hv.out]
    go_wp2_with fail
    refine (zzscalarStarts_any _ _).mono ?_
    rintro e w3 ⟨rfl, hb3⟩
    rw [Hw.out]
    go_wp2
    go_ret
    exact ⟨rfl, hb1.trans (hb3.mono hb1.size)⟩
  | false =>
    have Hv : Hid (wordB c = false) := hw
    clear hw
    go_enter Try.func4, Try.ntmps4
    go_wp2_with fail
    refine (zzscalarStarts_any _ _).mono ?_
    rintro e w1 ⟨rfl, hb1⟩
    rw [Hs.out]
    go_wp2_with fail
    refine (word_any _ _).mono ?_
    rintro e w2 ⟨rfl, rfl⟩
    rw [Hv.out]
    go_wp2
    go_ret
    exact ⟨rfl, hb1⟩

end Go.Proofs.Qxb6612781a.Starts
