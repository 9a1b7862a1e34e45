/-
  The plain functions of the law 'FnScalarStartsHighTwinNeverInWord': which bytes are 'word' bytes, after which bytes a plain scalar may start. No Go text here.
-/
import Derived.Lib.Bytealg
import Derived.Lib.Bytes
namespace Go.Proofs.Qxb6612781a.Starts

/-- the ten bytes of the literal in 'scalarStarts' -/
def seps : List Int := [32, 9, 13, 10, 91, 93, 123, 125, 44, 58]

/-- a plain scalar may start after the byte c -/
def startB (c : Int) : Bool := decide (0 ≤ Lib.indexByte (Lib.bytesOf seps) c.toNat.toUInt8) || decide (128 ≤ c)

/-- c stands inside a plain word or a number -/
def wordB (c : Int) : Bool :=
  (decide (97 ≤ c) && decide (c ≤ 122)) || (decide (65 ≤ c) && decide (c ≤ 90)) || (decide (48 ≤ c) && decide (c ≤ 57)) ||
    (c == 45) || (c == 43) || (c == 46) || (c == 95) || (c == 47) || (c == 39) || (c == 34)

theorem start_high {c : Int} (h : 128 ≤ c) : startB c = true := by
  unfold startB
  rw [decide_eq_true h, Bool.or_true]

theorem word_not_start_fin : ∀ n : Fin 256, wordB (n.val : Int) = true → startB (n.val : Int) = false := by decide +kernel

theorem word_not_start {c : Int} (h0 : 0 ≤ c) (h1 : c ≤ 255) (h : wordB c = true) : startB c = false := by
  obtain ⟨n, rfl⟩ := Int.eq_ofNat_of_zero_le h0
  exact word_not_start_fin ⟨n, by omega⟩ h

end Go.Proofs.Qxb6612781a.Starts
