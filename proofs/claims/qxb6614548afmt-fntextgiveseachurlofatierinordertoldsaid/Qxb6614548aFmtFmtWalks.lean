/-
  The walks over fmt: Kind.String, fmt.Errorf at its two formats, for every F.
-/
import Derived.Test.Qxb6614548aFmtRows
import Derived.Test.Qxb6614548aFmtFmtFacts
import Derived.WalkKit
import Derived.WalkSpells
set_option linter.unusedVariables false
namespace Go.Proofs.Qxb6614548aFmt.Fm
open Go.RowKit Go.Extern.Stop Go.Stop Go.Extern

attribute [local go_sem] call41 call29 guard fmtA fmtAr fmtB fmtBr fmtC fmtCr act3_100w op3_100w op3_100 act60_115w str60 isError55 ptr55 elem55 ptr77 elem77 isError77 act55_119w op9_115

def fA : ByteArray := ⟨#[105, 116, 101, 109, 32, 37, 100, 58, 32, 102, 111, 117, 110, 100, 32, 37, 115, 44, 32, 119, 97, 110, 116, 32, 98, 121, 116, 101, 32, 115, 116, 114, 105, 110, 103]⟩
def fB : ByteArray := ⟨#[97, 110, 110, 111, 117, 110, 99, 101, 45, 108, 105, 115, 116, 58, 32, 116, 105, 101, 114, 32, 37, 100, 58, 32, 37, 119]⟩
def fC : ByteArray := ⟨#[44, 32, 119, 105, 116, 104, 32, 37, 100, 32, 109, 111, 114, 101, 32, 111, 102, 32, 116, 104, 101, 32, 119, 114, 111, 110, 103, 32, 115, 104, 97, 112, 101, 32, 117, 110, 100, 101, 114, 32, 37, 115]⟩

/-- what Kind.String answers -/
def kindName (k : Int) : ByteArray := if k = 1 then ⟨#[105, 110, 116, 101, 103, 101, 114]⟩ else if k = 3 then ⟨#[108, 105, 115, 116]⟩ else ⟨#[100, 105, 99, 116, 105, 111, 110, 97, 114, 121]⟩

theorem string_any (k : Int) (w : World) (hk : k = 1 ∨ k = 3 ∨ k = 4) : Calls Tryf.prog 42 #[.int .u8 k] w fun e w' => e = .returned (.string (kindName k)) ∧ w' = w := by
  rcases hk with rfl | rfl | rfl
  all_goals
    go_enter Tryf.func42, Tryf.ntmps42
    go_wp2
    go_ret
    exact ⟨rfl, rfl⟩

/-- what fmt is asked at the first format -/
def readA (i : Int) (said : List UInt8) : List (List UInt8) := [[105, 116, 101, 109, 32, 37, 100, 58, 32, 102, 111, 117, 110, 100, 32, 37, 115, 44, 32, 119, 97, 110, 116, 32, 98, 121, 116, 101, 32, 115, 116, 114, 105, 110, 103], shape3, digits 8 (i % 18446744073709551616).toNat, 20 :: 0 :: FmtStop.pack "bencode.Kind".toUTF8.data.toList, said]
/-- what fmt is asked at the second format -/
def readB (i : Int) (inner : List UInt8) : List (List UInt8) := [[97, 110, 110, 111, 117, 110, 99, 101, 45, 108, 105, 115, 116, 58, 32, 116, 105, 101, 114, 32, 37, 100, 58, 32, 37, 119], shape3, digits 8 (i % 18446744073709551616).toNat, plain55, inner]
/-- what fmt is asked at the third format -/
def readC (i : Int) (key : List UInt8) : List (List UInt8) := [[44, 32, 119, 105, 116, 104, 32, 37, 100, 32, 109, 111, 114, 101, 32, 111, 102, 32, 116, 104, 101, 32, 119, 114, 111, 110, 103, 32, 115, 104, 97, 112, 101, 32, 117, 110, 100, 101, 114, 32, 37, 115], shape3, digits 8 (i % 18446744073709551616).toNat, shape9, FmtStop.pack key]

set_option maxHeartbeats 1600000 in
theorem errorf_item (F : Interp) (v : Nat) (i k : Int) (w : World) (hF : F.answers w.tape) (hk : k = 1 ∨ k = 3 ∨ k = 4)
    (hc0 : w.cell? ⟨v, 0, none⟩ = some (.iface 3 (.int .i64 i))) (hc1 : w.cell? ⟨v, 1, none⟩ = some (.iface 60 (.int .u8 k))) :
    Calls Tryf.prog 33 #[.string fA, .slice (some ⟨v, 0, none⟩) 2 2] w fun e w' => e = .returned (.iface 55 (.pointer (some ⟨w.heap.size, 0, none⟩))) ∧
      w' = (w.alloc (.cells #[.string (FmtStop.textOf (F "fmt.errorf" (readA i (kindName k).data.toList) 0))] 57)).drew := by
  have hF' := answers_open hF
  unfold fA
  go_enter Tryf.func33, Tryf.ntmps33
  go_wp2
  apply rows_call nextTurns
  case hr =>
    go_simp
    exact ⟨⟨rfl, rfl, rfl⟩, rfl⟩
  case hi => exact invokeString60 _ _
  case hc =>
    refine (string_any k _ hk).mono fun e w₃ ⟨he, hx⟩ => ?_
    subst he; subst hx
    apply rows_value nextReturned
    case hr =>
      go_simp
      exact ⟨rfl, rfl⟩
    case h =>
      go_wp2
      go_ret
      exact ⟨rfl, rfl⟩

set_option maxHeartbeats 1600000 in
theorem errorf_tier (F : Interp) (v : Nat) (i : Int) (a : Addr) (s : ByteArray) (w : World) (hF : F.answers w.tape)
    (hc0 : w.cell? ⟨v, 0, none⟩ = some (.iface 3 (.int .i64 i))) (hc1 : w.cell? ⟨v, 1, none⟩ = some (.iface 55 (.pointer (some a)))) (hs : w.cell? a = some (.string s)) :
    Calls Tryf.prog 33 #[.string fB, .slice (some ⟨v, 0, none⟩) 2 2] w fun e w' => e = .returned (.iface 77 (.pointer (some ⟨w.heap.size, 0, none⟩))) ∧
      w' = (w.alloc (.cells #[.string (FmtStop.textOf (F "fmt.errorf" (readB i s.data.toList) 0)), .iface 55 (.pointer (some a))] 102)).drew := by
  have hF' := answers_open hF
  have hop := opPlain55_119w "fmt.errorf" a s w hs
  unfold fB
  go_enter Tryf.func33, Tryf.ntmps33
  go_wp2
  apply rows_value nextTurns
  case hr =>
    go_simp
    exact ⟨rfl, rfl⟩
  case h =>
    go_wp2
    go_ret
    exact ⟨rfl, rfl⟩

end Go.Proofs.Qxb6614548aFmt.Fm
