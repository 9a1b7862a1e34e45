/-
  The closed facts for a walk over fmt's stopped fronts, at this dump (after the guide's worked families: HexbadFmt.lean, LevelsFmt.lean). Each is proved by the kernel's own evaluation.
-/
import Derived.Test.Qxb6614548aFmtProg
import Derived.Stop.CallBack
import Derived.Stop.IfaceNil
import GoSem.ClaimData
set_option linter.unusedVariables false
namespace Go.Proofs.Qxb6614548aFmt.Fm
open Go.Extern.Stop Go.Stop Go.Extern

theorem call41 (args : Array Value) (w : World) : (callFunc 41 args).run Tryf.prog w = (FmtCalls.errorf #[9, 76] #[45] args).run Tryf.prog w :=
  run_callFunc_next Tryf.func41 (by kernel_rfl) (by kernel_rfl) (by kernel_rfl) args w
theorem call29 (args : Array Value) (w : World) : (callFunc 29 args).run Tryf.prog w = ((FmtStop.sprintf #[9, 76] #[9] args).run Tryf.prog w).andThen fun v w' => .ok (.value v) w' :=
  run_callFunc_extern Tryf.func29 (by kernel_rfl) (by kernel_rfl) (by kernel_rfl) (by kernel_rfl) args w
theorem guard (name : String) (w : World) : (FmtStop.guard name).run Tryf.prog w = .ok () w := by kernel_rfl
theorem nextTurns : Extern.next FmtCalls.turnsRow = some (FmtCalls.begun #[] #[]) := by kernel_rfl
theorem nextReturned : Extern.next FmtCalls.returnedRow = some (FmtCalls.returned #[] #[]) := by kernel_rfl

-- item d: found s, want byte string
theorem fmtA : FmtStop.printed? ⟨#[105, 116, 101, 109, 32, 37, 100, 58, 32, 102, 111, 117, 110, 100, 32, 37, 115, 44, 32, 119, 97, 110, 116, 32, 98, 121, 116, 101, 32, 115, 116, 114, 105, 110, 103]⟩ 2 = some [(0, 100, false), (1, 115, false)] := by kernel_rfl
theorem fmtAr (w : World) : (FmtDoors.printed ⟨#[105, 116, 101, 109, 32, 37, 100, 58, 32, 102, 111, 117, 110, 100, 32, 37, 115, 44, 32, 119, 97, 110, 116, 32, 98, 121, 116, 101, 32, 115, 116, 114, 105, 110, 103]⟩ 2).run Tryf.prog w = .ok [(0, 100, false), (1, 115, false)] w := by kernel_rfl

-- announce-list: tier d: w
theorem fmtB : FmtStop.printed? ⟨#[97, 110, 110, 111, 117, 110, 99, 101, 45, 108, 105, 115, 116, 58, 32, 116, 105, 101, 114, 32, 37, 100, 58, 32, 37, 119]⟩ 2 = some [(0, 100, false), (1, 119, false)] := by kernel_rfl
theorem fmtBr (w : World) : (FmtDoors.printed ⟨#[97, 110, 110, 111, 117, 110, 99, 101, 45, 108, 105, 115, 116, 58, 32, 116, 105, 101, 114, 32, 37, 100, 58, 32, 37, 119]⟩ 2).run Tryf.prog w = .ok [(0, 100, false), (1, 119, false)] w := by kernel_rfl

-- with d more of the wrong shape under s
theorem fmtC : FmtStop.printed? ⟨#[44, 32, 119, 105, 116, 104, 32, 37, 100, 32, 109, 111, 114, 101, 32, 111, 102, 32, 116, 104, 101, 32, 119, 114, 111, 110, 103, 32, 115, 104, 97, 112, 101, 32, 117, 110, 100, 101, 114, 32, 37, 115]⟩ 2 = some [(0, 100, false), (1, 115, false)] := by kernel_rfl
theorem fmtCr (w : World) : (FmtDoors.printed ⟨#[44, 32, 119, 105, 116, 104, 32, 37, 100, 32, 109, 111, 114, 101, 32, 111, 102, 32, 116, 104, 101, 32, 119, 114, 111, 110, 103, 32, 115, 104, 97, 112, 101, 32, 117, 110, 100, 101, 114, 32, 37, 115]⟩ 2).run Tryf.prog w = .ok [(0, 100, false), (1, 115, false)] w := by kernel_rfl

def shape3 : List UInt8 := [5, 3, 0, 0, 0, 0, 0, 0, 0, 105, 110, 116]
def shape9 : List UInt8 := [12, 6, 0, 0, 0, 0, 0, 0, 0, 115, 116, 114, 105, 110, 103]
theorem act3_100w (name : String) (x : Value) (w : World) : (FmtCalls.act name true 100 false (.iface 3 x)).run Tryf.prog w = .ok (.closed true) w := by kernel_rfl
theorem op3_100w (name : String) (x : Int) (w : World) : (FmtStop.operand name true 100 false (.iface 3 (.int .i64 x))).run Tryf.prog w = .ok (shape3, Go.Extern.Stop.digits 8 (x % 2 ^ 64).toNat) w := by kernel_rfl
theorem op3_100 (name : String) (x : Int) (w : World) : (FmtStop.operand name false 100 false (.iface 3 (.int .i64 x))).run Tryf.prog w = .ok (shape3, Go.Extern.Stop.digits 8 (x % 2 ^ 64).toNat) w := by kernel_rfl
theorem act60_115w (name : String) (x : Value) (w : World) : (FmtCalls.act name true 115 false (.iface 60 x)).run Tryf.prog w = .ok (.call false) w := by kernel_rfl
theorem invokeString60 (x : Value) (w : World) : (invoke (.fn (.method "String") #[]) #[.iface 60 x]).run Tryf.prog w = .ok (.enter 42 #[x]) w := by kernel_rfl
theorem str60 (w : World) : (typeStr 60).run Tryf.prog w = .ok "bencode.Kind" w := by kernel_rfl
theorem isError55 (w : World) : (FmtDoors.textMethod 55 "Error").run Tryf.prog w = .ok true w := by kernel_rfl
theorem ptr55 (w : World) : (FmtStop.ptrTo "errors.errorString").run Tryf.prog w = .ok 55 w := by kernel_rfl
theorem elem55 (w : World) : (elemOf 55).run Tryf.prog w = .ok 57 w := by kernel_rfl
theorem ptr77 (w : World) : (FmtStop.ptrTo "fmt.wrapError").run Tryf.prog w = .ok 77 w := by kernel_rfl
theorem elem77 (w : World) : (elemOf 77).run Tryf.prog w = .ok 102 w := by kernel_rfl
theorem isError77 (w : World) : (FmtDoors.textMethod 77 "Error").run Tryf.prog w = .ok true w := by kernel_rfl
/-- the bytes of the name of the type 55 -/
def name55 : List UInt8 := [42, 101, 114, 114, 111, 114, 115, 46, 101, 114, 114, 111, 114, 83, 116, 114, 105, 110, 103]
def plain55 : List UInt8 := 14 :: FmtStop.pack name55
theorem str55 : ∃ s : String, s.toUTF8.data.toList = name55 ∧ ∀ w, (typeStr 55).run Tryf.prog w = .ok s w :=
  ⟨String.singleton (Char.ofNat 42) ++ "errors.errorString", by decide +kernel, fun w => by kernel_rfl⟩
theorem opPlain55_119w (name : String) (a : Addr) (s : ByteArray) (w : World) (hc : w.cell? a = some (.string s)) :
    (FmtStop.operand name true 119 false (.iface 55 (.pointer (some a)))).run Tryf.prog w = .ok (plain55, s.data.toList) w := by
  obtain ⟨n, hn, h1⟩ := str55
  have d2 : Tryf.t55.desc = .pointer 57 := rfl
  have d3 : Tryf.t57.desc = .named "errors.errorString" 56 := rfl
  have hn' : n.toByteArray.data.toList = name55 := hn
  simp [FmtStop.operand, h1, d2, d3, run_load, hc, plain55, hn']
theorem act55_119w (name : String) (x : Value) (w : World) : (FmtCalls.act name true 119 false (.iface 55 x)).run Tryf.prog w = .ok (.closed true) w := by kernel_rfl
theorem op9_115 (name : String) (s : ByteArray) (w : World) : (FmtStop.operand name false 115 false (.iface 9 (.string s))).run Tryf.prog w = .ok (shape9, FmtStop.pack s.data.toList) w := by kernel_rfl

end Go.Proofs.Qxb6614548aFmt.Fm
