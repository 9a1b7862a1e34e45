/-
  fmt's three texts, told, and that each is short.
-/
import Derived.Test.Qxb6614548aFmtFmtWalks
import Derived.Stop.FmtTextKit
import Derived.Stop.FmtTextVerbs
import Derived.Stop.Texts
import Derived.Stop.Told
set_option linter.unusedVariables false
namespace Go.Proofs.Qxb6614548aFmt.Fm
open Go.Extern.Stop Go.Stop Go.Extern

theorem parseA : (FmtText.parse [105, 116, 101, 109, 32, 37, 100, 58, 32, 102, 111, 117, 110, 100, 32, 37, 115, 44, 32, 119, 97, 110, 116, 32, 98, 121, 116, 101, 32, 115, 116, 114, 105, 110, 103]).map FmtText.glue = some [.lit [105, 116, 101, 109, 32], .verb {} 100, .lit [58, 32, 102, 111, 117, 110, 100, 32], .verb {} 115, .lit [44, 32, 119, 97, 110, 116, 32, 98, 121, 116, 101, 32, 115, 116, 114, 105, 110, 103]] := by rfl
theorem parseB : (FmtText.parse [97, 110, 110, 111, 117, 110, 99, 101, 45, 108, 105, 115, 116, 58, 32, 116, 105, 101, 114, 32, 37, 100, 58, 32, 37, 119]).map FmtText.glue = some [.lit [97, 110, 110, 111, 117, 110, 99, 101, 45, 108, 105, 115, 116, 58, 32, 116, 105, 101, 114, 32], .verb {} 100, .lit [58, 32], .verb {} 119] := by rfl
theorem parseC : (FmtText.parse [44, 32, 119, 105, 116, 104, 32, 37, 100, 32, 109, 111, 114, 101, 32, 111, 102, 32, 116, 104, 101, 32, 119, 114, 111, 110, 103, 32, 115, 104, 97, 112, 101, 32, 117, 110, 100, 101, 114, 32, 37, 115]).map FmtText.glue = some [.lit [44, 32, 119, 105, 116, 104, 32], .verb {} 100, .lit [32, 109, 111, 114, 101, 32, 111, 102, 32, 116, 104, 101, 32, 119, 114, 111, 110, 103, 32, 115, 104, 97, 112, 101, 32, 117, 110, 100, 101, 114, 32], .verb {} 115] := by rfl

theorem wf_small {i : Int} (h0 : 0 ≤ i) (h1 : i ≤ 2097152) : (Lit.int .i64 i).wf = true := by
  simp [Lit.wf, IntKind.min, IntKind.max, IntKind.signed, IntKind.bits]
  omega

def txtA (i : Int) (said : List UInt8) : List UInt8 := [105, 116, 101, 109, 32] ++ Lib.itoa i ++ [58, 32, 102, 111, 117, 110, 100, 32] ++ said ++ [44, 32, 119, 97, 110, 116, 32, 98, 121, 116, 101, 32, 115, 116, 114, 105, 110, 103]
def txtB (i : Int) (inner : List UInt8) : List UInt8 := [97, 110, 110, 111, 117, 110, 99, 101, 45, 108, 105, 115, 116, 58, 32, 116, 105, 101, 114, 32] ++ Lib.itoa i ++ [58, 32] ++ inner
def txtC (i : Int) (key : List UInt8) : List UInt8 := [44, 32, 119, 105, 116, 104, 32] ++ Lib.itoa i ++ [32, 109, 111, 114, 101, 32, 111, 102, 32, 116, 104, 101, 32, 119, 114, 111, 110, 103, 32, 115, 104, 97, 112, 101, 32, 117, 110, 100, 101, 114, 32] ++ key

theorem textA (i : Int) (said : List UInt8) (h0 : 0 ≤ i) (h1 : i ≤ 2097152) : FmtText.text "fmt.errorf" (readA i said) = some (txtA i said) := by
  have wn := wf_small h0 h1
  have hi := FmtText.operand_int_at (sh := shape3) (k := .i64) rfl rfl i wn
  have hs : FmtText.operand (20 :: 0 :: FmtStop.pack "bencode.Kind".toUTF8.data.toList) said = some (.said "bencode.Kind".toUTF8.data.toList false false said) := FmtText.operand_stringer (FmtText.unpack_pack "bencode.Kind".toUTF8.data.toList (by decide)) false said
  rw [readA, FmtText.text_errorf_glued parseA (FmtText.operands_cons hi (FmtText.operands_cons hs FmtText.operands_nil))]
  simp [FmtText.render, FmtText.printArg_s_said, FmtText.printArg_d _ _ wn, txtA]

theorem textB (i : Int) (inner : List UInt8) (h0 : 0 ≤ i) (h1 : i ≤ 2097152) : FmtText.text "fmt.errorf" (readB i inner) = some (txtB i inner) := by
  have wn := wf_small h0 h1
  have hi := FmtText.operand_int_at (sh := shape3) (k := .i64) rfl rfl i wn
  have hs := FmtText.operand_plain_at (sh := plain55) rfl (FmtText.unpack_pack name55 (by decide)) inner
  rw [readB, FmtText.text_errorf_glued parseB (FmtText.operands_cons hi (FmtText.operands_cons hs FmtText.operands_nil))]
  simp [FmtText.render, FmtText.printArg_w_said, FmtText.printArg_d _ _ wn, txtB]

theorem textC (i : Int) (key : List UInt8) (h0 : 0 ≤ i) (h1 : i ≤ 2097152) (hk : key.length < 2 ^ 64) : FmtText.text "fmt.Sprintf" (readC i key) = some (txtC i key) := by
  have wn := wf_small h0 h1
  have hi := FmtText.operand_int_at (sh := shape3) (k := .i64) rfl rfl i wn
  have hs := FmtText.operand_str_at (sh := shape9) rfl rfl key hk
  rw [readC, FmtText.text_sprintf_glued parseC (FmtText.operands_cons hi (FmtText.operands_cons hs FmtText.operands_nil))]
  simp [FmtText.render, FmtText.printArg_s_str, FmtText.printArg_d _ _ wn, txtC]

theorem size_of_told (F : Interp) {name : String} {reading : List (List UInt8)} {s : List UInt8} (h : FmtText.text name reading = some s) (hl : s.length < 2 ^ 63) : (FmtStop.textOf (F.told name reading 0)).data.toList = s := by
  rw [Go.Kit.textOf_list, told_string F h hl]

theorem size_data (b : ByteArray) : b.size = b.data.toList.length := by simp

theorem sizeA (F : Interp) (i : Int) (said : List UInt8) (h0 : 0 ≤ i) (h1 : i ≤ 2097152) (hs : said.length ≤ 20) : (FmtStop.textOf (F.told "fmt.errorf" (readA i said) 0)).size ≤ 1000 := by
  have hl := FmtText.itoa_length_le (wf_small h0 h1)
  have hz : (txtA i said).length ≤ 1000 := by simp [txtA]; omega
  rw [size_data, size_of_told F (textA i said h0 h1) (by omega)]
  exact hz

theorem sizeB (F : Interp) (i : Int) (inner : List UInt8) (h0 : 0 ≤ i) (h1 : i ≤ 2097152) (hs : inner.length ≤ 1000) : (FmtStop.textOf (F.told "fmt.errorf" (readB i inner) 0)).size ≤ 10000 := by
  have hl := FmtText.itoa_length_le (wf_small h0 h1)
  have hz : (txtB i inner).length ≤ 10000 := by simp [txtB]; omega
  rw [size_data, size_of_told F (textB i inner h0 h1) (by omega)]
  exact hz

theorem sizeC (F : Interp) (i : Int) (key : List UInt8) (h0 : 0 ≤ i) (h1 : i ≤ 2097152) (hs : key.length ≤ 1000) : (FmtStop.textOf (F.told "fmt.Sprintf" (readC i key) 0)).size ≤ 100000 := by
  have hl := FmtText.itoa_length_le (wf_small h0 h1)
  have hz : (txtC i key).length ≤ 100000 := by simp [txtC]; omega
  rw [size_data, size_of_told F (textC i key h0 h1 (by omega)) (by omega)]
  exact hz

theorem kindName_len (k : Int) : (kindName k).data.toList.length ≤ 20 := by
  unfold kindName
  split
  · decide
  · split <;> decide

end Go.Proofs.Qxb6614548aFmt.Fm
