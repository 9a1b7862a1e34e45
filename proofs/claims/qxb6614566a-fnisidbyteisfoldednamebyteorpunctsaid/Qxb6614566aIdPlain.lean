/-
  The plain functions of the law 'FnIsIDByteIsFoldedNameByteOrPunct': bytes of a package name, bytes of a content id, the folding of an ASCII capital. No Go text here.
-/
import Derived.Lib.Bytealg
namespace Go.Proofs.Qxb6614566a.IdByte

def lowB (c : Int) : Bool := decide (97 ≤ c) && decide (c ≤ 122)
def digB (c : Int) : Bool := decide (48 ≤ c) && decide (c ≤ 57)
def capB (c : Int) : Bool := decide (65 ≤ c) && decide (c ≤ 90)
/-- the place of c in ":._-", or -1 -/
def punI (c : Int) : Int := Lib.indexByte [58, 46, 95, 45] c.toNat.toUInt8
def nameB (c : Int) : Bool := lowB c || digB c || c == 45
def idB (c : Int) : Bool := lowB c || capB c || digB c || decide (0 ≤ punI c)
def fold (c : Int) : Int := if capB c then c + 32 else c
def wantB (c : Int) : Bool := nameB (fold c) || c == 58 || c == 46 || c == 95

theorem law_fin : ∀ n : Fin 256, idB (n.val : Int) = wantB (n.val : Int) ∧ idB (fold (n.val : Int)) = idB (n.val : Int) := by decide +kernel

theorem law {c : Int} (h0 : 0 ≤ c) (h1 : c ≤ 255) : idB c = wantB c ∧ idB (fold c) = idB c := by
  obtain ⟨n, rfl⟩ := Int.eq_ofNat_of_zero_le h0
  exact law_fin ⟨n, by omega⟩

end Go.Proofs.Qxb6614566a.IdByte
