/-
  The walk of skipped.
-/
import Derived.Test.Qxb6614548aFmtFmtWalks
import Derived.Below
set_option linter.unusedVariables false
namespace Go.Proofs.Qxb6614548aFmt.Fm
open Go.RowKit Go.Extern.Stop Go.Stop Go.Extern

attribute [local go_sem] call41 call29 guard fmtA fmtAr fmtB fmtBr fmtC fmtCr act3_100w op3_100w op3_100 act60_115w str60 isError55 ptr55 elem55 ptr77 elem77 isError77 act55_119w op9_115

theorem wrapError_any (g : Nat) (s : ByteArray) (w : World) (hs : w.cell? ⟨g, 0, none⟩ = some (.string s)) : Calls Tryf.prog 65 #[.pointer (some ⟨g, 0, none⟩)] w fun e w' => e = .returned (.string s) ∧ w' = w := by
  go_enter Tryf.func65, Tryf.ntmps65
  go_wp2
  go_ret
  exact ⟨rfl, rfl⟩

theorem method77 (a : Addr) (w : World) : (method 204 77 (.pointer (some a)) "Error").run Tryf.prog w = .ok (65, .pointer (some a)) w := by kernel_rfl

set_option maxHeartbeats 1600000 in
theorem skipped_one (g : Nat) (key s : ByteArray) (w : World) (hs : w.cell? ⟨g, 0, none⟩ = some (.string s)) (hz : s.size ≤ 100000) :
    Calls Tryf.prog 23 #[.string key, .int .i64 1, .iface 77 (.pointer (some ⟨g, 0, none⟩))] w fun e w' => (∃ r : ByteArray, e = .returned (.string r)) ∧ w' = w := by
  have hm := method77
  go_enter Tryf.func23, Tryf.ntmps23
  go_wp2_with fail
  refine (wrapError_any g s w hs).mono ?_
  rintro e w1 ⟨rfl, rfl⟩
  go_wp2
  go_ret
  exact ⟨⟨_, rfl⟩, rfl⟩

set_option maxHeartbeats 1600000 in
theorem skipped_more (F : Interp) (g : Nat) (n : Int) (key s : ByteArray) (w : World) (hF : F.answers w.tape) (hs : w.cell? ⟨g, 0, none⟩ = some (.string s)) (hz : s.size ≤ 100000) (hn : 1 < n) (hn2 : n ≤ 2097152)
    (hT : (FmtStop.textOf (F "fmt.Sprintf" (readC (n - 1) key.data.toList) 0)).size ≤ 100000) :
    Calls Tryf.prog 23 #[.string key, .int .i64 n, .iface 77 (.pointer (some ⟨g, 0, none⟩))] w fun e w' => (∃ r : ByteArray, e = .returned (.string r)) ∧ Below w.heap.size w w' := by
  have hm := method77
  have hF' := answers_open hF
  go_enter Tryf.func23, Tryf.ntmps23
  go_wp2_with fail
  refine (wrapError_any g s w hs).mono ?_
  rintro e w1 ⟨rfl, rfl⟩
  go_wp2
  · exfalso
    rename_i hbig
    have h2 : 9223372036854775807 < s.size + 9 + 100000 := Nat.lt_of_lt_of_le hbig (Nat.add_le_add_left hT (s.size + 9))
    omega
  · go_ret
    exact ⟨⟨_, rfl⟩, ((Below.refl _ w1).alloc (Nat.le_refl _) _).drew⟩

end Go.Proofs.Qxb6614548aFmt.Fm
