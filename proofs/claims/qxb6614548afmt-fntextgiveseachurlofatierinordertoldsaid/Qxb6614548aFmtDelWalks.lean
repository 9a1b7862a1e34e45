/-
  The walks of slices.DeleteFunc and slices.IndexFunc at []string, with the function that asks for the empty string.
-/
import Derived.Test.Qxb6614548aFmtRows
import Derived.WalkKit
import Derived.WalkSpells
import Derived.Below
import Derived.OwnWalk
import Derived.Lib.SliceRun
import Derived.Laws.OwnMore
set_option linter.unusedVariables false
namespace Go.Proofs.Qxb6614548aFmt.Ben
open Go.RowKit

/-- is the string empty? (as the walk asks it) -/
def emp (s : ByteArray) : Bool := s.toList.isEmpty

theorem empty_any (s : ByteArray) (w : World) : Calls Tryf.prog 35 #[.string s] w fun e w' => e = .returned (.bool (emp s)) ∧ w' = w := by
  unfold emp
  go_enter Tryf.func35, Tryf.ntmps35
  go_wp2
  go_ret
  exact ⟨rfl, rfl⟩

/-- the string at place j -/
def sAt (ss : List ByteArray) (j : Nat) : ByteArray := ss.getD j ByteArray.empty
theorem sAt_eq {ss : List ByteArray} {j : Nat} (h : j < ss.length) : sAt ss j = ss[j] := by simp [sAt, h]

/-- the strings of the row -/
def strs (ss : List ByteArray) : List Value := ss.map Value.string

theorem strs_at {w : World} {base g n cap : Nat} {ss : List ByteArray} (h : w.ownsRow base 9 1 (.slice (some ⟨g, 0, none⟩) n cap) n (strs ss)) (j : Nat) (hj : j < n) : w.cell? ⟨g, j, none⟩ = some (.string (sAt ss j)) := by
  have hl : ss.length = n := by have := h.1; simpa [strs] using this
  rw [h.cellAt j (by omega)]
  have hj' : j < ss.length := by omega
  rw [sAt_eq hj']
  simp [strs, hj']

/-- the strings that are not empty -/
def kept (ss : List ByteArray) : List ByteArray := ss.filter fun s => !emp s

theorem kept_snoc (ss : List ByteArray) (j : Nat) (h : j < ss.length) : kept (ss.take (j + 1)) = kept (ss.take j) ++ (if emp (sAt ss j) = true then [] else [sAt ss j]) := by
  have e : sAt ss j = ss[j] := sAt_eq h
  rw [List.take_succ_eq_append_getElem h, kept, List.filter_append, e]
  by_cases he : emp ss[j] = true <;> simp [kept, he]

theorem kept_all (ss : List ByteArray) (h : ∀ j, j < ss.length → emp (sAt ss j) = false) : kept ss = ss := by
  unfold kept
  rw [List.filter_eq_self]
  intro s hs
  obtain ⟨j, hj, rfl⟩ := List.getElem_of_mem hs
  have := h j hj
  rw [sAt_eq hj] at this
  simp [this]

set_option maxHeartbeats 400000 in
/-- slices.IndexFunc over a row of strings -/
theorem indexFunc_any (g n cap : Nat) (ss : List ByteArray) (w : World) (hn : n ≤ 2097152) (hs : ∀ j, j < n → w.cell? ⟨g, j, none⟩ = some (.string (sAt ss j))) :
    Calls Tryf.prog 43 #[.slice (some ⟨g, 0, none⟩) n cap, .func (.func 35) #[] #[]] w fun e w' => (∃ r : Int, e = .returned (.int .i64 r) ∧ ((r = -1 ∧ ∀ j, j < n → emp (sAt ss j) = false) ∨ ∃ K : Nat, r = (K : Int) ∧ K < n ∧ emp (sAt ss K) = true ∧ ∀ j, j < K → emp (sAt ss j) = false)) ∧ w' = w := by
  go_enter Tryf.func43, Tryf.ntmps43
  go_wp2_with fail
  go_loop [8] (fun p => ∃ K : Nat, K ≤ n ∧ p = .int .i64 (K : Int) ∧ Hid (∀ j, j < K → emp (sAt ss j) = false)) (fun p => n - (intOf p).toNat)
  case atStart => exact ⟨0, Nat.zero_le _, rfl, fun j hj => absurd hj (Nat.not_lt_zero _)⟩
  case round =>
    obtain ⟨K, hK, rfl, HE⟩ := hrel
    by_cases hlt : K < n
    · have hc := hs K hlt
      have hlt' : (K : Int) < (n : Int) := by omega
      cases he : emp (sAt ss K) with
      | true =>
        have He : Hid (emp (sAt ss K) = true) := he
        clear he hs
        go_wp2_with fail
        refine (empty_any _ _).mono ?_
        rintro e w1 ⟨rfl, rfl⟩
        rw [He.out]
        go_wp2
        go_ret
        exact ⟨⟨_, rfl, .inr ⟨K, rfl, hlt, He.out, HE.out⟩⟩, rfl⟩
      | false =>
        have He : Hid (emp (sAt ss K) = false) := he
        have HE2 : Hid (∀ j, j < K + 1 → emp (sAt ss j) = false) := by
          intro j hj
          by_cases hjk : j = K
          · subst hjk; exact He.out
          · exact HE.out j (by omega)
        clear he hs
        go_wp2_with fail
        refine (empty_any _ _).mono ?_
        rintro e w1 ⟨rfl, rfl⟩
        rw [He.out]
        go_wp2
        go_round
        case rel => exact ⟨K + 1, by omega, by go_num, HE2⟩
        case measure => simp [intOf]; omega
    · have hK' : K = n := by omega
      clear hs
      go_wp2
      go_ret
      exact ⟨⟨_, rfl, .inl ⟨rfl, fun j hj => HE.out j (by omega)⟩⟩, rfl⟩

/-- slices.IndexFunc at nil -/
theorem indexFunc_nil (w : World) :
    Calls Tryf.prog 43 #[.slice none 0 0, .func (.func 35) #[] #[]] w fun e w' => e = .returned (.int .i64 (-1)) ∧ w' = w := by
  go_enter Tryf.func43, Tryf.ntmps43
  go_wp2_with fail
  refine wp_loop_rounds 1 ?_
  rw [rounds_succ]
  go_wp2
  go_ret
  exact ⟨rfl, rfl⟩

/-- slices.DeleteFunc at nil -/
theorem delete_nil (w : World) :
    Calls Tryf.prog 34 #[.slice none 0 0, .func (.func 35) #[] #[]] w fun e w' => e = .returned (.slice none 0 0) ∧ w' = w := by
  go_enter Tryf.func34, Tryf.ntmps34
  go_wp2_with fail
  refine (indexFunc_nil _).mono ?_
  rintro e w1 ⟨rfl, rfl⟩
  go_wp2
  go_ret
  exact ⟨rfl, rfl⟩

/-- stores one behind the other into an owned row, from o on: what lies ahead of o stays -/
theorem setCells_own {base g n cap : Nat} {e : TypeId} : ∀ (vs : List Value) (o : Nat) (w : World) (xs : List Value), w.ownsRow base e 1 (.slice (some ⟨g, 0, none⟩) n cap) n xs →
    ∃ xs', (w.setCells g o vs).ownsRow base e 1 (.slice (some ⟨g, 0, none⟩) n cap) n xs' ∧ xs'.take o = xs.take o ∧ w.grownBy (w.setCells g o vs) (some g)
  | [], o, w, xs, h => ⟨xs, h, rfl, ⟨rfl, rfl, rfl, Nat.le_refl _, fun _ _ _ => rfl⟩⟩
  | v :: vs, o, w, xs, h => by
    obtain ⟨h1, h2⟩ := h.stored o v
    obtain ⟨xs', h3, h4, h5⟩ := setCells_own vs (o + 1) (w.setCell ⟨g, o, none⟩ v) (xs.set o v) h1
    refine ⟨xs', h3, ?_, ⟨h5.os.trans h2.os, h5.tape.trans h2.tape, h5.output.trans h2.output, Nat.le_trans h2.size h5.size, fun k hk hne => (h5.block k (Nat.lt_of_lt_of_le hk h2.size) hne).trans (h2.block k hk hne)⟩⟩
    have := congrArg (List.take o) h4
    rw [List.take_take, List.take_take, Nat.min_eq_left (Nat.le_succ o), List.take_set_of_le (Nat.le_refl o)] at this
    exact this

/-- the head of an owned row -/
theorem ownsRow_head {w : World} {base g n cap m : Nat} {e : TypeId} {xs : List Value} (h : w.ownsRow base e 1 (.slice (some ⟨g, 0, none⟩) n cap) n xs) (hm : m ≤ n) : w.ownsRow base e 1 (.slice (some ⟨g, 0, none⟩) m cap) m (xs.take m) := by
  have hl : xs.length = n := by simpa using h.1
  refine ⟨by simp; omega, ?_⟩
  rcases h.2 with ⟨h', _⟩ | ⟨g', cap', cur, h', hb, hg, hnc, hcm, hcs, htake⟩
  · simp at h'
  · simp only [Value.slice.injEq, Option.some.injEq, Addr.mk.injEq, and_true, true_and] at h'
    obtain ⟨rfl, rfl⟩ := h'
    refine .inr ⟨g, cap, cur, rfl, hb, hg, by omega, hcm, hcs, ?_⟩
    rw [← htake, List.take_take]
    congr 1
    omega

end Go.Proofs.Qxb6614548aFmt.Ben
