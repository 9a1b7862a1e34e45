/-
  The statement 'Rows.FnTextGivesEachURLOfATierInOrderToldSaid', proved: the row's step round the walk of Qxb6614548aFmtLaw.lean; the told card by its builder.
-/
import Derived.Test.Qxb6614548aFmtCards
import Derived.Test.Qxb6614548aFmtLaw
import Derived.ProofKit
import Derived.Deep.Matrix
import Derived.Stop.JoinedAt
import Derived.Stop.Texts
import Derived.Stop.JoinedTold
import Derived.SevenToldRow
import Derived.Below
set_option linter.unusedVariables false
namespace Go.Proofs.Qxb6614548aFmt.Fin
open Go.ChangeShapes Go.WideShapes Go.ChangeAt Go.RowKit Go.Kit
open Go.Extern.Stop Go.Stop Go.Extern
open Go.Proofs.Qxb6614548aFmt.Ben

theorem own : ownKnob Tryf.prog.godebug = none := by kernel_rfl
theorem laidOut : laidOutB Tryf.prog = true := by kernel_rfl
theorem cells25 : Tryf.prog.cellsOf 25 = 1 := by kernel_rfl
theorem cells5 : Tryf.prog.cellsOf 5 = 1 := by kernel_rfl

theorem spot_none {w : World} {a : Addr} {v : Value} (h : w.cell? a = some v) : a = ⟨a.block, a.off, none⟩ := by
  obtain ⟨b, o, s⟩ := a
  cases s with
  | none => rfl
  | some s =>
    simp only [World.cell?] at h
    split at h
    · simp at h
    · cases h

theorem add_at (b o n : Nat) : (⟨b, o, none⟩ : Addr).add n = ⟨b, o + n, none⟩ := by
  unfold Addr.add
  split
  · rename_i h; subst h; rfl
  · rfl

theorem u8_bounds {n : Int} (h : (Lit.int .u8 n).wf = true) : 0 ≤ n ∧ n ≤ 255 := by
  have := FmtText.int_bounds h
  simpa [IntKind.min, IntKind.max, IntKind.signed, IntKind.bits] using this

def blk : Option Addr → Nat
  | some a => a.block
  | none => 0
def ofs : Option Addr → Nat
  | some a => a.off
  | none => 0

/-- the law, over rows as they came in -/
theorem law_rows (F : Interp) (a : Addr) (len cap : Nat) (A : Nat → Option Addr) (L C : Nat → Nat) (Z : Nat → List Int) (W : World) (hF : F.told.answers W.tape) (hl : len ≤ cap) (hm : cap ≤ maxLen)
    (hrows : ∀ r, r < cap → W.cell? (a.add r) = some (.slice (A r) (L r) (C r)) ∧ L r ≤ C r ∧ C r ≤ maxLen ∧ (Z r).length = C r ∧ (∀ n ∈ Z r, (Lit.int .u8 n).wf = true) ∧ (A r = none → C r = 0) ∧
        ∀ a', A r = some a' → ∀ c, c < C r → W.cell? (a'.add c) = some (.int .u8 ((Z r).getD c 0))) :
    Calls Tryf.prog 6 #[.slice (some a) len cap] W fun e w' => e = .returned (.bool true) ∧ Below W.heap.size W w' := by
  have ha : 0 < len → a = ⟨a.block, a.off, none⟩ := fun h => by
    have := (hrows 0 (by omega)).1
    exact spot_none this
  refine law_any F (some a) a.block a.off len cap A L C (fun r => blk (A r)) (fun r => ofs (A r)) (fun r j => (Z r).getD j 0) W hF (by unfold maxLen at hm; omega) ?_ ?_ (fun h => congrArg some (ha h))
  · intro r hr
    obtain ⟨h1, h2, h3, _⟩ := hrows r (by omega)
    rw [ha (by omega), add_at] at h1
    exact ⟨h1, by unfold maxLen at h3; omega⟩
  · intro r hr h0
    obtain ⟨_, h2, _, h4, h5, h6, h7⟩ := hrows r (by omega)
    cases hA : A r with
    | none => have := h6 hA; omega
    | some a' =>
      have hc := h7 a' hA
      have e : a' = ⟨a'.block, a'.off, none⟩ := spot_none (hc 0 (by omega))
      refine ⟨congrArg some e, fun i hi => ⟨?_, ?_⟩, h2⟩
      · have := hc i (by omega)
        rw [e, add_at] at this
        exact this
      · have hi' : i < (Z r).length := by omega
        have e2 : (Z r).getD i 0 = (Z r)[i] := by simp [List.getD, hi']
        show 0 ≤ (Z r).getD i 0 ∧ (Z r).getD i 0 ≤ 255
        rw [e2]
        exact u8_bounds (h5 _ (List.getElem_mem hi'))

/-- the law at nil -/
theorem law_nil (F : Interp) (W : World) (hF : F.told.answers W.tape) : Calls Tryf.prog 6 #[.slice none 0 0] W fun e w' => e = .returned (.bool true) ∧ Below W.heap.size W w' :=
  law_any F none 0 0 0 0 (fun _ => none) (fun _ => 0) (fun _ => 0) (fun _ => 0) (fun _ => 0) (fun _ _ => 0) W hF (by omega) (fun r h => absurd h (Nat.not_lt_zero _)) (fun r h => absurd h (Nat.not_lt_zero _)) (fun h => absurd h (Nat.not_lt_zero _))

set_option maxRecDepth 100000 in
theorem lifted (os : Os) (started : os.Started) (H : Type) (enc : TypeId × Value → H) :
    ReturnsInTold none {} Tryf.checked os 6 .any Input.okWide ((OpenSpec.ofChange Rows.fnTextGivesEachURLOfATierInOrderSpec).preRow enc Tryf.prog Tryf.f6 [] false []) (fun F => ((OpenSpec.ofChange Rows.fnTextGivesEachURLOfATierInOrderSpec).at F).post enc Tryf.prog Tryf.f6 false true false false) (aloneAtReturn Tryf.prog) nothingAlways := by
  refine returnsInTold_of_row (C := Tryf.checked) (s := OpenSpec.ofChange Rows.fnTextGivesEachURLOfATierInOrderSpec) (by kernel_rfl) own started (by kernel_rfl) Tryf.func6
    (OpenSpec.witness_stopped (enc := enc) (C := Tryf.checked) false ⟨#[], #[.slice none 0 0], []⟩ 8 (by kernel_rfl) (by kernel_rfl) (by kernel_rfl) (by kernel_rfl)) ?_
  intro F W base args ds gs before _ hF hval0 hW _ _ _ _ _
  have hval : ∀ (j : Nat) t v, Tryf.f6.params[j]? = some t → args[j]? = some v → Value.okWide Tryf.prog W .any base t v := hval0
  have hW' := hW
  obtain ⟨p, q, hA0, hV, rfl, hfz, hnd⟩ := hW
  have hA : DataW.TrodAll enc Tryf.prog W 0 (fun _ => true) true Tryf.f6.params.toList args.toList ds p := hA0
  rw [Tryf.params6] at hA hval
  obtain ⟨v0, d0, rfl, rfl, h0⟩ := trodAll_one hA
  obtain ⟨rfl, rfl⟩ := trodVars_none hV
  obtain ⟨a0, len0, cap0, rfl⟩ := okWide_slice Tryf.underlying38 (hval 0 38 v0 rfl rfl)
  have k0 := h0
  have lt0 : ∀ x ∈ p, x.block < W.heap.size := by obtain ⟨m, hm⟩ := k0; exact DataW.trod_lt m _ _ _ hm
  clear hA0 hval0
  have hcall : Calls Tryf.prog 6 #[.slice a0 len0 cap0] W fun e w' => e = .returned (.bool true) ∧ Below W.heap.size W w' := by
    obtain ⟨fuel, hf⟩ := h0
    rcases Go.Deep.open_int_rows Tryf.underlying38 Tryf.underlying25 Tryf.underlying5 cells25 cells5 hf with ⟨hcs, _⟩ | ⟨a, len, cap, A, L, C, Z, hcs, _, hl, hm, _, hrows⟩
    · simp [Value.cells] at hcs
      obtain ⟨rfl, rfl, rfl⟩ := hcs
      exact law_nil F W hF
    · simp [Value.cells] at hcs
      obtain ⟨rfl, rfl, rfl⟩ := hcs
      exact law_rows F a _ _ A L C Z W hF hl hm (fun r hr => by
        obtain ⟨h1, h2, h3, h4, h5, h6, h7⟩ := hrows r hr
        exact ⟨h1, h2, h3, h4, h5, h6, fun a' e => (h7 a' e).2⟩)
  refine hcall.mono fun e W' ⟨he, bel⟩ => ?_
  subst he
  exact ⟨_, rfl, _, _, _, [], _, [], hW', trodAll_mk1 (shut_bool Tryf.underlying4 _), trodAll_mk1 (Below.trod laidOut (by kernel_rfl) (of_decide_eq_true (by kernel_rfl)) k0 bel lt0), rfl, bel.frame _, fun h => by cases h⟩

theorem stopKnobs : Tryf.pinned.checked.prog.stopKnobs = [] := by kernel_rfl
theorem quiet (os : Os) : Stop.quiet Tryf.pinned.checked.prog os := by
  intro k hk
  rw [stopKnobs] at hk
  cases hk

/-- The statement. -/
theorem proved : Rows.FnTextGivesEachURLOfATierInOrderToldSaid :=
  Claim7.holds_of_told_any 6 Tryf.f6 _ _ [] _ _ _ (by kernel_rfl) rfl rfl rfl (by kernel_rfl) (by kernel_rfl) rfl ⟨rfl, rfl, rfl, rfl, rfl, rfl, rfl⟩ rfl rfl (by kernel_rfl) (by kernel_rfl) Tryf.func6 (by kernel_rfl)
    (of_decide_eq_true (by kernel_rfl)) (of_decide_eq_true (by kernel_rfl)) (by kernel_rfl) rfl stopKnobs.symm (by kernel_rfl)
    (by kernel_rfl) (by kernel_rfl) (by kernel_rfl) (by kernel_rfl) (by kernel_rfl) (by kernel_rfl) (by kernel_rfl) (by kernel_rfl) (by kernel_rfl) rfl (by kernel_rfl) rfl rfl
    rfl rfl
    rfl (by kernel_rfl) (by kernel_rfl) (by kernel_rfl) (by decide) (by kernel_rfl)
    (OpenClaim.moreEntering_of (by kernel_rfl) (by kernel_rfl) (by kernel_rfl) (by kernel_rfl) (by kernel_rfl) (by kernel_rfl) (by kernel_rfl) (by kernel_rfl) (by kernel_rfl) (by kernel_rfl))
    ⟨_, WideRow.started_initial, quiet _⟩
    (fun os started _ H enc _ => lifted os started H enc)

end Go.Proofs.Qxb6614548aFmt.Fin
