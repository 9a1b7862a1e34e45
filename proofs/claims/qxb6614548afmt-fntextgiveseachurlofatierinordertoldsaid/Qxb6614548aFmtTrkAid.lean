/-
  What the walk of readTrackers carries through its loop.
-/
import Derived.Test.Qxb6614548aFmtTextsAid
import Derived.Laws.Cover3
set_option linter.unusedVariables false
namespace Go.Proofs.Qxb6614548aFmt.Ben
open Go.RowKit Go.Shelf Go.Extern.Stop Go.Stop Go.Extern

/-- whatever is cells in X lies in W as it lay -/
def Kc (X W : World) : Prop := ∀ (k : Nat) (cs : Array Value) (t : TypeId) (fr : Nat × Nat), X.heap[k]? = some (Obj.cells cs t fr) → W.heap[k]? = some (Obj.cells cs t fr)
theorem Kc.refl (X : World) : Kc X X := fun _ _ _ _ h => h
theorem kc_own {β : Type} (P : β → World → Prop) : Own (fun s W => ∃ X, P s X ∧ Kc X W) := by
  rintro s X Y row ⟨Z, hP, hk⟩ hg hr
  refine ⟨Z, hP, fun k cs t fr h => ?_⟩
  have h1 := hk k cs t fr h
  have hlt : k < X.heap.size := by
    rcases Nat.lt_or_ge k X.heap.size with h' | h'
    · exact h'
    · rw [Array.getElem?_eq_none h'] at h1; cases h1
  refine (hg.block k hlt (fun e => ?_)).trans h1
  obtain ⟨o, ho, hc⟩ := hr k e.symm
  rw [h1] at ho; cases ho; cases hc
theorem Kc.boxed {X W : World} (h : Kc X W) {B : Nat} {t : TypeId} {v : Value} (hb : Boxed X B t v) : Boxed W B t v := h _ _ _ _ hb
theorem Kc.row {X W : World} (h : Kc X W) {base : Nat} {e : TypeId} {size k : Nat} {v : Value} {xs : List Value} (hr : X.ownsRow base e size v k xs) : W.ownsRow base e size v k xs := by
  refine ⟨hr.1, ?_⟩
  rcases hr.2 with h0 | ⟨g, cap, cur, h1, h2, h3, h4⟩
  · exact .inl h0
  · exact .inr ⟨g, cap, cur, h1, h2, h _ _ _ _ h3, h4⟩
theorem Kc.trans {X Y Z : World} (h : Kc X Y) (k : Kc Y Z) : Kc X Z := fun a b c d e => k a b c d (h a b c d e)
theorem kc_below {X W : World} (h : Below X.heap.size X W) : Kc X W := fun k cs t fr e => by
  have hlt : k < X.heap.size := by
    rcases Nat.lt_or_ge k X.heap.size with h' | h'
    · exact h'
    · rw [Array.getElem?_eq_none h'] at e; cases e
  exact (h.block k hlt).trans e
theorem kc_put {W : World} {l : Nat} {o : Obj} (o' : Obj) (hl : W.heap[l]? = some o) (ho : o.isCells = false) : Kc W (W.drew.putObj l o') := fun k cs t fr e =>
  (World.putObj_heap_other (fun h => by subst h; rw [hl] at e; cases e; cases ho)).trans e

/-- the value of tiers, ks the strings of the one tier -/
def TierOk (n₀ : Nat) (ks : List ByteArray) (T : Value) (W : World) : Prop :=
  (ks = [] ∧ T = .slice none 0 0) ∨ (0 < ks.length ∧ ∃ v2, W.ownsRow n₀ 28 1 T 1 [v2] ∧ W.ownsRow n₀ 9 1 v2 ks.length (strs ks))
/-- the value of err, k the count of values that are no strings -/
def ErrT (k : Nat) (er : Value) (W : World) : Prop :=
  (k = 0 ∧ er = .nilIface) ∨ (0 < k ∧ ∃ g s u, er = .iface 77 (.pointer (some ⟨g, 0, none⟩)) ∧ W.heap[g]? = some (Obj.cells #[.string s, u] 102 (0, 0)) ∧ s.size ≤ 10000)
theorem TierOk.kc {n₀ : Nat} {ks : List ByteArray} {T : Value} {X W : World} (h : TierOk n₀ ks T X) (k : Kc X W) : TierOk n₀ ks T W := by
  rcases h with h | ⟨h, v, h1, h2⟩
  · exact .inl h
  · exact .inr ⟨h, v, k.row h1, k.row h2⟩
theorem ErrT.kc {j : Nat} {er : Value} {X W : World} (h : ErrT j er X) (k : Kc X W) : ErrT j er W := by
  rcases h with h | ⟨h, g, s, u, h1, h2, h3⟩
  · exact .inl h
  · exact .inr ⟨h, g, s, u, h1, k _ _ _ _ h2, h3⟩

theorem info28 : (Tryf.prog.info? 28).map (fun i => (i.zero, i.size, i.bytes)) = some (some (.slice none 0 0), 1, 24) := by kernel_rfl

theorem row_base {W : World} {base base' : Nat} {e : TypeId} {size k : Nat} {v : Value} {xs : List Value} (h : W.ownsRow base e size v k xs) (hb : base' ≤ base) : W.ownsRow base' e size v k xs := by
  refine ⟨h.1, ?_⟩
  rcases h.2 with h0 | ⟨g, cap, cur, h1, h2, h3⟩
  · exact .inl h0
  · exact .inr ⟨g, cap, cur, h1, by omega, h3⟩
theorem ErrT.grown {j : Nat} {er : Value} {X Y : World} (h : ErrT j er X) {base size k : Nat} {v : Value} {xs : List Value} (hr : X.ownsRow base 9 size v k xs) (hg : X.grownBy Y v.ownBlock) : ErrT j er Y := by
  rcases h with h | ⟨h, g, s, u, h1, h2, h3⟩
  · exact .inl h
  · refine .inr ⟨h, g, s, u, h1, (hg.block g ?_ ?_).trans h2, h3⟩
    · rcases Nat.lt_or_ge g X.heap.size with h' | h'
      · exact h'
      · rw [Array.getElem?_eq_none h'] at h2; cases h2
    · rcases hr.2 with ⟨rfl, _⟩ | ⟨g', cap, cur, rfl, _, hgb, _⟩
      · simp [Value.ownBlock]
      · intro e
        have e' : g = g' := by simpa [Value.ownBlock] using e
        rw [e', hgb] at h2
        cases h2
theorem ErrT.set {j : Nat} {er : Value} {X : World} (h : ErrT j er X) {B : Nat} {t : TypeId} {v : Value} (hB : Boxed X B t v) (ht : t ≠ 102) (u : Value) : ErrT j er (X.setCell ⟨B, 0, none⟩ u) := by
  rcases h with h | ⟨h, g, s, u', h1, h2, h3⟩
  · exact .inl h
  · refine .inr ⟨h, g, s, u', h1, (Below.heap_setCell _ _ _ g ?_).trans h2, h3⟩
    intro e
    have e' : g = B := by simpa using e
    rw [e', show X.heap[B]? = _ from hB] at h2
    cases h2

theorem below_none {X Y : World} (hg : X.grownBy Y none) : Below X.heap.size X Y := (Below.refl _ X).grown hg (Nat.le_refl _) (fun k e => by cases e)

/-- what lies in the boxes before the round, and behind it -/
def Pst (B1 B2 B6 B7 B8 Bi N0 b o n c n1 c1 : Nat) (k : Nat) (ks : List ByteArray) (pre : List Unit) (X : World) : Prop :=
  Boxed X B1 50 (.slice (some ⟨b, o, none⟩) n c) ∧ Boxed X Bi 50 (.slice (some ⟨b, o + 17, none⟩) n1 c1) ∧
  ((pre = [] ∧ Boxed X B2 27 (.slice none 0 0) ∧ Boxed X B6 45 .nilIface ∧ Boxed X B7 3 (.int .i64 0) ∧ Boxed X B8 3 (.int .i64 0)) ∨
   (pre ≠ [] ∧ ∃ T er, Boxed X B2 27 T ∧ TierOk N0 ks T X ∧ Boxed X B6 45 er ∧ ErrT k er X ∧ Boxed X B7 3 (.int .i64 k)))

end Go.Proofs.Qxb6614548aFmt.Ben
