/-
  What the walks of texts and readTrackers carry through their loops.
-/
import Derived.Test.Qxb6614548aFmtIter
import Derived.Test.Qxb6614548aFmtDelWalks2
import Derived.Test.Qxb6614548aFmtFmtTexts
import Derived.Maps.AppendAt
set_option linter.unusedVariables false
namespace Go.Proofs.Qxb6614548aFmt.Ben
open Go.RowKit Go.Shelf Go.Extern.Stop Go.Stop Go.Extern

attribute [local go_sem] Oper.semAt_some

/-- the texts of the byte strings among the spans -/
def sx {f : Nat → Int} {n : Nat} (xs : List (Spn f n)) : List ByteArray := (xs.filter fun x => digB (f x.1.1)).map fun x => tx f x.1.1 x.1.2
/-- how many of the spans are no byte strings -/
def wn {f : Nat → Int} {n : Nat} (xs : List (Spn f n)) : Nat := (xs.filter fun x => !digB (f x.1.1)).length

theorem sx_snoc_t {f : Nat → Int} {n : Nat} (pre : List (Spn f n)) (x : Spn f n) (h : digB (f x.1.1) = true) : sx (pre ++ [x]) = sx pre ++ [tx f x.1.1 x.1.2] ∧ wn (pre ++ [x]) = wn pre := by
  simp [sx, wn, List.filter_append, h]
theorem sx_snoc_f {f : Nat → Int} {n : Nat} (pre : List (Spn f n)) (x : Spn f n) (h : digB (f x.1.1) = false) : sx (pre ++ [x]) = sx pre ∧ wn (pre ++ [x]) = wn pre + 1 := by
  simp [sx, wn, List.filter_append, h]
theorem sx_len {f : Nat → Int} {n : Nat} (pre : List (Spn f n)) : (sx pre).length ≤ pre.length ∧ wn pre ≤ pre.length := by
  simp only [sx, wn, List.length_map]
  exact ⟨List.length_filter_le _ _, List.length_filter_le _ _⟩

/-- what the variable err holds when the spans pre have come -/
def ErrOk {f : Nat → Int} {n : Nat} (n₀ B : Nat) (pre : List (Spn f n)) (W : World) : Prop :=
  (wn pre = 0 ∧ Boxed W B 45 .nilIface) ∨ (0 < wn pre ∧ ∃ g s, Boxed W B 45 (.iface 55 (.pointer (some ⟨g, 0, none⟩))) ∧ Boxed W g 57 (.string s) ∧ s.size ≤ 1000 ∧ n₀ ≤ g)

theorem errOk_own {f : Nat → Int} {n : Nat} (n₀ B : Nat) : Own (fun (pre : List (Spn f n)) W => ErrOk n₀ B pre W) := by
  intro s X Y row hs hg hr
  rcases hs with ⟨h1, h2⟩ | ⟨h1, g, t, h2, h3, h4, h5⟩
  · exact .inl ⟨h1, boxed_own B 45 (fun (_ : Unit) => Value.nilIface) () X Y row h2 hg hr⟩
  · exact .inr ⟨h1, g, t, boxed_own B 45 (fun (_ : Unit) => Value.iface 55 (.pointer (some ⟨g, 0, none⟩))) () X Y row h2 hg hr, boxed_own g 57 (fun (_ : Unit) => Value.string t) () X Y row h3 hg hr, h4, h5⟩

theorem boxed_below {W W' : World} {B : Nat} {t : TypeId} {v : Value} (h : Boxed W B t v) (hb : Below W.heap.size W W') : Boxed W' B t v := (hb.block B h.lt).trans h
theorem grown_of_below {W W' : World} (hb : Below W.heap.size W W') (row : Option Nat) : W.grownBy W' row := ⟨hb.os, hb.tape, hb.output, hb.size, fun k hk _ => hb.block k hk⟩
theorem row_below {W W' : World} {base : Nat} {e : TypeId} {size k : Nat} {v : Value} {xs : List Value} (h : W.ownsRow base e size v k xs) (hb : Below W.heap.size W W') : W'.ownsRow base e size v k xs :=
  h.kept (grown_of_below hb none) (by by_cases h : v.ownBlock = none; exact .inl h; exact .inr h)
theorem errOk_below {f : Nat → Int} {n : Nat} {n₀ B : Nat} {pre : List (Spn f n)} {W W' : World} (h : ErrOk n₀ B pre W) (hb : Below W.heap.size W W') : ErrOk n₀ B pre W' :=
  errOk_own n₀ B pre W W' none h (grown_of_below hb none) (fun r e => by cases e)
theorem boxed_ne {W : World} {B B' : Nat} {t t' : TypeId} {v v' : Value} (h : Boxed W B t v) (h' : Boxed W B' t' v') (hne : t ≠ t') : B ≠ B' := by
  rintro rfl
  have := (show W.heap[B]? = _ from h).symm.trans h'
  simp at this
  exact hne this.2
theorem errOk_other {f : Nat → Int} {n : Nat} {n₀ B : Nat} {pre : List (Spn f n)} {W : World} (h : ErrOk n₀ B pre W) {B' : Nat} {t' : TypeId} {v' : Value} (h' : Boxed W B' t' v') (h1 : t' ≠ 45) (h2 : t' ≠ 57) (u : Value) : ErrOk n₀ B pre (W.setCell ⟨B', 0, none⟩ u) := by
  rcases h with ⟨a, b⟩ | ⟨a, g, s, b, c, d, e⟩
  · exact .inl ⟨a, b.other (boxed_ne b h' h1.symm) _⟩
  · exact .inr ⟨a, g, s, b.other (boxed_ne b h' h1.symm) _, c.other (boxed_ne c h' h2.symm) _, d, e⟩
theorem row_other {W : World} {base : Nat} {e : TypeId} {size k : Nat} {v : Value} {xs : List Value} (h : W.ownsRow base e size v k xs) {B : Nat} {t : TypeId} {u : Value} (hB : Boxed W B t u) (hne : t ≠ e) (u' : Value) : (W.setCell ⟨B, 0, none⟩ u').ownsRow base e size v k xs :=
  h.kept (grownBy_setCell' W B u') (.inr (hB.not_row hne h).symm)

/-- what a step of the loop's body keeps: whatever is no cells; the two blocks that the iterator reads; whatever lay when the call began -/
structure Stp (b Bn n₀ : Nat) (W W' : World) : Prop where
  k : KeepsOthers W W'
  t : Two b Bn W W'
  l : Below n₀ W W'

theorem Stp.refl (b Bn n₀ : Nat) (W : World) : Stp b Bn n₀ W W := ⟨KeepsOthers.refl _, Two.refl _ _ _, Below.refl _ _⟩
theorem Stp.trans {b Bn n₀ : Nat} {A B C : World} (h : Stp b Bn n₀ A B) (k : Stp b Bn n₀ B C) : Stp b Bn n₀ A C := ⟨h.k.trans k.k, two_t h.t k.t, h.l.trans k.l⟩
theorem Stp.set {b Bn n₀ : Nat} {W W' : World} (h : Stp b Bn n₀ W W') {B : Nat} (hB : n₀ ≤ B) (hne : Bn ≠ B) (hb : b < n₀) (v : Value) : Stp b Bn n₀ W (W'.setCell ⟨B, 0, none⟩ v) :=
  h.trans ⟨KeepsOthers.setCell _ _ _, ⟨⟨Below.heap_setCell _ _ _ b (fun e => by simp at e; omega), Below.heap_setCell _ _ _ Bn (fun e => hne (by simpa using e))⟩, by simp [World.setCell]⟩, (Below.refl _ _).setCell (p := ⟨B, 0, none⟩) hB _⟩
theorem keepsOthers_below {W W' : World} (hb : Below W.heap.size W W') : KeepsOthers W W' := KeepsOthers.of_grownBy (grown_of_below hb none) (fun j o e _ => by cases e)
theorem Stp.call {b Bn n₀ : Nat} {W W' W'' : World} (h : Stp b Bn n₀ W W') (hb : Below W'.heap.size W' W'') (h1 : b < W.heap.size) (h2 : Bn < W.heap.size) (h3 : n₀ ≤ W.heap.size) : Stp b Bn n₀ W W'' :=
  have hs := h.t.2
  h.trans ⟨keepsOthers_below hb, Two.of_below hb (by omega) (by omega), hb.mono (by omega)⟩
theorem Stp.alloc {b Bn n₀ : Nat} {W W' : World} (h : Stp b Bn n₀ W W') (h1 : b < W.heap.size) (h2 : Bn < W.heap.size) (h3 : n₀ ≤ W.heap.size) (o : Obj) : Stp b Bn n₀ W (W'.alloc o) :=
  h.call ((Below.refl _ _).alloc (Nat.le_refl _) _) h1 h2 h3
theorem Stp.drew {b Bn n₀ : Nat} {W W' : World} (h : Stp b Bn n₀ W W') : Stp b Bn n₀ W W'.drew := ⟨h.k.trans (KeepsOthers.drew _), h.t, h.l.drew⟩
theorem Stp.grown {b Bn n₀ : Nat} {W W' W'' : World} (h : Stp b Bn n₀ W W') {base : Nat} {e : TypeId} {size k : Nat} {v : Value} {xs : List Value} (hr : W'.ownsRow base e size v k xs) (hg : W'.grownBy W'' v.ownBlock) (hb : n₀ ≤ base) {t : TypeId} {u : Value} (hB : Boxed W' Bn t u) (hne : t ≠ e) (h1 : b < n₀) (h3 : n₀ ≤ W'.heap.size) : Stp b Bn n₀ W W'' := by
  have hlt : ∀ r, v.ownBlock = some r → n₀ ≤ r := fun r er => by have := (hr.lt r er).1; omega
  refine h.trans ⟨KeepsOthers.of_grownBy hg fun j o ej hj => ?_, ⟨⟨hg.block b (by omega) (fun e' => by have := hlt b e'.symm; omega), hg.block Bn hB.lt (hB.not_row hne hr)⟩, hg.size⟩, (Below.refl _ _).grown hg h3 (fun r er => hlt r er)⟩
  rcases hr.2 with ⟨rfl, _⟩ | ⟨g, cap, cur, rfl, _, hgb, _⟩
  · simp [Value.ownBlock] at ej
  · obtain rfl : g = j := by simpa [Value.ownBlock] using ej
    rw [hgb] at hj; cases hj; rfl

theorem str_down {f : Nat → Int} {p s q : Nat} (h : Str f p s q) : Str (fun j => f (p + j)) 0 (s - p) (q - p) := by
  obtain ⟨k, hk, hd, h58, rfl, rfl⟩ := h
  have e : dv f (0 + p) k = dv (fun j => f (p + j)) 0 k := dv_congr k (fun j _ => by simp)
  rw [Nat.zero_add] at e
  refine ⟨k, hk, fun j hj => by simpa using hd j hj, by simpa using h58, by omega, ?_⟩
  rw [← e]
  omega

theorem tx_down {f : Nat → Int} {p q : Nat} (h : p < q) : tx f p q = tx (fun j => f (p + j)) 0 (q - p) := by
  have := tx_congr (f := fun j => f (p + j)) (g := f) (p := 0) (q := q - p) (t := p) (by omega) (fun j _ _ => by rw [Nat.add_comm])
  rw [Nat.zero_add, show q - p + p = q from by omega] at this
  exact this

theorem info9 : (Tryf.prog.info? 9).map (fun i => (i.zero, i.size, i.bytes)) = some (some (.string ByteArray.empty), 1, 16) := by kernel_rfl

theorem link_len {f : Nat → Int} {n : Nat} : ∀ {l : List (Spn f n)} {p m : Nat}, Link l p m → l.length + p ≤ m
  | [], _, _, h => by have : _ = _ := h; simp; omega
  | x :: l, p, m, h => by have := x.lt; have := link_len h.2; have := h.1; simp; omega

theorem errOk_congr {f : Nat → Int} {n : Nat} {n₀ B : Nat} {pre pre' : List (Spn f n)} {W : World} (h : ErrOk n₀ B pre W) (hw : wn pre' = wn pre) : ErrOk n₀ B pre' W := by
  unfold ErrOk at h ⊢
  rw [hw]
  exact h
theorem errOk_row {f : Nat → Int} {n : Nat} {n₀ B : Nat} {pre : List (Spn f n)} {W W' : World} (h : ErrOk n₀ B pre W) {base size k : Nat} {v : Value} {xs : List Value} (hr : W.ownsRow base 9 size v k xs) (hg : W.grownBy W' v.ownBlock) : ErrOk n₀ B pre W' := by
  rcases h with ⟨a, b⟩ | ⟨a, g, s, b, c, d, e⟩
  · exact .inl ⟨a, b.kept hg (b.not_row (by decide) hr)⟩
  · exact .inr ⟨a, g, s, b.kept hg (b.not_row (by decide) hr), c.kept hg (c.not_row (by decide) hr), d, e⟩

/-- fmt.Errorf at the first format, its text told: what the rest of the walk needs of it -/
theorem item_any (F : Interp) (v : Nat) (i k : Int) (w : World) (hF : F.told.answers w.tape) (hk : k = 1 ∨ k = 3 ∨ k = 4) (h0 : 0 ≤ i) (h1 : i ≤ 2097152)
    (hc0 : w.cell? ⟨v, 0, none⟩ = some (.iface 3 (.int .i64 i))) (hc1 : w.cell? ⟨v, 1, none⟩ = some (.iface 60 (.int .u8 k))) :
    Calls Tryf.prog 33 #[.string ⟨#[105, 116, 101, 109, 32, 37, 100, 58, 32, 102, 111, 117, 110, 100, 32, 37, 115, 44, 32, 119, 97, 110, 116, 32, 98, 121, 116, 101, 32, 115, 116, 114, 105, 110, 103]⟩, .slice (some ⟨v, 0, none⟩) 2 2] w fun e w' => e = .returned (.iface 55 (.pointer (some ⟨w.heap.size, 0, none⟩))) ∧
      (∃ s, Boxed w' w.heap.size 57 (.string s) ∧ s.size ≤ 1000) ∧ Below w.heap.size w w' := by
  refine (Fm.errorf_item F.told v i k w hF hk hc0 hc1).mono ?_
  rintro e w' ⟨rfl, rfl⟩
  exact ⟨rfl, ⟨_, Boxed.new w 57 _, Fm.sizeA F i _ h0 h1 (Fm.kindName_len k)⟩, ((Below.refl _ w).alloc (Nat.le_refl _) _).drew⟩

/-- fmt.Errorf at the second format, its text told -/
theorem tier_any (F : Interp) (v : Nat) (i : Int) (g : Nat) (s : ByteArray) (w : World) (hF : F.told.answers w.tape) (h0 : 0 ≤ i) (h1 : i ≤ 2097152) (hs1 : s.size ≤ 1000)
    (hc0 : w.cell? ⟨v, 0, none⟩ = some (.iface 3 (.int .i64 i))) (hc1 : w.cell? ⟨v, 1, none⟩ = some (.iface 55 (.pointer (some ⟨g, 0, none⟩)))) (hs : w.cell? ⟨g, 0, none⟩ = some (.string s)) :
    Calls Tryf.prog 33 #[.string ⟨#[97, 110, 110, 111, 117, 110, 99, 101, 45, 108, 105, 115, 116, 58, 32, 116, 105, 101, 114, 32, 37, 100, 58, 32, 37, 119]⟩, .slice (some ⟨v, 0, none⟩) 2 2] w fun e w' => e = .returned (.iface 77 (.pointer (some ⟨w.heap.size, 0, none⟩))) ∧
      (∃ s u, w'.heap[w.heap.size]? = some (.cells #[.string s, u] 102 (0, 0)) ∧ s.size ≤ 10000) ∧ Below w.heap.size w w' := by
  refine (Fm.errorf_tier F.told v i ⟨g, 0, none⟩ s w hF hc0 hc1 hs).mono ?_
  rintro e w' ⟨rfl, rfl⟩
  refine ⟨rfl, ⟨_, .iface 55 (.pointer (some ⟨g, 0, none⟩)), ?_, Fm.sizeB F i s.data.toList h0 h1 (by rw [← Fm.size_data]; exact hs1)⟩, ((Below.refl _ w).alloc (Nat.le_refl _) _).drew⟩
  exact World.alloc_heap_new w _

end Go.Proofs.Qxb6614548aFmt.Ben
