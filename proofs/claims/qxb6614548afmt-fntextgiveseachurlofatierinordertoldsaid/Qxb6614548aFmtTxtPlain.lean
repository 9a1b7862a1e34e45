/-
  The text of a bencoded value, plainly: what stands behind the colon of a byte string; nothing for any other value.
-/
import Derived.Test.Qxb6614548aFmtBenPlain
import Derived.Laws.BytesArg
set_option linter.unusedVariables false
namespace Go.Proofs.Qxb6614548aFmt.Ben

/-- the m bytes from s on, as a string -/
def win (f : Nat → Int) (s m : Nat) : ByteArray := strOfNums ((List.range m).map fun j => f (s + j))
theorem win_size (f : Nat → Int) (s m : Nat) : (win f s m).size = m := by unfold win; rw [strOfNums_size]; simp
theorem win_congr {f g : Nat → Int} {s m t : Nat} (h : ∀ j, j < m → g (s + t + j) = f (s + j)) : win g (s + t) m = win f s m := by
  unfold win
  congr 1
  apply List.map_congr_left
  intro j hj
  exact h j (by simpa using hj)

/-- how far off the first colon is, looked for in m places -/
def col (f : Nat → Int) : Nat → Nat → Nat
  | _, 0 => 0
  | p, m + 1 => if f p = 58 then 0 else 1 + col f (p + 1) m

theorem col_at {f : Nat → Int} : ∀ {m p k : Nat}, k < m → f (p + k) = 58 → (∀ j, j < k → f (p + j) ≠ 58) → col f p m = k
  | 0, _, _, hk, _, _ => absurd hk (Nat.not_lt_zero _)
  | m + 1, p, 0, _, h, _ => by simp [col]; simpa using h
  | m + 1, p, k + 1, hk, h, hn => by
    have h0 : f p ≠ 58 := by simpa using hn 0 (by omega)
    have ih := col_at (m := m) (p := p + 1) (k := k) (by omega) (by rw [← h]; congr 1; omega) (fun j hj => by have := hn (j + 1) (by omega); rwa [show p + 1 + j = p + (j + 1) from by omega])
    simp only [col]
    rw [if_neg h0, ih]
    omega

theorem col_congr {f g : Nat → Int} {t : Nat} : ∀ {m p : Nat}, (∀ j, j < m → g (p + t + j) = f (p + j)) → col g (p + t) m = col f p m
  | 0, _, _ => rfl
  | m + 1, p, h => by
    have h0 : g (p + t) = f p := by simpa using h 0 (by omega)
    have ih := col_congr (f := f) (g := g) (t := t) (m := m) (p := p + 1) (fun j hj => by
      have := h (j + 1) (by omega)
      rw [show p + t + (j + 1) = p + 1 + t + j from by omega, show p + (j + 1) = p + 1 + j from by omega] at this
      exact this)
    simp only [col]
    rw [h0, show p + t + 1 = p + 1 + t from by omega, ih]

/-- the text of the value from p to q -/
def tx (f : Nat → Int) (p q : Nat) : ByteArray := if digB (f p) = true then win f (p + col f p (q - p) + 1) (q - (p + col f p (q - p) + 1)) else ByteArray.empty

theorem tx_str {f : Nat → Int} {p s q : Nat} (h : Str f p s q) : tx f p q = win f s (q - s) := by
  obtain ⟨k, hk, hd, h58, rfl, rfl⟩ := h
  have e : col f p (p + k + 1 + dv f p k - p) = k := col_at (by omega) h58 (fun j hj => by have := hd j hj; unfold Dig at this; omega)
  unfold tx
  rw [if_pos (digB_true.2 (by have := hd 0 hk; simpa using this)), e]

theorem tx_non {f : Nat → Int} {p q : Nat} (h : digB (f p) = false) : tx f p q = ByteArray.empty := by
  unfold tx
  rw [h]
  rfl

theorem tx_congr {f g : Nat → Int} {p q t : Nat} (hpq : p < q) (h : ∀ j, p ≤ j → j < q → g (j + t) = f j) : tx g (p + t) (q + t) = tx f p q := by
  have h' : ∀ j, j < q - p → g (p + t + j) = f (p + j) := fun j hj => by
    have := h (p + j) (by omega) (by omega)
    rwa [show p + j + t = p + t + j from by omega] at this
  have h0 : g (p + t) = f p := by simpa using h' 0 (by omega)
  have ec : col g (p + t) (q + t - (p + t)) = col f p (q - p) := by
    rw [show q + t - (p + t) = q - p from by omega]
    exact col_congr h'
  unfold tx
  rw [h0, ec]
  split
  · generalize col f p (q - p) = c
    rw [show p + t + c + 1 = p + c + 1 + t from by omega, show q + t - (p + c + 1 + t) = q - (p + c + 1) from by omega]
    refine win_congr (fun j hj => ?_)
    have := h (p + c + 1 + j) (by omega) (by omega)
    rwa [show p + c + 1 + j + t = p + c + 1 + t + j from by omega] at this
  · rfl

theorem tx_size {f : Nat → Int} {p q : Nat} : (tx f p q).size ≤ q - p := by
  unfold tx
  split
  · rw [win_size]; omega
  · exact Nat.zero_le _

end Go.Proofs.Qxb6614548aFmt.Ben
