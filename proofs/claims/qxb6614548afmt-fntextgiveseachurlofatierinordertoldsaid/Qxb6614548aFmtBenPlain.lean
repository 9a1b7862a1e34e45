/-
  Plain facts on bencoded values, over a function 'f' that gives the byte at each place. No Go text here.
-/
set_option linter.unusedVariables false
namespace Go.Proofs.Qxb6614548aFmt.Ben

/-- a decimal digit -/
def Dig (x : Int) : Prop := 48 ≤ x ∧ x ≤ 57
def digB (x : Int) : Bool := decide (48 ≤ x) && decide (x ≤ 57)
theorem digB_true {x : Int} : digB x = true ↔ Dig x := by simp [digB, Dig]
theorem digB_false {x : Int} : digB x = false ↔ ¬ Dig x := by
  rw [← digB_true]; simp

/-- the number that k digits from p on spell -/
def dv (f : Nat → Int) (p : Nat) : Nat → Nat
  | 0 => 0
  | k + 1 => dv f p k * 10 + (f (p + k) - 48).toNat

theorem dv_mono (f : Nat → Int) (p : Nat) : ∀ (k j : Nat), dv f p k ≤ dv f p (k + j)
  | k, 0 => Nat.le_refl _
  | k, j + 1 => by
    have h := dv_mono f p k j
    have e : dv f p (k + (j + 1)) = dv f p (k + j) * 10 + (f (p + (k + j)) - 48).toNat := rfl
    omega

theorem dv_le (f : Nat → Int) (p : Nat) {k m : Nat} (h : k ≤ m) : dv f p k ≤ dv f p m := by
  have := dv_mono f p k (m - k)
  rwa [Nat.add_sub_cancel' h] at this

theorem dv_congr {f g : Nat → Int} {p t : Nat} : ∀ (k : Nat), (∀ j, j < k → g (p + t + j) = f (p + j)) → dv g (p + t) k = dv f p k
  | 0, _ => rfl
  | k + 1, h => by
    have ih := dv_congr k (fun j hj => h j (by omega))
    simp only [dv]
    rw [ih, h k (by omega)]

/-- a byte string at p: k digits, a colon, then as many bytes as they say: the bytes from s to q -/
def Str (f : Nat → Int) (p s q : Nat) : Prop :=
  ∃ k, 0 < k ∧ (∀ j, j < k → Dig (f (p + j))) ∧ f (p + k) = 58 ∧ s = p + k + 1 ∧ q = s + dv f p k

/-- an integer at p: it opens with 'i', and the first 'e' behind it is its end -/
def IntAt (f : Nat → Int) (p q : Nat) : Prop := f p = 105 ∧ p + 1 < q ∧ f (q - 1) = 101 ∧ ∀ j, p < j → j < q - 1 → f j ≠ 101

/-- the spans of the list follow one another from p to m, each a V -/
def Chain (V : Nat → Nat → Prop) : List (Nat × Nat) → Nat → Nat → Prop
  | [], p, m => p = m
  | x :: l, p, m => x.1 = p ∧ V x.1 x.2 ∧ Chain V l x.2 m

/-- a bencoded value from p to q, at most d deep (a dictionary is read as a list of its keys and values) -/
def Val : Nat → (Nat → Int) → Nat → Nat → Prop
  | 0, _, _, _ => False
  | d + 1, f, p, q => (∃ s, Str f p s q) ∨ IntAt f p q ∨ ((f p = 108 ∨ f p = 100) ∧ ∃ l m, Chain (Val d f) l (p + 1) m ∧ f m = 101 ∧ q = m + 1)

theorem Str.lt {f : Nat → Int} {p s q : Nat} (h : Str f p s q) : p + 1 < s ∧ s ≤ q := by
  obtain ⟨k, hk, _, _, hs, hq⟩ := h
  omega

theorem chain_le {V : Nat → Nat → Prop} (hV : ∀ p q, V p q → p < q) : ∀ {l : List (Nat × Nat)} {p m : Nat}, Chain V l p m → p ≤ m
  | [], _, _, h => Nat.le_of_eq h
  | x :: l, p, m, h => by
    obtain ⟨rfl, h1, h2⟩ := h
    have := hV _ _ h1
    have := chain_le hV h2
    omega

theorem val_lt : ∀ {d : Nat} {f : Nat → Int} {p q : Nat}, Val d f p q → p < q
  | 0, _, _, _, h => h.elim
  | d + 1, f, p, q, h => by
    rcases h with ⟨s, h⟩ | h | ⟨_, l, m, h, _, rfl⟩
    · have := h.lt; omega
    · have := h.2.1; omega
    · have := chain_le (fun p q => val_lt (d := d) (f := f)) h; omega

theorem chain_mono {V W : Nat → Nat → Prop} (hV : ∀ p q, V p q → W p q) : ∀ {l : List (Nat × Nat)} {p m : Nat}, Chain V l p m → Chain W l p m
  | [], _, _, h => h
  | x :: l, _, _, h => ⟨h.1, hV _ _ h.2.1, chain_mono hV h.2.2⟩

theorem val_succ : ∀ {d : Nat} {f : Nat → Int} {p q : Nat}, Val d f p q → Val (d + 1) f p q
  | 0, _, _, _, h => h.elim
  | d + 1, f, p, q, h => by
    rcases h with h | h | ⟨h0, l, m, h1, h2, h3⟩
    · exact .inl h
    · exact .inr (.inl h)
    · exact .inr (.inr ⟨h0, l, m, chain_mono (fun a b => val_succ) h1, h2, h3⟩)

theorem val_mono {d d' : Nat} {f : Nat → Int} {p q : Nat} (h : Val d f p q) (hd : d ≤ d') : Val d' f p q := by
  obtain ⟨j, rfl⟩ := Nat.le.dest hd
  clear hd
  induction j with
  | zero => exact h
  | succ j ih => exact val_succ ih

theorem chain_snoc {V : Nat → Nat → Prop} : ∀ {l : List (Nat × Nat)} {p m r : Nat}, Chain V l p m → V m r → Chain V (l ++ [(m, r)]) p r
  | [], p, m, r, h, hv => by
    obtain rfl : p = m := h
    exact ⟨rfl, hv, rfl⟩
  | x :: l, p, m, r, h, hv => ⟨h.1, h.2.1, chain_snoc h.2.2 hv⟩

theorem chain_append {V : Nat → Nat → Prop} : ∀ {l l' : List (Nat × Nat)} {p m r : Nat}, Chain V l p m → Chain V l' m r → Chain V (l ++ l') p r
  | [], _, _, _, _, h, h' => by
    obtain rfl := h
    exact h'
  | x :: l, _, _, _, _, h, h' => ⟨h.1, h.2.1, chain_append h.2.2 h'⟩

/-- a value moved: whatever function gives the same bytes t places further on has the value there -/
theorem str_shift {f g : Nat → Int} {p s q t : Nat} (h : Str f p s q) (hg : ∀ j, p ≤ j → j < q → g (j + t) = f j) : Str g (p + t) (s + t) (q + t) := by
  obtain ⟨k, hk, hd, hc, rfl, rfl⟩ := h
  have e : ∀ j, j ≤ k → g (p + t + j) = f (p + j) := fun j hj => by
    have := hg (p + j) (by omega) (by omega)
    rwa [show p + j + t = p + t + j from by omega] at this
  refine ⟨k, hk, fun j hj => by rw [e j (by omega)]; exact hd j hj, by rw [e k (Nat.le_refl _)]; exact hc, by omega, ?_⟩
  rw [dv_congr k (fun j hj => e j (by omega))]
  omega

theorem int_shift {f g : Nat → Int} {p q t : Nat} (h : IntAt f p q) (hg : ∀ j, p ≤ j → j < q → g (j + t) = f j) : IntAt g (p + t) (q + t) := by
  obtain ⟨h1, h2, h3, h4⟩ := h
  refine ⟨by rw [hg p (Nat.le_refl _) (by omega)]; exact h1, by omega, ?_, fun j hj hq => ?_⟩
  · have := hg (q - 1) (by omega) (by omega)
    rw [show q - 1 + t = q + t - 1 from by omega] at this
    rw [this]; exact h3
  · have := hg (j - t) (by omega) (by omega)
    rw [show j - t + t = j from by omega] at this
    rw [this]; exact h4 _ (by omega) (by omega)

theorem chain_shift {V W : Nat → Nat → Prop} {t : Nat} (hV0 : ∀ p q, V p q → p < q) : ∀ {l : List (Nat × Nat)} {p m : Nat}, (∀ a b, V a b → p ≤ a → b ≤ m → W (a + t) (b + t)) → Chain V l p m → Chain W (l.map fun x => (x.1 + t, x.2 + t)) (p + t) (m + t)
  | [], _, _, _, h => by
    obtain rfl := h
    exact rfl
  | x :: l, p, m, hVW, h => by
    obtain ⟨rfl, h1, h2⟩ := h
    have hlt := hV0 _ _ h1
    have hle := chain_le hV0 h2
    exact ⟨rfl, hVW _ _ h1 (Nat.le_refl _) hle, chain_shift hV0 (fun a b hv ha hb => hVW a b hv (by omega) hb) h2⟩

theorem val_shift : ∀ {d : Nat} {f g : Nat → Int} {p q t : Nat}, Val d f p q → (∀ j, p ≤ j → j < q → g (j + t) = f j) → Val d g (p + t) (q + t)
  | 0, _, _, _, _, _, h, _ => h.elim
  | d + 1, f, g, p, q, t, h, hg => by
    rcases h with ⟨s, h⟩ | h | ⟨h0, l, m, h1, h2, rfl⟩
    · exact .inl ⟨_, str_shift h hg⟩
    · exact .inr (.inl (int_shift h hg))
    · have hle := chain_le (fun p q => val_lt (d := d) (f := f)) h1
      refine .inr (.inr ⟨by rw [hg p (Nat.le_refl _) (by omega)]; exact h0, l.map (fun x => (x.1 + t, x.2 + t)), m + t, ?_, by rw [hg m (by omega) (by omega)]; exact h2, by omega⟩)
      have := chain_shift (V := Val d f) (W := Val d g) (t := t) (fun p q => val_lt) (fun a b hv ha hb => val_shift hv (fun j hj hq => hg j (by omega) (by omega))) h1
      rwa [show p + 1 + t = p + t + 1 from by omega] at this

/-- one token from p to r; δ: what it does to the number of lists and dictionaries that are open -/
def Tok (f : Nat → Int) (p r : Nat) (δ : Int) : Prop :=
  ((f p = 108 ∨ f p = 100) ∧ r = p + 1 ∧ δ = 1) ∨ (f p = 101 ∧ r = p + 1 ∧ δ = -1) ∨ (IntAt f p r ∧ δ = 0) ∨ ((∃ s, Str f p s r) ∧ δ = 0)

/-- from p on, o being open, tokens follow, and just at q nothing is open any more (in at most t tokens) -/
def Bal (f : Nat → Int) : Nat → Int → Nat → Nat → Prop
  | 0, _, _, _ => False
  | t + 1, o, p, q => ∃ r δ, Tok f p r δ ∧ ((o + δ = 0 ∧ r = q) ∨ (0 < o + δ ∧ Bal f t (o + δ) r q))

theorem Tok.lt {f : Nat → Int} {p r : Nat} {δ : Int} (h : Tok f p r δ) : p < r := by
  rcases h with ⟨_, rfl, _⟩ | ⟨_, rfl, _⟩ | ⟨h, _⟩ | ⟨⟨s, h⟩, _⟩
  · omega
  · omega
  · have := h.2.1; omega
  · have := h.lt; omega

theorem bal_lt {f : Nat → Int} : ∀ {t : Nat} {o : Int} {p q : Nat}, Bal f t o p q → p < q
  | 0, _, _, _, h => h.elim
  | t + 1, _, _, _, h => by
    obtain ⟨r, δ, ht, h | h⟩ := h
    · have := ht.lt; omega
    · have := ht.lt; have := bal_lt h.2; omega

theorem val_bal : ∀ {d : Nat} {f : Nat → Int} {p r : Nat}, Val d f p r → ∀ (o : Int) (q : Nat), 0 ≤ o → ((o = 0 ∧ r = q) ∨ (0 < o ∧ ∃ t, Bal f t o r q)) → ∃ t, Bal f t o p q
  | 0, _, _, _, h, _, _, _, _ => h.elim
  | d + 1, f, p, r, h, o, q, ho, hg => by
    have plain : Tok f p r 0 → ∃ t, Bal f t o p q := fun ht => by
      rcases hg with ⟨h1, h2⟩ | ⟨h1, t, h2⟩
      · exact ⟨1, r, 0, ht, .inl ⟨by omega, h2⟩⟩
      · exact ⟨t + 1, r, 0, ht, .inr ⟨by omega, by rw [Int.add_zero]; exact h2⟩⟩
    rcases h with ⟨s, h⟩ | h | ⟨h0, l, m, h1, h2, rfl⟩
    · exact plain (.inr (.inr (.inr ⟨⟨s, h⟩, rfl⟩)))
    · exact plain (.inr (.inr (.inl ⟨h, rfl⟩)))
    · have hend : ∃ t, Bal f t (o + 1) m q := by
        have ht : Tok f m (m + 1) (-1) := .inr (.inl ⟨h2, rfl, rfl⟩)
        rcases hg with ⟨h3, h4⟩ | ⟨h3, t, h4⟩
        · exact ⟨1, m + 1, -1, ht, .inl ⟨by omega, h4⟩⟩
        · exact ⟨t + 1, m + 1, -1, ht, .inr ⟨by omega, by rw [show o + 1 + -1 = o from by omega]; exact h4⟩⟩
      have hch : ∀ (l : List (Nat × Nat)) (a : Nat), Chain (Val d f) l a m → ∃ t, Bal f t (o + 1) a q := by
        intro l
        induction l with
        | nil => intro a ha; obtain rfl : a = m := ha; exact hend
        | cons x l ih =>
          intro a ha
          obtain ⟨rfl, hv, hc⟩ := ha
          exact val_bal hv (o + 1) q (by omega) (.inr ⟨by omega, ih _ hc⟩)
      obtain ⟨t, ht⟩ := hch l (p + 1) h1
      exact ⟨t + 1, p + 1, 1, .inl ⟨h0, rfl, rfl⟩, .inr ⟨by omega, ht⟩⟩

theorem val_bal0 {d : Nat} {f : Nat → Int} {p q : Nat} (h : Val d f p q) : ∃ t, Bal f t 0 p q := val_bal h 0 q (Int.le_refl _) (.inl ⟨rfl, rfl⟩)

/-- a value that opens with a digit is a byte string -/
theorem val_dig {d : Nat} {f : Nat → Int} {p q : Nat} (h : Val d f p q) (hd : Dig (f p)) : ∃ s, Str f p s q := by
  unfold Dig at hd
  cases d with
  | zero => exact h.elim
  | succ d =>
    rcases h with h | h | ⟨h0, _⟩
    · exact h
    · have := h.1; omega
    · omega

/-- what a value may open with -/
theorem val_head {d : Nat} {f : Nat → Int} {p q : Nat} (h : Val d f p q) : Dig (f p) ∨ f p = 105 ∨ f p = 108 ∨ f p = 100 := by
  cases d with
  | zero => exact h.elim
  | succ d =>
    rcases h with ⟨s, k, hk, hd, _⟩ | h | ⟨h0, _⟩
    · exact .inl (by have := hd 0 hk; simpa using this)
    · exact .inr (.inl h.1)
    · omega

end Go.Proofs.Qxb6614548aFmt.Ben
