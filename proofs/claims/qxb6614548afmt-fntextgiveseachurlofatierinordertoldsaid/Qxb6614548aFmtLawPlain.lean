/-
  The buffer that the law builds, plainly: a dictionary of one list of one tier of the given items.
-/
import Derived.Test.Qxb6614548aFmtTextsAid
set_option linter.unusedVariables false
namespace Go.Proofs.Qxb6614548aFmt.Ben

theorem getD_l {a b : List Int} {i : Nat} (h : i < a.length) : (a ++ b).getD i 0 = a.getD i 0 := by
  simp [List.getD, List.getElem?_append_left h]
theorem getD_r {a b : List Int} {i : Nat} (h : a.length ≤ i) : (a ++ b).getD i 0 = b.getD (i - a.length) 0 := by
  simp [List.getD, List.getElem?_append_right h]

/-- how many bytes the first i items have -/
def Sm (L : Nat → Nat) : Nat → Nat
  | 0 => 0
  | i + 1 => Sm L i + L i
/-- the bytes of the first i items -/
def flat (fz : Nat → Nat → Int) (L : Nat → Nat) : Nat → List Int
  | 0 => []
  | i + 1 => flat fz L i ++ (List.range (L i)).map (fz i)
def hdr : List Int := [100, 49, 51, 58, 97, 110, 110, 111, 117, 110, 99, 101, 45, 108, 105, 115, 116, 108, 108]
def buf (fz : Nat → Nat → Int) (L : Nat → Nat) (N : Nat) : List Int := hdr ++ flat fz L N ++ [101, 101, 101]
/-- the buffer's bytes -/
def bf (fz : Nat → Nat → Int) (L : Nat → Nat) (N : Nat) (j : Nat) : Int := (buf fz L N).getD j 0
/-- the items' texts -/
def tsx (fz : Nat → Nat → Int) (L : Nat → Nat) (i : Nat) : List ByteArray := (List.range i).map fun r => tx (fz r) 0 (L r)
/-- how many of the first i items are no byte strings -/
def wnn (fz : Nat → Nat → Int) : Nat → Nat
  | 0 => 0
  | i + 1 => wnn fz i + (if digB (fz i 0) = true then 0 else 1)

theorem Sm_le {L : Nat → Nat} {i j : Nat} (h : i ≤ j) : Sm L i ≤ Sm L j := by
  induction j with
  | zero => have : i = 0 := by omega
            subst this; exact Nat.le_refl _
  | succ j ih =>
    rcases Nat.lt_or_ge i (j + 1) with h' | h'
    · have := ih (by omega); simp only [Sm]; omega
    · have : i = j + 1 := by omega
      subst this; exact Nat.le_refl _
theorem Sm_lt {L : Nat → Nat} {i N : Nat} (h : i < N) : Sm L i + L i ≤ Sm L N := Sm_le (L := L) (i := i + 1) h

theorem flat_len (fz : Nat → Nat → Int) (L : Nat → Nat) : ∀ i, (flat fz L i).length = Sm L i
  | 0 => rfl
  | i + 1 => by simp [flat, Sm, flat_len fz L i]

theorem flat_get (fz : Nat → Nat → Int) (L : Nat → Nat) : ∀ {N i j : Nat}, i < N → j < L i → (flat fz L N).getD (Sm L i + j) 0 = fz i j
  | 0, _, _, h, _ => absurd h (Nat.not_lt_zero _)
  | N + 1, i, j, h, hj => by
    have hl := flat_len fz L N
    rcases Nat.lt_or_ge i N with h' | h'
    · have := Sm_lt (L := L) h'
      have ih := flat_get fz L (N := N) h' hj
      simp only [flat]
      rw [getD_l (by omega)]
      exact ih
    · obtain rfl : i = N := by omega
      simp only [flat]
      rw [getD_r (by omega), hl]
      simp [hj]

theorem bf_hdr (fz : Nat → Nat → Int) (L : Nat → Nat) (N : Nat) {j : Nat} (h : j < 19) : bf fz L N j = hdr.getD j 0 := by
  unfold bf buf
  rw [List.append_assoc, getD_l (by simpa [hdr] using h)]
theorem bf_item (fz : Nat → Nat → Int) (L : Nat → Nat) {N i j : Nat} (h : i < N) (hj : j < L i) : bf fz L N (19 + Sm L i + j) = fz i j := by
  have := Sm_lt (L := L) h
  have hl := flat_len fz L N
  unfold bf buf
  rw [getD_l (by simp [hdr]; omega), getD_r (by simp [hdr]; omega)]
  have e : 19 + Sm L i + j - hdr.length = Sm L i + j := by simp [hdr]; omega
  rw [e]
  exact flat_get fz L h hj
theorem bf_end (fz : Nat → Nat → Int) (L : Nat → Nat) (N k : Nat) (hk : k < 3) : bf fz L N (19 + Sm L N + k) = 101 := by
  have hl := flat_len fz L N
  unfold bf buf
  rw [getD_r (by simp [hdr]; omega)]
  have e : 19 + Sm L N + k - (hdr ++ flat fz L N).length = k := by simp [hdr]; omega
  rw [e]
  rcases (by omega : k = 0 ∨ k = 1 ∨ k = 2) with rfl | rfl | rfl <;> rfl
theorem buf_len (fz : Nat → Nat → Int) (L : Nat → Nat) (N : Nat) : (buf fz L N).length = 22 + Sm L N := by
  simp [buf, flat_len, hdr]; omega

theorem link_snoc {f : Nat → Int} {n : Nat} : ∀ {l : List (Spn f n)} {p m : Nat} {x : Spn f n}, Link l p m → x.1.1 = m → Link (l ++ [x]) p x.1.2
  | [], p, m, x, h, hx => by
    obtain rfl : p = m := h
    exact ⟨hx, rfl⟩
  | y :: l, p, m, x, h, hx => ⟨h.1, link_snoc h.2 hx⟩

theorem kept_append (a b : List ByteArray) : kept (a ++ b) = kept a ++ kept b := by simp [kept]

theorem emp_empty : emp ByteArray.empty = true := by
  unfold emp ByteArray.toList
  rw [ByteArray.toList.loop]
  rfl

/-- the spans of the first i items within the tier -/
theorem spans (fz : Nat → Nat → Int) (L : Nat → Nat) (N D : Nat) (f2 : Nat → Int) (n2 : Nat) (hn2 : n2 = Sm L N + 2) (hf2 : ∀ j, f2 j = bf fz L N (18 + j)) (hV : ∀ i, i < N → Val D (fz i) 0 (L i)) :
    ∀ i, i ≤ N → ∃ xs : List (Spn f2 n2), Link xs 1 (1 + Sm L i) ∧ kept (sx xs) = kept (tsx fz L i) ∧ wn xs = wnn fz i
  | 0, _ => ⟨[], rfl, rfl, rfl⟩
  | i + 1, h => by
    obtain ⟨xs, h1, h2, h3⟩ := spans fz L N D f2 n2 hn2 hf2 hV i (by omega)
    have hv := hV i (by omega)
    have hL := val_lt hv
    have hS := Sm_lt (L := L) (show i < N by omega)
    have hg : ∀ j, 0 ≤ j → j < L i → f2 (j + (1 + Sm L i)) = fz i j := fun j _ hj => by
      rw [hf2, ← bf_item fz L (show i < N by omega) hj]
      congr 1; omega
    have hv2 := val_shift (t := 1 + Sm L i) hv hg
    have ht2 := tx_congr (f := fz i) (g := f2) (p := 0) (q := L i) (t := 1 + Sm L i) hL hg
    let x : Spn f2 n2 := ⟨(0 + (1 + Sm L i), L i + (1 + Sm L i)), by simp; omega, D, hv2⟩
    have hx0 : f2 x.1.1 = fz i 0 := hg 0 (by omega) hL
    have hts : tsx fz L (i + 1) = tsx fz L i ++ [tx (fz i) 0 (L i)] := by simp [tsx, List.range_succ]
    refine ⟨xs ++ [x], ?_, ?_, ?_⟩
    · have := link_snoc (x := x) h1 (show 0 + (1 + Sm L i) = _ by omega)
      have e : x.1.2 = 1 + Sm L (i + 1) := by simp only [Sm, x]; omega
      rwa [e] at this
    · cases hd : digB (fz i 0) with
      | true =>
        rw [(sx_snoc_t xs x (by rw [hx0]; exact hd)).1, kept_append, hts, kept_append, h2]
        have : tx f2 x.1.1 x.1.2 = tx (fz i) 0 (L i) := ht2
        rw [this]
      | false =>
        rw [(sx_snoc_f xs x (by rw [hx0]; exact hd)).1, hts, kept_append, h2, tx_non hd]
        simp [kept, emp_empty]
    · cases hd : digB (fz i 0) with
      | true => rw [(sx_snoc_t xs x (by rw [hx0]; exact hd)).2, h3]; simp [wnn, hd]
      | false => rw [(sx_snoc_f xs x (by rw [hx0]; exact hd)).2, h3]; simp [wnn, hd]

theorem chains (fz : Nat → Nat → Int) (L : Nat → Nat) (N D : Nat) (f1 : Nat → Int) (hf1 : ∀ j, f1 j = bf fz L N (17 + j)) (hV : ∀ i, i < N → Val D (fz i) 0 (L i)) :
    ∀ i, i ≤ N → ∃ l, Chain (Val D f1) l 2 (2 + Sm L i)
  | 0, _ => ⟨[], rfl⟩
  | i + 1, h => by
    obtain ⟨l, hl⟩ := chains fz L N D f1 hf1 hV i (by omega)
    have hv := hV i (by omega)
    have hg : ∀ j, 0 ≤ j → j < L i → f1 (j + (2 + Sm L i)) = fz i j := fun j _ hj => by
      rw [hf1, ← bf_item fz L (show i < N by omega) hj]
      congr 1; omega
    have hv2 := val_shift (t := 2 + Sm L i) hv hg
    rw [Nat.zero_add] at hv2
    refine ⟨l ++ [(2 + Sm L i, 2 + Sm L (i + 1))], ?_⟩
    have := chain_snoc hl hv2
    rwa [show L i + (2 + Sm L i) = 2 + Sm L (i + 1) from by simp only [Sm]; omega] at this

/-- all that the walk of readTrackers asks of the buffer -/
theorem build (fz : Nat → Nat → Int) (L : Nat → Nat) (N : Nat) (hV : ∀ i, i < N → Val (L i + 1) (fz i) 0 (L i)) :
    Dict (bf fz L N) (22 + Sm L N) (21 + Sm L N) ∧ bf fz L N 17 = 108 ∧
    ∃ (x0 : Spn (fun j => bf fz L N (17 + j)) (21 + Sm L N - 17)) (xs : List (Spn (fun j => bf fz L N (17 + (x0.1.1 + j))) (x0.1.2 - x0.1.1))) (m1 m2 : Nat),
      Lst (fun j => bf fz L N (17 + j)) (21 + Sm L N - 17) m1 [x0] ∧ Lst (fun j => bf fz L N (17 + (x0.1.1 + j))) (x0.1.2 - x0.1.1) m2 xs ∧ kept (sx xs) = kept (tsx fz L N) ∧ wn xs = wnn fz N := by
  have hV' : ∀ i, i < N → Val (Sm L N + 1) (fz i) 0 (L i) := fun i hi => val_mono (hV i hi) (by have := Sm_lt (L := L) hi; omega)
  have e0 := bf_end fz L N 0 (by omega)
  have e1 := bf_end fz L N 1 (by omega)
  have e2 := bf_end fz L N 2 (by omega)
  have hh : ∀ j, j < 19 → bf fz L N j = hdr.getD j 0 := fun j h => bf_hdr fz L N h
  obtain ⟨l, hl⟩ := chains fz L N (Sm L N + 1) (fun j => bf fz L N (17 + j)) (fun _ => rfl) hV' N (Nat.le_refl _)
  have hT : Val (Sm L N + 2) (fun j => bf fz L N (17 + j)) 1 (Sm L N + 3) := .inr (.inr ⟨.inl (hh 18 (by omega)), l, 2 + Sm L N, hl, by
    show bf fz L N (17 + (2 + Sm L N)) = 101
    rw [← e0]; congr 1; omega, by omega⟩)
  have hT' : Val (Sm L N + 2) (bf fz L N) 18 (20 + Sm L N) := by
    have := val_shift (t := 17) hT (g := bf fz L N) (fun j _ _ => by show _ = bf fz L N (17 + j); congr 1; omega)
    rwa [show Sm L N + 3 + 17 = 20 + Sm L N from by omega] at this
  have hO : Val (Sm L N + 3) (bf fz L N) 17 (21 + Sm L N) := .inr (.inr ⟨.inl (hh 17 (by omega)), [(18, 20 + Sm L N)], 20 + Sm L N, ⟨rfl, hT', rfl⟩, by
    rw [← e1]; congr 1; omega, by omega⟩)
  refine ⟨⟨hh 0 (by omega), ?_, val_bal0 hO, by omega, ?_, by omega⟩, hh 17 (by omega), ?_⟩
  · refine ⟨2, by omega, ?_, hh 3 (by omega), rfl, ?_⟩
    · intro j hj
      rcases (by omega : j = 0 ∨ j = 1) with rfl | rfl
      · rw [hh _ (by omega)]; exact ⟨by decide, by decide⟩
      · rw [hh _ (by omega)]; exact ⟨by decide, by decide⟩
    · have d1 := hh 1 (by omega)
      have d2 := hh 2 (by omega)
      simp only [dv, Nat.add_zero, Nat.reduceAdd]
      rw [d1, d2]
      rfl
  · rw [← e2]; congr 1; omega
  · obtain ⟨xs, h1, h2, h3⟩ := spans fz L N (Sm L N + 1) (fun j => bf fz L N (17 + (1 + j))) (Sm L N + 3 - 1) (by omega) (fun j => by show _ = _; congr 1; omega) hV' N (Nat.le_refl _)
    refine ⟨⟨(1, Sm L N + 3), by simp; omega, _, hT⟩, xs, Sm L N + 3, 1 + Sm L N, ⟨hh 17 (by omega), ⟨rfl, rfl⟩, ?_, by omega⟩, ⟨hh 18 (by omega), h1, ?_, by simp; omega⟩, h2, h3⟩
    · show bf fz L N (17 + (Sm L N + 3)) = 101
      rw [← e1]; congr 1; omega
    · show bf fz L N (17 + (1 + (1 + Sm L N))) = 101
      rw [← e0]; congr 1; omega

/-- the key -/
theorem key_win (fz : Nat → Nat → Int) (L : Nat → Nat) (N : Nat) : win (bf fz L N) 4 13 = ⟨#[97, 110, 110, 111, 117, 110, 99, 101, 45, 108, 105, 115, 116]⟩ := by
  have hh : ∀ j, j < 19 → bf fz L N j = hdr.getD j 0 := fun j h => bf_hdr fz L N h
  have e : (List.range 13).map (fun j => bf fz L N (4 + j)) = (List.range 13).map (fun j => hdr.getD (4 + j) 0) := by
    apply List.map_congr_left
    intro j hj
    exact hh _ (by have := List.mem_range.1 hj; omega)
  unfold win
  rw [e]
  rfl

theorem bf_bounds (fz : Nat → Nat → Int) (L : Nat → Nat) (N : Nat) (h : ∀ i, i < N → ∀ j, j < L i → 0 ≤ fz i j ∧ fz i j ≤ 255) : ∀ x ∈ buf fz L N, 0 ≤ x ∧ x ≤ 255 := by
  have hf : ∀ i, i ≤ N → ∀ x ∈ flat fz L i, 0 ≤ x ∧ x ≤ 255 := by
    intro i
    induction i with
    | zero => intro _ x hx; simp [flat] at hx
    | succ i ih =>
      intro hi x hx
      simp only [flat, List.mem_append, List.mem_map, List.mem_range] at hx
      rcases hx with hx | ⟨j, hj, rfl⟩
      · exact ih (by omega) x hx
      · exact h i (by omega) j hj
  intro x hx
  simp only [buf, List.mem_append] at hx
  rcases hx with (hx | hx) | hx
  · revert x; decide
  · exact hf N (Nat.le_refl _) x hx
  · simp at hx; omega

end Go.Proofs.Qxb6614548aFmt.Ben
