/-
  Plain facts for the law 'FnCutLinesSpec': the number of newlines in a list of bytes, and what 'the first newline' has to do with it. No Go text here.
-/
import Derived.Lib.Bytealg
import Derived.Lib.Bytes
namespace Go.Proofs.Qxb6000528a.Cut

/-- how many newlines -/
def cnt (l : List Int) : Nat := l.count 10

theorem cnt_append (a b : List Int) : cnt (a ++ b) = cnt a + cnt b := by simp [cnt, List.count_append]
theorem cnt_le (l : List Int) : cnt l ≤ l.length := List.count_le_length
theorem cnt_split (l : List Int) (k : Nat) : cnt l = cnt (l.take k) + cnt (l.drop k) := by
  rw [← cnt_append, List.take_append_drop]

theorem cnt_snoc (l : List Int) (k : Nat) (h : k < l.length) : cnt (l.take (k + 1)) = cnt (l.take k) + if l.getD k 0 = 10 then 1 else 0 := by
  rw [List.take_succ_eq_append_getElem h, cnt_append]
  have e : l.getD k 0 = l[k] := by simp [h]
  rw [e]
  by_cases hq : l[k] = 10 <;> simp [cnt, hq]

/-- where the index of the first newline is -1 there is none; else it is the first -/
theorem index_spec (l : List Int) (hb : ∀ x ∈ l, 0 ≤ x ∧ x ≤ 255) :
    (Lib.indexByte (Lib.bytesOf l) 10 = -1 ∧ cnt l = 0) ∨
    ∃ i : Nat, Lib.indexByte (Lib.bytesOf l) 10 = (i : Int) ∧ i < l.length ∧ l.getD i 0 = 10 ∧ cnt (l.take (i + 1)) = 1 := by
  induction l with
  | nil => exact .inl ⟨rfl, rfl⟩
  | cons x l ih =>
    have hx := hb x (by simp)
    have ih := ih (fun y hy => hb y (by simp [hy]))
    by_cases hq : x = 10
    · subst hq
      refine .inr ⟨0, ?_, by simp, by simp, by simp [cnt]⟩
      rfl
    · have hne : (x.toNat.toUInt8 == (10 : UInt8)) = false := by
        obtain ⟨n, rfl⟩ := Int.eq_ofNat_of_zero_le hx.1
        have hd : ∀ m : Fin 256, m.val ≠ 10 → (m.val.toUInt8 == (10 : UInt8)) = false := by decide +kernel
        exact hd ⟨n, by omega⟩ (show n ≠ 10 by omega)
      have e : Lib.indexByte (Lib.bytesOf (x :: l)) 10 = if Lib.indexByte (Lib.bytesOf l) 10 == -1 then -1 else Lib.indexByte (Lib.bytesOf l) 10 + 1 := by
        show (if (x.toNat.toUInt8 == (10 : UInt8)) = true then (0 : Int) else _) = _
        rw [hne]; rfl
      rcases ih with ⟨h1, h2⟩ | ⟨i, h1, h2, h3, h4⟩
      · refine .inl ⟨?_, ?_⟩
        · rw [e, h1]; rfl
        · unfold cnt at h2 ⊢
          rw [List.count_cons, h2]
          simp [hq]
      · refine .inr ⟨i + 1, ?_, by simp; omega, by simpa using h3, ?_⟩
        · rw [e, h1]
          have : ((i : Int) == -1) = false := by rw [beq_eq_false_iff_ne]; omega
          rw [this]
          simp
        · rw [List.take_succ_cons]
          unfold cnt at h4 ⊢
          rw [List.count_cons, h4]
          simp [hq]

theorem take_take_add (l : List Int) (e i : Nat) : l.take (e + i) = l.take e ++ (l.drop e).take i := by
  rw [List.take_add]

/-- one line more: the count behind it, and its last byte -/
theorem one_more (l : List Int) (e i : Nat) (hi : i < (l.drop e).length) (h10 : (l.drop e).getD i 0 = 10) (h1 : cnt ((l.drop e).take (i + 1)) = 1) :
    cnt (l.take (e + i + 1)) = cnt (l.take e) + 1 ∧ e + i + 1 ≤ l.length ∧ l.getD (e + i) 0 = 10 := by
  refine ⟨?_, ?_, ?_⟩
  · rw [Nat.add_assoc, take_take_add, cnt_append, h1]
  · simp at hi; omega
  · have e2 : (l.drop e).getD i 0 = l.getD (e + i) 0 := by simp [List.getD_eq_getElem?_getD, List.getElem?_drop]
    rw [← e2, h10]

theorem bounds_drop {l : List Int} (hb : ∀ x ∈ l, 0 ≤ x ∧ x ≤ 255) (e : Nat) : ∀ x ∈ l.drop e, 0 ≤ x ∧ x ≤ 255 :=
  fun x hx => hb x (List.mem_of_mem_drop hx)

end Go.Proofs.Qxb6000528a.Cut
