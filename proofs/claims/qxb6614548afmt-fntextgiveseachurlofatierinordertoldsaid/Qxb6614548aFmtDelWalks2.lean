/-
  The walk of slices.DeleteFunc at []string over a row of the call's own.
-/
import Derived.Test.Qxb6614548aFmtDelWalks
set_option linter.unusedVariables false
namespace Go.Proofs.Qxb6614548aFmt.Ben
open Go.RowKit

theorem zero9 (w : World) : (zeroValue 9).run Tryf.prog w = .ok (.string ByteArray.empty) w := by kernel_rfl

theorem grown_trans {a b c : World} {row : Option Nat} (h : a.grownBy b row) (k : b.grownBy c row) : a.grownBy c row :=
  ⟨k.os.trans h.os, k.tape.trans h.tape, k.output.trans h.output, Nat.le_trans h.size k.size, fun i hi hne => (k.block i (Nat.lt_of_lt_of_le hi h.size) hne).trans (h.block i hi hne)⟩

theorem grown_refl (a : World) (row : Option Nat) : a.grownBy a row := ⟨rfl, rfl, rfl, Nat.le_refl _, fun _ _ _ => rfl⟩

theorem strs_set (ss : List ByteArray) (i : Nat) (s : ByteArray) : (strs ss).set i (.string s) = strs (ss.set i s) := by
  unfold strs
  rw [List.map_set]

/-- what holds when the places ahead of J have been looked at and I strings were kept -/
structure Half (w : World) (base g n cap : Nat) (ss : List ByteArray) (I J : Nat) (wr : World) (cur : List ByteArray) : Prop where
  own : wr.ownsRow base 9 1 (.slice (some ⟨g, 0, none⟩) n cap) n (strs cur)
  grown : w.grownBy wr (some g)
  head : cur.take I = kept (ss.take J)
  tail : cur.drop J = ss.drop J

theorem Half.skip {w : World} {base g n cap : Nat} {ss : List ByteArray} {I J : Nat} {wr : World} {cur : List ByteArray} (h : Half w base g n cap ss I J wr cur) (hJ : J < ss.length) (he : emp (sAt ss J) = true) : Half w base g n cap ss I (J + 1) wr cur :=
  ⟨h.own, h.grown, by rw [h.head, kept_snoc ss J hJ, if_pos he, List.append_nil], by rw [← List.drop_drop (i := 1), h.tail, List.drop_drop]⟩

theorem Half.keep {w : World} {base g n cap : Nat} {ss : List ByteArray} {I J : Nat} {wr : World} {cur : List ByteArray} (h : Half w base g n cap ss I J wr cur) (hIJ : I < J) (hJ : J < ss.length) (hl : cur.length = ss.length) (he : emp (sAt ss J) = false) :
    Half w base g n cap ss (I + 1) (J + 1) (wr.setCell ⟨g, I, none⟩ (.string (sAt ss J))) (cur.set I (sAt ss J)) := by
  obtain ⟨h1, h2⟩ := h.own.stored I (.string (sAt ss J))
  rw [strs_set] at h1
  refine ⟨h1, grown_trans h.grown h2, ?_, ?_⟩
  · rw [kept_snoc ss J hJ, if_neg (by rw [he]; decide), ← h.head, List.take_succ_eq_append_getElem (by simp; omega), List.take_set_of_le (Nat.le_refl I)]
    simp
  · rw [List.drop_set_of_lt (by omega), ← List.drop_drop (i := 1), h.tail, List.drop_drop]

theorem Half.at {w : World} {base g n cap : Nat} {ss : List ByteArray} {I J : Nat} {wr : World} {cur : List ByteArray} (h : Half w base g n cap ss I J wr cur) (hl : ss.length = n) (hJ : J < n) : wr.cell? ⟨g, J, none⟩ = some (.string (sAt ss J)) ∧ ∀ i, i < n → (wr.cell? ⟨g, i, none⟩).isSome = true ∧ wr.frozen? ⟨g, i, none⟩ = false := by
  have hcl : cur.length = n := by have := h.own.1; simpa [strs] using this
  refine ⟨?_, fun i hi => ⟨by rw [strs_at h.own i hi]; rfl, h.own.frozenAt i⟩⟩
  rw [strs_at h.own J hJ]
  have := congrArg (fun l => l[0]?) h.tail
  simp at this
  rw [List.getElem?_eq_getElem (by omega), List.getElem?_eq_getElem (by omega)] at this
  simp at this
  rw [sAt_eq (by omega), sAt_eq (by omega), this]

/-- the end: the rest cleared, the head handed back -/
theorem Half.done {w : World} {base g n cap : Nat} {ss : List ByteArray} {I : Nat} {wr : World} {cur : List ByteArray} (h : Half w base g n cap ss I n wr cur) (hl : ss.length = n) (hI : I ≤ n) (vs : List Value) :
    (wr.setCells g I vs).ownsRow base 9 1 (.slice (some ⟨g, 0, none⟩) I cap) I (strs (kept ss)) ∧ w.grownBy (wr.setCells g I vs) (some g) ∧ (kept ss).length = I := by
  obtain ⟨xs', h1, h2, h3⟩ := setCells_own vs I wr (strs cur) h.own
  have hcl : cur.length = n := by have := h.own.1; simpa [strs] using this
  have hk : cur.take I = kept ss := by rw [h.head, List.take_of_length_le (by omega)]
  have e : xs'.take I = strs (kept ss) := by rw [h2, ← hk]; simp [strs, List.map_take]
  refine ⟨by rw [← e]; exact ownsRow_head h1 hI, grown_trans h.grown h3, ?_⟩
  rw [← hk]
  simp
  omega

set_option maxHeartbeats 2000000 in
/-- slices.DeleteFunc: the strings that are not empty, at the head of the same row -/
theorem delete_any (base g n cap : Nat) (ss : List ByteArray) (w : World) (hn : n ≤ 2097152) (hcap : n ≤ cap) (h : w.ownsRow base 9 1 (.slice (some ⟨g, 0, none⟩) n cap) n (strs ss)) :
    Calls Tryf.prog 34 #[.slice (some ⟨g, 0, none⟩) n cap, .func (.func 35) #[] #[]] w fun e w' => e = .returned (.slice (some ⟨g, 0, none⟩) (kept ss).length cap) ∧ w'.ownsRow base 9 1 (.slice (some ⟨g, 0, none⟩) (kept ss).length cap) (kept ss).length (strs (kept ss)) ∧ w.grownBy w' (some g) := by
  have hl : ss.length = n := by have := h.1; simpa [strs] using this
  have Hl : Hid (ss.length = n) := hl
  have HO : Hid (w.ownsRow base 9 1 (.slice (some ⟨g, 0, none⟩) n cap) n (strs ss)) := h
  have hs : ∀ j, j < n → w.cell? ⟨g, j, none⟩ = some (.string (sAt ss j)) := fun j hj => strs_at h j hj
  clear h hl
  go_enter Tryf.func34, Tryf.ntmps34
  go_wp2_with fail
  refine (indexFunc_any g n cap ss w hn hs).mono ?_
  rintro e w1 ⟨⟨r, rfl, hr⟩, rfl⟩
  clear hs
  rcases hr with ⟨rfl, hall⟩ | ⟨K, rfl, hK, hKe, hKn⟩
  · have hk : kept ss = ss := kept_all ss (fun j hj => hall j (by have := Hl.out; omega))
    have Hk : Hid (kept ss = ss) := hk
    clear hk hall
    go_wp2
    go_ret
    exact ⟨by rw [Hk.out, Hl.out]; rfl, by rw [Hk.out, Hl.out]; exact HO.out, grown_refl _ _⟩
  · have HK : Hid (emp (sAt ss K) = true) := hKe
    have HH : Hid (Half w1 base g n cap ss K (K + 1) w1 ss) := by
      have hl := Hl.out
      have ht : ss.take K = kept (ss.take K) := by
        refine (kept_all _ (fun j hj => ?_)).symm
        simp at hj
        have := hKn j (by omega)
        rw [sAt_eq (by omega)] at this
        rw [sAt_eq (by simp; omega)]
        simpa using this
      exact ⟨HO.out, grown_refl _ _, by rw [kept_snoc ss K (by omega), if_pos HK.out, List.append_nil]; exact ht, rfl⟩
    have hm1 : ((K : Int) == -1) = false := by rw [beq_eq_false_iff_ne]; omega
    clear hKn hKe
    go_wp2_with fail
    go_loopw [5, 6] (fun i j wr => ∃ (I J : Nat) (cur : List ByteArray), i = .int .i64 (I : Int) ∧ j = .int .i64 (J : Int) ∧ I < J ∧ J ≤ n ∧ Hid (Half w1 base g n cap ss I J wr cur)) (fun _ j _ => n - (intOf j).toNat)
    case atStart => exact ⟨K, K + 1, ss, rfl, by go_num, by omega, by omega, HH⟩
    case round =>
      obtain ⟨I, J, cur, rfl, rfl, hIJ, hJ, HF⟩ := hrel
      by_cases hlt : J < n
      · obtain ⟨hcJ, hall⟩ := HF.out.at Hl.out hlt
        obtain ⟨hcI, hfI⟩ := hall I (by omega)
        obtain ⟨vI, hcI⟩ := Option.isSome_iff_exists.1 hcI
        have hlt' : (J : Int) < (n : Int) := by omega
        have hIn : (I : Int) < (n : Int) := by omega
        clear hall
        cases he : emp (sAt ss J) with
        | true =>
          have He : Hid (emp (sAt ss J) = true) := he
          clear he
          go_wp2_with fail
          refine (empty_any _ _).mono ?_
          rintro e w2 ⟨rfl, rfl⟩
          rw [He.out]
          go_wp2
          go_roundw
          case rel => exact ⟨I, J + 1, cur, rfl, by go_num, by omega, by omega, HF.out.skip (by have := Hl.out; omega) He.out⟩
          case measure => simp [intOf]; omega
        | false =>
          have He : Hid (emp (sAt ss J) = false) := he
          clear he
          go_wp2_with fail
          refine (empty_any _ _).mono ?_
          rintro e w2 ⟨rfl, rfl⟩
          rw [He.out]
          go_wp2
          go_roundw
          case rel => exact ⟨I + 1, J + 1, cur.set I (sAt ss J), by go_num, by go_num, by omega, by omega, HF.out.keep hIJ (by have := Hl.out; omega) (by have := HF.out.own.1; have := Hl.out; simp [strs] at *; omega) He.out⟩
          case measure => simp [intOf]; omega
      · obtain rfl : J = n := by omega
        have hD : decide ((J : Int) < (J : Int)) = false := decide_eq_false (by omega)
        have hcI : ¬ cap = I := by omega
        have hIJ' : (I : Int) ≤ (J : Int) := by omega
        have hclr := fun ty => Lib.run_clear_slice (P := Tryf.prog) wr 28 9 ty (.string ByteArray.empty) Tryf.underlying28 zero9 rfl rfl g I (J - I) (cap - I) (by omega) (fun j hj => by
          have hcl : cur.length = J := by have := HF.out.own.1; simpa [strs] using this
          rw [strs_at HF.out.own (I + j) (by omega)]; rfl) (fun j hj => HF.out.own.frozenAt _)
        have HE : Hid ((wr.setCells g I (List.replicate (J - I) (.string ByteArray.empty))).ownsRow base 9 1 (.slice (some ⟨g, 0, none⟩) I cap) I (strs (kept ss)) ∧ w1.grownBy (wr.setCells g I (List.replicate (J - I) (.string ByteArray.empty))) (some g) ∧ (kept ss).length = I) := HF.out.done Hl.out (by omega) _
        generalize wr.setCells g I (List.replicate (J - I) (.string ByteArray.empty)) = wf at hclr HE
        go_wp2
        go_ret
        exact ⟨by rw [HE.out.2.2]; rfl, by rw [HE.out.2.2]; exact HE.out.1, HE.out.2.1⟩

end Go.Proofs.Qxb6614548aFmt.Ben
