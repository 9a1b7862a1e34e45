/-
  The walks of Bytes, text, ZZValue, ZZtext.
-/
import Derived.Test.Qxb6614548aFmtBenWalks4
import Derived.Test.Qxb6614548aFmtTxtPlain
import Derived.WalkSmall
set_option linter.unusedVariables false
namespace Go.Proofs.Qxb6614548aFmt.Ben
open Go.RowKit

theorem kind_dig {y : Int} (h : digB y = true) : kindOf y = 2 := by
  have := digB_true.1 h
  unfold Dig at this
  unfold kindOf
  rw [if_neg (by omega), if_neg (by omega), if_neg (by omega)]

theorem kind_non {y : Int} (h : digB y = false) (hv : Dig y ∨ y = 105 ∨ y = 108 ∨ y = 100) : (kindOf y = 1 ∨ kindOf y = 3 ∨ kindOf y = 4) ∧ kindOf y ≠ 2 := by
  have hn := digB_false.1 h
  rcases hv with hv | rfl | rfl | rfl
  · exact absurd hv hn
  · exact ⟨.inl rfl, by decide⟩
  · exact ⟨.inr (.inl rfl), by decide⟩
  · exact ⟨.inr (.inr rfl), by decide⟩

set_option maxHeartbeats 1000000 in
/-- Bytes of a byte string -/
theorem bytes_str (b o n c s : Nat) (f : Nat → Int) (w : World) (hn : n ≤ 2097152) (hcap : n ≤ c) (hr : Rd w b o n f) (hs : Str f 0 s n) :
    Calls Tryf.prog 36 #[.agg #[.slice (some ⟨b, o, none⟩) n c]] w fun e w' => (∃ o', e = .returned (.tuple #[.slice (some ⟨b, o', none⟩) (n - s) (c - s), .bool true]) ∧ (s < n → o' = o + s)) ∧ Below w.heap.size w w' := by
  have hsl := hs.lt
  have h0 : 0 < n := by omega
  have hlt := hr.lt h0
  have hB1 : Below w.heap.size w (w.alloc (.cells #[.slice (some ⟨b, o, none⟩) n c] 50)) := (Below.refl _ w).alloc (Nat.le_refl _) _
  have hd : digB (f 0) = true := by obtain ⟨k, hk, hd, _⟩ := hs; exact digB_true.2 (by have := hd 0 hk; simpa using this)
  have HK : Hid (kindOf (f 0) = 2) := kind_dig hd
  obtain ⟨k, hk, hdk, h58, rfl, hq⟩ := hs
  have hidx := fun w' (hr' : Rd w' b o n f) => index_f b o n c k f 58 w' hr' (by omega) (by omega) (by omega) (by simpa using h58) (fun j hj => by have := hdk j hj; unfold Dig at this; rw [Nat.zero_add] at this; omega)
  have HX : Hid (∀ w', Rd w' b o n f → Calls Tryf.prog 44 #[.slice (some ⟨b, o, none⟩) n c, .int .u8 58] w' fun e w'' => e = .returned (.int .i64 (k : Int)) ∧ w'' = w') := hidx
  clear hdk h58 hq hidx hd
  rw [Nat.zero_add] at hsl ⊢
  go_enter Tryf.func36, Tryf.ntmps36
  go_wp2_with fail
  refine (kind_any b o n c f _ hn h0 (hr.below hB1 hlt)).mono ?_
  rintro e w1 ⟨rfl, rfl⟩
  rw [HK.out]
  have hB2 : Below w.heap.size w ((w.alloc (.cells #[.slice (some ⟨b, o, none⟩) n c] 50)).alloc (.cells #[.slice (some ⟨b, o, none⟩) n c] 50)) := hB1.alloc hB1.size _
  have hr2 := hr.below hB2 hlt
  have hk1 : (0 : Int) ≤ (k : Int) + 1 := by omega
  have hk2 : (k : Int) + 1 ≤ (n : Int) := by omega
  by_cases hck : c = k + 1
  · subst hck
    go_wp2
    go_quiet ((go_at_call 44; exact Calls.quiet_of_same (HX.out _ (by exact hr2))))
    go_wp2
    go_ret2
    exact ⟨⟨o, by simp; omega, fun h => by omega⟩, below_drewN hB2 _⟩
  · have hck' : ¬ c = (k + 1) := hck
    go_wp2
    go_quiet ((go_at_call 44; exact Calls.quiet_of_same (HX.out _ (by exact hr2))))
    go_wp2
    go_ret2
    exact ⟨⟨o + (k + 1), by simp, fun h => rfl⟩, below_drewN hB2 _⟩

set_option maxHeartbeats 1000000 in
/-- Bytes of a value that is no byte string -/
theorem bytes_non (b o n c : Nat) (f : Nat → Int) (w : World) (hn : n ≤ 2097152) (h0 : 0 < n) (hr : Rd w b o n f) (hk : kindOf (f 0) ≠ 2) :
    Calls Tryf.prog 36 #[.agg #[.slice (some ⟨b, o, none⟩) n c]] w fun e w' => e = .returned (.tuple #[.slice none 0 0, .bool false]) ∧ Below w.heap.size w w' := by
  have hlt := hr.lt h0
  have hB1 : Below w.heap.size w (w.alloc (.cells #[.slice (some ⟨b, o, none⟩) n c] 50)) := (Below.refl _ w).alloc (Nat.le_refl _) _
  have hB2 : Below w.heap.size w ((w.alloc (.cells #[.slice (some ⟨b, o, none⟩) n c] 50)).alloc (.cells #[.slice (some ⟨b, o, none⟩) n c] 50)) := hB1.alloc hB1.size _
  have hk' : (kindOf (f 0) != 2) = true := by simp [hk]
  clear hk
  go_enter Tryf.func36, Tryf.ntmps36
  go_wp2_with fail
  refine (kind_any b o n c f _ hn h0 (hr.below hB1 hlt)).mono ?_
  rintro e w1 ⟨rfl, rfl⟩
  go_wp2
  go_ret2
  exact ⟨rfl, hB2⟩

/-- string(b) of a row of bytes -/
theorem conv_win (b o n c s : Nat) (f : Nat → Int) (o' : Nat) (w : World) (hr : Rd w b o n f) (hs : s ≤ n) (ho : s < n → o' = o + s) :
    (convert 25 9 (.slice (some ⟨b, o', none⟩) (n - s) c)).run Tryf.prog w = .ok (.string (win f s (n - s))) w := by
  refine run_convert_bytes_arg (P := Tryf.prog) w 25 5 Tryf.underlying25 Tryf.underlying5 b o' (n - s) c ((List.range (n - s)).map fun j => f (s + j)) (by simp) (fun i hi => ?_) 9 Tryf.underlying9
  rw [ho (by omega)]
  have := (hr (s + i) (by omega)).1
  rw [← Nat.add_assoc] at this
  rw [this]
  simp [hi]

theorem conv_nil (w : World) : (convert 25 9 (.slice none 0 0)).run Tryf.prog w = .ok (.string ByteArray.empty) w :=
  run_convert_bytes_nil (P := Tryf.prog) w 25 5 Tryf.underlying25 Tryf.underlying5 0 0 9 Tryf.underlying9

set_option maxHeartbeats 1000000 in
/-- text of a value -/
theorem text_any (b o n c d : Nat) (f : Nat → Int) (w : World) (hn : n ≤ 2097152) (hcap : n ≤ c) (hr : Rd w b o n f) (hv : Val d f 0 n) :
    Calls Tryf.prog 28 #[.agg #[.slice (some ⟨b, o, none⟩) n c]] w fun e w' => e = .returned (.string (tx f 0 n)) ∧ Below w.heap.size w w' := by
  have h0 : 0 < n := val_lt hv
  have hlt := hr.lt h0
  have hB1 : Below w.heap.size w (w.alloc (.cells #[.slice (some ⟨b, o, none⟩) n c] 50)) := (Below.refl _ w).alloc (Nat.le_refl _) _
  cases hd : digB (f 0) with
  | true =>
    obtain ⟨s, hs⟩ := val_dig hv (digB_true.1 hd)
    have hsl := hs.lt
    have Ht : Hid (tx f 0 n = win f s (n - s)) := tx_str hs
    clear hd
    rw [Ht.out]
    go_enter Tryf.func28, Tryf.ntmps28
    go_wp2_with fail
    refine (bytes_str b o n c s f _ hn hcap (hr.below hB1 hlt) hs).mono ?_
    rintro e w1 ⟨⟨o', rfl, ho⟩, hb⟩
    have hb2 : Below w.heap.size w w1 := hB1.trans (hb.mono hB1.size)
    have hcv := conv_win b o n (c - s) s f o' w1 (hr.below hb2 hlt) hsl.2 ho
    clear ho hs
    go_wp2
    go_ret
    exact ⟨rfl, hb2⟩
  | false =>
    have Ht : Hid (tx f 0 n = ByteArray.empty) := tx_non hd
    have hk := (kind_non hd (val_head hv)).2
    clear hd
    rw [Ht.out]
    go_enter Tryf.func28, Tryf.ntmps28
    go_wp2_with fail
    refine (bytes_non b o n c f _ hn h0 (hr.below hB1 hlt) hk).mono ?_
    rintro e w1 ⟨rfl, hb⟩
    have hb2 : Below w.heap.size w w1 := hB1.trans (hb.mono hB1.size)
    have hcv := conv_nil w1
    go_wp2
    go_ret
    exact ⟨rfl, hb2⟩

theorem value_any (a : Option Addr) (n c : Nat) (w : World) :
    Calls Tryf.prog 27 #[.slice a n c] w fun e w' => e = .returned (.agg #[.slice a n c]) ∧ w' = w.alloc (.cells #[.slice a n c] 50) := by
  go_enter Tryf.func27, Tryf.ntmps27
  go_wp2
  exact bodyPost_ret (v := .agg #[.slice a n c]) (by simp [results, Tryf.results27, go_sem]) rfl ⟨rfl, rfl⟩

theorem zztext_any (b o n c d : Nat) (f : Nat → Int) (w : World) (hn : n ≤ 2097152) (hcap : n ≤ c) (hr : Rd w b o n f) (hv : Val d f 0 n) :
    Calls Tryf.prog 20 #[.slice (some ⟨b, o, none⟩) n c] w fun e w' => e = .returned (.string (tx f 0 n)) ∧ Below w.heap.size w w' := by
  have h0 : 0 < n := val_lt hv
  have hlt := hr.lt h0
  have hB1 : Below w.heap.size w (w.alloc (.cells #[.slice (some ⟨b, o, none⟩) n c] 50)) := (Below.refl _ w).alloc (Nat.le_refl _) _
  go_enter Tryf.func20, Tryf.ntmps20
  go_wp2_with fail
  refine (value_any _ n c _).mono ?_
  rintro e w1 ⟨rfl, rfl⟩
  go_wp2_with fail
  refine (text_any b o n c d f _ hn hcap (hr.below hB1 hlt) hv).mono ?_
  rintro e w2 ⟨rfl, hb⟩
  have hb2 : Below w.heap.size w w2 := hB1.trans (hb.mono hB1.size)
  go_wp2
  go_ret
  exact ⟨rfl, hb2⟩

end Go.Proofs.Qxb6614548aFmt.Ben
