/-
  The small functions that the law calls: zzBytes, zzStringsEqual, ZZreadTrackers.
-/
import Derived.Test.Qxb6614548aFmtTrk
import Derived.Test.Qxb6614548aFmtTxtWalks2
set_option linter.unusedVariables false
namespace Go.Proofs.Qxb6614548aFmt.Ben
open Go.RowKit Go.Shelf Go.Extern.Stop Go.Stop Go.Extern

attribute [local go_sem] Oper.semAt_some

/-- the cells of the given rows: N slices from ⟨ab, ao⟩ on -/
def Its (w : World) (ab ao N : Nat) (A : Nat → Option Addr) (L C : Nat → Nat) : Prop := ∀ r, r < N → w.cell? ⟨ab, ao + r, none⟩ = some (.slice (A r) (L r) (C r)) ∧ L r ≤ 9223372036854775807

set_option maxRecDepth 100000 in
set_option maxHeartbeats 2000000 in
theorem bytes_any (a : Option Addr) (ab ao N cap : Nat) (A : Nat → Option Addr) (L C : Nat → Nat) (w : World) (hN : N ≤ 9223372036854775807) (hI : Its w ab ao N A L C) (ha : 0 < N → a = some ⟨ab, ao, none⟩) :
    Calls Tryf.prog 19 #[.slice a N cap] w fun e w' => ((e = .returned (.bool true) ∧ N ≤ 1048576 ∧ Hid (∀ r, r < N → L r ≤ 1048576)) ∨ e = .returned (.bool false)) ∧ w' = w := by
  go_enter Tryf.func19, Tryf.ntmps19
  by_cases h1 : N ≤ 1048576
  · have h1' : decide ((1048576 : Int) < (N : Int)) = false := decide_eq_false (by omega)
    go_wp2
    go_loop [3, 4] (fun t i => ∃ (T I : Nat), t = .int .i64 (T : Int) ∧ i = .int .i64 (I : Int) ∧ T ≤ 1048576 ∧ I ≤ N ∧ Hid (∀ r, r < I → L r ≤ 1048576)) (fun _ i => N - (intOf i).toNat)
    case atStart => exact ⟨N, 0, rfl, rfl, h1, Nat.zero_le _, fun r h => absurd h (Nat.not_lt_zero _)⟩
    case round =>
      obtain ⟨T, I, rfl, rfl, hT, hIN, HL⟩ := hrel
      by_cases hlt : I < N
      · have hlt' : (I : Int) < (N : Int) := by omega
        obtain rfl := ha (by omega)
        clear ha
        obtain ⟨hc, hm⟩ := hI I hlt
        by_cases h2 : L I ≤ 1048576
        · have h2' : decide ((1048576 : Int) < (L I : Int)) = false := decide_eq_false (by omega)
          by_cases h3 : T + L I ≤ 1048576
          · have h3' : decide ((1048576 : Int) < (T : Int) + (L I : Int)) = false := decide_eq_false (by omega)
            go_wp2
            go_round
            case rel => exact ⟨T + L I, I + 1, by simp, by simp, h3, by omega, fun r h => by rcases Nat.lt_or_ge r I with h' | h'; exact HL.out r h'; have e : r = I := by omega
                                                                                             rw [e]; exact h2⟩
            case measure => simp [intOf]; omega
          · have h3' : decide ((1048576 : Int) < (T : Int) + (L I : Int)) = true := decide_eq_true (by omega)
            go_wp2
            go_ret
            first | exact ⟨.inr rfl, rfl⟩ | exact .inr rfl
        · have h2' : decide ((1048576 : Int) < (L I : Int)) = true := decide_eq_true (by omega)
          go_wp2
          go_ret
          first | exact ⟨.inr rfl, rfl⟩ | exact .inr rfl
      · have hlt' : ¬ (I : Int) < (N : Int) := by omega
        have HL' : Hid (∀ r, r < N → L r ≤ 1048576) := fun r h => HL.out r (by omega)
        go_wp2
        go_ret
        first | exact ⟨.inl ⟨rfl, h1, HL'⟩, rfl⟩ | exact ⟨.inl rfl, rfl⟩
  · have h1' : decide ((1048576 : Int) < (N : Int)) = true := decide_eq_true (by omega)
    go_wp2
    go_ret
    first | exact ⟨.inr rfl, rfl⟩ | exact .inr rfl

set_option maxRecDepth 100000 in
set_option maxHeartbeats 2000000 in
theorem strsEq_any (g1 g2 K c1 c2 : Nat) (ss : List ByteArray) (w : World) (hK : K ≤ 2097152) (h1 : ∀ i, i < K → w.cell? ⟨g1, i, none⟩ = some (.string (sAt ss i))) (h2 : ∀ i, i < K → w.cell? ⟨g2, i, none⟩ = some (.string (sAt ss i))) :
    Calls Tryf.prog 22 #[.slice (some ⟨g1, 0, none⟩) K c1, .slice (some ⟨g2, 0, none⟩) K c2] w fun e w' => e = .returned (.bool true) ∧ ∃ q, w' = w.drewN q := by
  have hmx : Tryf.prog.follows .mixedOrders = true := by kernel_rfl
  go_enter Tryf.func22, Tryf.ntmps22
  go_wp2
  go_loopw [5] (fun i wr => ∃ (I q : Nat), i = .int .i64 (I : Int) ∧ I ≤ K ∧ Hid (wr = w.drewN q)) (fun i _ => K - (intOf i).toNat)
  case atStart => exact ⟨0, 0, rfl, Nat.zero_le _, rfl⟩
  case round =>
    obtain ⟨I, q, rfl, hIK, Hq⟩ := hrel
    by_cases hlt : I < K
    · have hlt' : (I : Int) < (K : Int) := by omega
      have hc1 : wr.cell? ⟨g1, I, none⟩ = some (.string (sAt ss I)) := by rw [Hq.out]; exact h1 I hlt
      have hc2 : wr.cell? ⟨g2, I, none⟩ = some (.string (sAt ss I)) := by rw [Hq.out]; exact h2 I hlt
      go_wp2
      go_region
      all_goals (
        go_wp2
        go_roundw
        case rel => exact ⟨I + 1, q + 1, by simp, by omega, by have := Hq.out; subst this; rfl⟩
        case measure => simp [intOf]; omega)
    · have hlt' : ¬ (I : Int) < (K : Int) := by omega
      go_wp2
      go_ret
      exact ⟨rfl, q, Hq.out⟩

theorem zzread_any (F : Interp) (b o n c V m1 m2 : Nat) (f : Nat → Int) (x0 : Spn (fun j => f (17 + j)) (V - 17)) (xs : List (Spn (fun j => f (17 + (x0.1.1 + j))) (x0.1.2 - x0.1.1))) (w : World)
    (hF : F.told.answers w.tape) (hn : n ≤ 2097152) (hcap : n ≤ c) (hr : Rd w b o n f) (hD : Dict f n V)
    (hk1 : ((win f 4 13).toList == (⟨#[97, 110, 110, 111, 117, 110, 99, 101, 45, 108, 105, 115, 116]⟩ : ByteArray).toList) = true)
    (hk2 : ((win f 4 13).toList == (⟨#[97, 110, 110, 111, 117, 110, 99, 101]⟩ : ByteArray).toList) = false) (h17 : f 17 = 108)
    (hL1 : Lst (fun j => f (17 + j)) (V - 17) m1 [x0]) (hL2 : Lst (fun j => f (17 + (x0.1.1 + j))) (x0.1.2 - x0.1.1) m2 xs) :
    Calls Tryf.prog 12 #[.slice (some ⟨b, o, none⟩) n c] w fun e w' => ∃ T Wv, e = .returned (.tuple #[T, Wv]) ∧ TierOk w.heap.size (kept (sx xs)) T w' ∧
      ((wn xs = 0 ∧ Wv = .slice none 0 0) ∨ (0 < wn xs ∧ ∃ g cap, Wv = .slice (some ⟨g, 0, none⟩) 1 cap)) ∧ Below w.heap.size w w' := by
  have h0 : 0 < n := by have := hD.n; omega
  have hbl := hr.lt h0
  have HA : Hid _ := trackers_any F b o n c V m1 m2 f x0 xs (w.alloc (.cells #[.slice (some ⟨b, o, none⟩) n c] 50)) hF hn hcap (hr.below (ba (Below.refl _ w) _) hbl) hD hk1 hk2 h17 hL1 hL2
  clear hr hD hk1 hk2 h17 hL1 hL2
  go_enter Tryf.func12, Tryf.ntmps12
  go_wp2_with fail
  refine (value_any (some ⟨b, o, none⟩) n c w).mono ?_
  rintro e w1 ⟨rfl, rfl⟩
  go_wp2_with fail
  refine Calls.mono HA.out ?_
  rintro e w2 ⟨T, Wv, rfl, hT, hW, hb⟩
  go_wp2
  refine bodyPost_ret (v := .tuple #[T, Wv]) (by simp [results, Tryf.results12, go_sem]) rfl ⟨T, Wv, rfl, ?_, hW, (ba (Below.refl _ w) _).trans (hb.mono (by simp))⟩
  rcases hT with h | ⟨h, v2, h1, h2⟩
  · exact .inl h
  · exact .inr ⟨h, v2, row_base h1 (by simp), row_base h2 (by simp)⟩

end Go.Proofs.Qxb6614548aFmt.Ben
