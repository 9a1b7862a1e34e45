/-
  The walk of zzIsTextOf.
-/
import Derived.Test.Qxb6614548aFmtTxtWalks
set_option linter.unusedVariables false
namespace Go.Proofs.Qxb6614548aFmt.Ben
open Go.RowKit

theorem win_get (f : Nat → Int) (s m i : Nat) (hi : i < m) (hb : 0 ≤ f (s + i) ∧ f (s + i) ≤ 255) (h : i < (win f s m).size) : (((win f s m)[i]'h).toNat : Int) = f (s + i) := by
  have e : (win f s m)[i]'h = UInt8.ofNat (f (s + i)).toNat := by
    show (win f s m).data[i]'h = _
    simp [win, strOfNums]
  rw [e]
  simp
  omega

set_option maxHeartbeats 2000000 in
theorem istext_str (b o n c s : Nat) (f : Nat → Int) (w : World) (hn : n ≤ 2097152) (hr : Rd w b o n f) (hs : Str f 0 s n) (tt : ByteArray) (htt : tt.size = n - s) (hte : ∀ i (h : i < tt.size), ((tt[i]'h).toNat : Int) = f (s + i)) :
    Calls Tryf.prog 21 #[.slice (some ⟨b, o, none⟩) n c, .string tt] w fun e w' => e = .returned (.bool true) ∧ ∃ q, w' = w.drewN q := by
  have hsl := hs.lt
  obtain ⟨k, hk, hdk, h58, hsk, hq⟩ := hs
  rw [Nat.zero_add] at hsk h58
  obtain ⟨hc0, hb0, hb1⟩ := hr 0 (by omega)
  rw [Nat.add_zero] at hc0
  have Hd : Hid (digB (f 0) = true) := digB_true.2 (by have := hdk 0 hk; simpa using this)
  have HD : Hid (∀ j, j < k → Dig (f j)) := fun j hj => by have := hdk j hj; rwa [Nat.zero_add] at this
  have HM : Hid (∀ j, j ≤ k → dv f 0 j ≤ dv f 0 k) := fun j hj => dv_le f 0 hj
  have HQ : Hid (dv f 0 k = n - s) := (by omega : dv f 0 k = n - s)
  have HTE : Hid (∀ i (h : i < tt.size), ((tt[i]'h).toNat : Int) = f (s + i)) := hte
  obtain ⟨hck, _, _⟩ := hr k (by omega)
  rw [h58] at hck
  have hn0 : ((n : Int) == 0) = false := by rw [beq_eq_false_iff_ne]; omega
  have hkn : (k : Int) < (n : Int) := by omega
  have hk1 : decide ((k : Int) < 1) = false := decide_eq_false (by omega)
  have hmm : (n : Int) - (tt.size : Int) - 1 = (k : Int) := by rw [htt]; omega
  have hts : tt.size ≤ n := by omega
  have Htt : Hid (tt.size = n - s) := htt
  clear hdk h58 hq hte htt
  go_enter Tryf.func21, Tryf.ntmps21
  go_wp2_with fail
  refine (zzdigit_any _ _).mono ?_
  rintro e w1 ⟨rfl, rfl⟩
  rw [Hd.out]
  go_wp2_with fail
  go_loop [6, 7] (fun v p => ∃ j : Nat, j ≤ k ∧ p = .int .i64 (j : Int) ∧ v = .int .i64 ((dv f 0 j : Nat) : Int)) (fun _ p => n - (intOf p).toNat)
  case atStart => exact ⟨0, by omega, rfl, rfl⟩
  case round =>
    obtain ⟨j, hj, rfl, rfl⟩ := hrel
    have HS : Hid (dv f 0 (j + 1) = dv f 0 j * 10 + (f (0 + j) - 48).toNat) := (rfl : dv f 0 (j + 1) = _)
    rw [Nat.zero_add] at HS
    have hm := HM.out j hj
    by_cases hjk : j < k
    · have hm1 := HM.out (j + 1) (by omega)
      rw [HS.out] at hm1
      have hy := HD.out j hjk
      have Hg : Hid (digB (f j) = true) := digB_true.2 hy
      obtain ⟨hc, hy0, hy1⟩ := hr j (by omega)
      have hjn : (j : Int) < (n : Int) := by omega
      have hQ := HQ.out
      unfold Dig at hy
      generalize dv f 0 k = V at *
      generalize dv f 0 j = v at *
      generalize f j = y at *
      have hle' : (v : Int) * 10 + (y - 48) ≤ (n : Int) := by omega
      clear hQ hm hm1
      go_wp2_with fail
      refine (zzdigit_any _ _).mono ?_
      rintro e w1 ⟨rfl, rfl⟩
      rw [Hg.out]
      go_wp2
      go_round
      case rel => exact ⟨j + 1, by omega, by go_num, by rw [HS.out]; go_num⟩
      case measure => simp [intOf]; omega
    · obtain rfl : j = k := by omega
      clear HS hm
      rw [HQ.out, ← Htt.out]
      have hne : ((tt.size : Int) != (tt.size : Int)) = false := by simp
      go_wp2_with fail
      go_loopw [8] (fun p wr => ∃ i q : Nat, i ≤ tt.size ∧ p = .int .i64 (i : Int) ∧ wr = w1.drewN q) (fun p _ => tt.size - (intOf p).toNat)
      case atStart => exact ⟨0, 0, Nat.zero_le _, rfl, rfl⟩
      case round =>
        obtain ⟨i, q, hi, rfl, rfl⟩ := hrel
        by_cases hlt : i < tt.size
        · have hcell := (hr (j + 1 + i) (by have := Htt.out; omega)).1
          rw [show o + (j + 1 + i) = o + (j + 1 + i) from rfl] at hcell
          have hti := HTE.out i hlt
          rw [hsk] at hti
          have hi' : (i : Int) < (tt.size : Int) := by omega
          have hx1 : (j : Int) + 1 + (i : Int) < (n : Int) := by have := Htt.out; omega
          rw [← hti] at hcell
          have hy : ((tt[i].toNat : Int) != (tt[i].toNat : Int)) = false := by simp
          clear hti
          go_wp2_with fail
          go_quiet (fail)
          go_wp2
          go_roundw
          case rel => exact ⟨i + 1, _, by omega, by go_num, rfl⟩
          case measure => simp [intOf]; omega
        · go_wp2
          go_ret
          exact ⟨rfl, q, rfl⟩

set_option maxHeartbeats 1000000 in
/-- zzIsTextOf of a value and its text -/
theorem istext_any (b o n c d : Nat) (f : Nat → Int) (w : World) (hn : n ≤ 2097152) (hr : Rd w b o n f) (hv : Val d f 0 n) :
    Calls Tryf.prog 21 #[.slice (some ⟨b, o, none⟩) n c, .string (tx f 0 n)] w fun e w' => e = .returned (.bool true) ∧ ∃ q, w' = w.drewN q := by
  have h0 : 0 < n := val_lt hv
  cases hd : digB (f 0) with
  | true =>
    obtain ⟨s, hs⟩ := val_dig hv (digB_true.1 hd)
    have hsl := hs.lt
    rw [tx_str hs]
    exact istext_str b o n c s f w hn hr hs _ (win_size _ _ _) (fun i h => by rw [win_size] at h; exact win_get f s (n - s) i h (hr (s + i) (by omega)).2 _)
  | false =>
    rw [tx_non hd]
    obtain ⟨hc0, hb0, hb1⟩ := hr 0 h0
    rw [Nat.add_zero] at hc0
    have Hd : Hid (digB (f 0) = false) := hd
    have hn0 : ((n : Int) == 0) = false := by rw [beq_eq_false_iff_ne]; omega
    have h0' : (0 : Int) < (n : Int) := by omega
    clear hd hv
    go_enter Tryf.func21, Tryf.ntmps21
    go_wp2_with fail
    refine (zzdigit_any _ _).mono ?_
    rintro e w1 ⟨rfl, rfl⟩
    rw [Hd.out]
    go_wp2
    go_ret
    exact ⟨rfl, 0, rfl⟩

end Go.Proofs.Qxb6614548aFmt.Ben
