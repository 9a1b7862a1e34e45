/-
  The walks of stringBody, bytes.IndexByte, Kind and next.
-/
import Derived.Test.Qxb6614548aFmtBenWalks
import Derived.Lib.BytesEntry
import Derived.Deep.QuietTactic
import Derived.BigQuiet
set_option linter.unusedVariables false
namespace Go.Proofs.Qxb6614548aFmt.Ben
open Go.RowKit

set_option maxHeartbeats 1000000 in
/-- stringBody at a whole byte string -/
theorem body_any (b o n c pos s q : Nat) (f : Nat → Int) (w : World) (hn : n ≤ 2097152) (hr : Rd w b o n f) (hs : Str f pos s q) (hq : q ≤ n) :
    Calls Tryf.prog 45 #[.slice (some ⟨b, o, none⟩) n c, .int .i64 pos] w fun e w' => e = .returned (.tuple #[.int .i64 s, .int .i64 q, .nilIface]) ∧ w' = w := by
  obtain ⟨K, hK, hD, h58, rfl, rfl⟩ := hs
  have HD : Hid (∀ j, j < K → Dig (f (pos + j))) := hD
  have H58 : Hid (f (pos + K) = 58) := h58
  have HM : Hid (∀ k, k ≤ K → dv f pos k ≤ dv f pos K) := fun k hk => dv_le f pos hk
  clear hD h58
  go_enter Tryf.func45, Tryf.ntmps45
  go_wp2_with fail
  go_loop [7, 8] (fun v p => ∃ k : Nat, k ≤ K ∧ p = .int .i64 ((pos + k : Nat) : Int) ∧ v = .int .i64 ((dv f pos k : Nat) : Int)) (fun _ p => n - (intOf p).toNat)
  case atStart => exact ⟨0, by omega, rfl, rfl⟩
  case round =>
    obtain ⟨k, hk, rfl, rfl⟩ := hrel
    have HS : Hid (dv f pos (k + 1) = dv f pos k * 10 + (f (pos + k) - 48).toNat) := (rfl : dv f pos (k + 1) = _)
    have hlt : pos + k < n := by omega
    have hlt' : ((pos + k : Nat) : Int) < (n : Int) := by omega
    have hm := HM.out k hk
    by_cases hkK : k < K
    · have hm1 := HM.out (k + 1) (by omega)
      rw [HS.out] at hm1
      have hy := HD.out k hkK
      have Hg : Hid (digB (f (pos + k)) = true) := digB_true.2 hy
      obtain ⟨hc, hy0, hy1⟩ := hr (pos + k) hlt
      unfold Dig at hy
      generalize dv f pos K = V at *
      generalize dv f pos k = v at *
      generalize f (pos + k) = y at *
      have hle' : (v : Int) * 10 + (y - 48) ≤ (n : Int) := by omega
      go_wp2_with fail
      refine (digit_any _ _).mono ?_
      rintro e w1 ⟨rfl, rfl⟩
      rw [Hg.out]
      go_wp2
      go_round
      case rel => exact ⟨k + 1, by omega, by go_num, by rw [HS.out]; go_num⟩
      case measure => simp [intOf]; omega
    · obtain rfl : k = K := by omega
      obtain ⟨hc, hy0, hy1⟩ := hr (pos + k) hlt
      rw [H58.out] at hc
      have hE : (((pos + k : Nat) : Int) == (n : Int)) = false := by rw [beq_eq_false_iff_ne]; omega
      have hE2 : ((pos : Int) + (k : Int) == (n : Int)) = false := by rw [beq_eq_false_iff_ne]; omega
      clear HM HS hm
      generalize hv : dv f pos k = v at *
      have Hv : Hid (dv f pos k = v) := hv
      clear hv
      have hle' : (v : Int) ≤ (n : Int) - ((pos + k : Nat) + 1 : Int) := by omega
      go_wp2_with fail
      refine (digit_any _ _).mono ?_
      rintro e w1 ⟨rfl, rfl⟩
      rw [show digB 58 = false from rfl]
      go_wp2
      go_ret3
      exact ⟨by rw [Hv.out]; simp, rfl⟩

/-- bytes.IndexByte at a slice whose cells are known -/
theorem index_any (b o n c : Nat) (xs : List Int) (cv : Int) (w : World) (hx : xs.length = n)
    (hc : ∀ i, i < n → w.cell? ⟨b, o + i, none⟩ = some (.int .u8 (xs.getD i 0))) :
    Calls Tryf.prog 44 #[.slice (some ⟨b, o, none⟩) n c, .int .u8 cv] w fun e w' => e = .returned (.int .i64 (Lib.indexByte (Lib.bytesOf xs) cv.toNat.toUInt8)) ∧ w' = w := by
  go_enter Tryf.func44, Tryf.ntmps44
  go_wp2
  rw [run_callFunc_extern Tryf.func46 (by kernel_rfl) (by kernel_rfl) (by kernel_rfl) (e := Extern.BytealgIndexByte.indexByte) (by kernel_rfl), Lib.run_indexByteSlice w b o n c xs hx hc cv]
  simp only [Result.andThen]
  rw [Oper.upon_value]
  go_wp2
  go_ret
  exact ⟨rfl, rfl⟩

/-- the first place of a byte in a list -/
theorem index_at : ∀ (l : List Int) (k : Nat) (y : Int), 0 ≤ y → y ≤ 255 → (∀ x ∈ l, 0 ≤ x ∧ x ≤ 255) → k < l.length → l.getD k 0 = y → (∀ j, j < k → l.getD j 0 ≠ y) →
    Lib.indexByte (Lib.bytesOf l) y.toNat.toUInt8 = (k : Int)
  | [], k, y, _, _, _, hk, _, _ => absurd hk (Nat.not_lt_zero _)
  | x :: l, 0, y, _, _, _, _, h, _ => by
    obtain rfl : x = y := by simpa using h
    show (if (x.toNat.toUInt8 == x.toNat.toUInt8) = true then (0 : Int) else _) = _
    rw [beq_self_eq_true]
    rfl
  | x :: l, k + 1, y, h0, h1, hb, hk, h, hn => by
    have hx := hb x (by simp)
    have hne : x ≠ y := by simpa using hn 0 (by omega)
    have ih := index_at l k y h0 h1 (fun z hz => hb z (by simp [hz])) (by simpa using hk) (by simpa using h) (fun j hj => by simpa using hn (j + 1) (by omega))
    have hb2 : (x.toNat.toUInt8 == y.toNat.toUInt8) = false := by
      rw [beq_eq_false_iff_ne]
      intro e
      have := congrArg UInt8.toNat e
      simp at this
      omega
    show (if (x.toNat.toUInt8 == y.toNat.toUInt8) = true then (0 : Int) else if Lib.indexByte (Lib.bytesOf l) y.toNat.toUInt8 == -1 then -1 else Lib.indexByte (Lib.bytesOf l) y.toNat.toUInt8 + 1) = _
    rw [hb2, ih]
    have : ((k : Int) == -1) = false := by rw [beq_eq_false_iff_ne]; omega
    rw [this]
    simp

/-- bytes.IndexByte at a row of which the first place of the byte is known -/
theorem index_f (b o n c k : Nat) (f : Nat → Int) (y : Int) (w : World) (hr : Rd w b o n f) (hy0 : 0 ≤ y) (hy1 : y ≤ 255) (hk : k < n) (hky : f k = y) (hn : ∀ j, j < k → f j ≠ y) :
    Calls Tryf.prog 44 #[.slice (some ⟨b, o, none⟩) n c, .int .u8 y] w fun e w' => e = .returned (.int .i64 (k : Int)) ∧ w' = w := by
  have hg : ∀ i, i < n → ((List.range n).map f).getD i 0 = f i := fun i hi => by simp [hi]
  have h := index_any b o n c ((List.range n).map f) y w (by simp) (fun i hi => by rw [hg i hi]; exact (hr i hi).1)
  rw [index_at ((List.range n).map f) k y hy0 hy1 (fun x hx => by obtain ⟨i, hi, rfl⟩ := List.mem_map.1 hx; exact (hr i (by simpa using hi)).2) (by simpa using hk) (by rw [hg k hk]; exact hky) (fun j hj => by rw [hg j (by omega)]; exact hn j hj)] at h
  exact h

theorem Rd.below {W w : World} {b o n : Nat} {f : Nat → Int} {B : Nat} (hr : Rd W b o n f) (hb : Below B W w) (hlt : b < B) : Rd w b o n f :=
  fun i hi => ⟨(hb.cell (p := ⟨b, o + i, none⟩) hlt).trans (hr i hi).1, (hr i hi).2⟩

theorem Rd.lt {W : World} {b o n : Nat} {f : Nat → Int} (hr : Rd W b o n f) (h0 : 0 < n) : b < W.heap.size := World.block_lt_of_cell? _ _ (hr 0 h0).1

theorem Rd.drop {W : World} {b o n : Nat} {f : Nat → Int} (hr : Rd W b o n f) (k m : Nat) (h : k + m ≤ n) : Rd W b (o + k) m (fun j => f (k + j)) :=
  fun i hi => by have := hr (k + i) (by omega); rw [← Nat.add_assoc] at this; exact this

/-- what Kind answers of the first byte -/
def kindOf (y : Int) : Int := if y = 105 then 1 else if y = 108 then 3 else if y = 100 then 4 else 2

set_option maxHeartbeats 1000000 in
/-- Kind of a value that is not empty -/
theorem kind_any (b o n c : Nat) (f : Nat → Int) (w : World) (hn : n ≤ 2097152) (h0 : 0 < n) (hr : Rd w b o n f) :
    Calls Tryf.prog 38 #[.agg #[.slice (some ⟨b, o, none⟩) n c]] w fun e w' => e = .returned (.int .u8 (kindOf (f 0))) ∧ w' = w.alloc (.cells #[.slice (some ⟨b, o, none⟩) n c] 50) := by
  obtain ⟨hc0, hb0, hb1⟩ := hr 0 h0
  rw [Nat.add_zero] at hc0
  have hlt := hr.lt h0
  have hn0 : ((n : Int) == 0) = false := by rw [beq_eq_false_iff_ne]; omega
  have h0' : (0 : Int) < (n : Int) := by omega
  unfold kindOf
  generalize f 0 = y at *
  by_cases h1 : y = 105
  · subst h1
    go_enter Tryf.func38, Tryf.ntmps38
    go_wp2
    go_ret
    exact ⟨rfl, rfl⟩
  · by_cases h2 : y = 108
    · subst h2
      go_enter Tryf.func38, Tryf.ntmps38
      go_wp2
      go_ret
      exact ⟨rfl, rfl⟩
    · by_cases h3 : y = 100
      · subst h3
        go_enter Tryf.func38, Tryf.ntmps38
        go_wp2
        go_ret
        exact ⟨rfl, rfl⟩
      · rw [if_neg h1, if_neg h2, if_neg h3]
        have g1 : (y == 105) = false := by simp [h1]
        have g2 : (y == 108) = false := by simp [h2]
        have g3 : (y == 100) = false := by simp [h3]
        clear h1 h2 h3
        go_enter Tryf.func38, Tryf.ntmps38
        go_wp2
        go_ret
        exact ⟨rfl, rfl⟩

end Go.Proofs.Qxb6614548aFmt.Ben
