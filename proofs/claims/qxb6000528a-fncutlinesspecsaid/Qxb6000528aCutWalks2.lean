/-
  The walks, more: the comparison of two slices, the copy.
-/
import Derived.Test.Qxb6000528aCutWalks
namespace Go.Proofs.Qxb6000528a.Cut
open Go.RowKit

set_option maxHeartbeats 400000 in
/-- the comparison of two slices that hold the same bytes -/
theorem same_any (b1 o1 c1 b2 o2 c2 n : Nat) (xs : List Int) (w : World) (hn : n ≤ 1048576)
    (h1 : ∀ i, i < n → w.cell? ⟨b1, o1 + i, none⟩ = some (.int .u8 (xs.getD i 0)))
    (h2 : ∀ i, i < n → w.cell? ⟨b2, o2 + i, none⟩ = some (.int .u8 (xs.getD i 0))) :
    Calls Try.prog 24 #[.slice (some ⟨b1, o1, none⟩) n c1, .slice (some ⟨b2, o2, none⟩) n c2] w fun e w' => e = .returned (.bool true) ∧ ∃ q, w' = w.drewN q := by
  have hq : ((n : Int) != (n : Int)) = false := by simp
  go_enter Try.func24, Try.ntmps24
  go_wp2
  go_loopw [5] (fun i wr => ∃ k q : Nat, k ≤ n ∧ i = .int .i64 k ∧ wr = w.drewN q) (fun i _ => n - (intOf i).toNat)
  case atStart => exact ⟨0, 0, Nat.zero_le _, rfl, rfl⟩
  case round =>
    obtain ⟨k, q, hk, rfl, rfl⟩ := hrel
    by_cases hlt : k < n
    · have hc1 := h1 k hlt
      have hc2 := h2 k hlt
      clear h1 h2
      generalize xs.getD k 0 = y at hc1 hc2
      have hy : (y != y) = false := by simp
      have hlt' : (k : Int) < (n : Int) := by omega
      have h0' : (0 : Int) ≤ (k : Int) := by omega
      go_wp2
      go_quiet (fail)
      go_wp2
      go_roundw
      case rel => exact ⟨k + 1, _, by omega, by go_num, rfl⟩
      case measure => simp [intOf]; omega
    · clear h1 h2
      go_wp2
      go_ret
      exact ⟨rfl, q, rfl⟩

theorem info5 : (Try.prog.info? 5).map (fun i => (i.zero, i.size, i.bytes)) = some (some (.int .u8 0), 1, 1) := by kernel_rfl

/-- the copy of nil -/
theorem copy_nil (w : World) : Calls Try.prog 11 #[.slice none 0 0] w fun e w' => e = .returned (.slice none 0 0) ∧ w' = w := by
  have hq := fun (w : World) => Lib.run_eql_slice_nil (P := Try.prog) w 22 5 none 0 0 0 0 Try.underlying22
  go_enter Try.func11, Try.ntmps11
  go_wp2
  go_ret
  exact ⟨rfl, rfl⟩

/-- the copy of a slice that is not nil: a new row with the same bytes -/
theorem copy_any (x : Addr) (n cap : Nat) (zs : List Int) (w : World) (hn : n ≤ 1048576) (hz : n ≤ zs.length)
    (hc : ∀ i, i < zs.length → w.cell? (x.add i) = some (.int .u8 (zs.getD i 0))) :
    Calls Try.prog 11 #[.slice (some x) n cap] w fun e w' => e = .returned (.slice (some ⟨w.heap.size, 0, none⟩) n n) ∧ Below w.heap.size w w' ∧
      ∀ i, i < n → w'.cell? ⟨w.heap.size, 0 + i, none⟩ = some (.int .u8 ((zs.take n).getD i 0)) := by
  have hq := fun (w : World) => Lib.run_eql_slice_nil (P := Try.prog) w 22 5 (some x) n cap 0 0 Try.underlying22
  obtain ⟨i5, hi, hi0, hi1, hi2⟩ := info_parts info5
  have hmk := run_make (P := Try.prog) w 22 5 i5 (.int .u8 0) Try.underlying22 hi hi0 .i64 .i64 (n : Int) (n : Int) (by omega) (by omega) (by rw [hi2]; omega) (by omega)
  rw [hi1, Int.toNat_natCast, Nat.mul_one] at hmk
  have hsize := size_madeCells (Value.int .u8 0).cells n
  generalize madeCells (Value.int .u8 0).cells n = mc at hmk hsize
  obtain ⟨cs, hcs⟩ : ∃ cs : List Value, cs = (zs.take n).map (Value.int .u8) := ⟨_, rfl⟩
  have hlen : cs.length = n := by rw [hcs]; simp; omega
  have hb0 : Below w.heap.size w (w.alloc (.cells mc 5)) := (Below.refl _ w).alloc (Nat.le_refl _) _
  have hg : (w.alloc (.cells mc 5)).heap[w.heap.size]? = some (.cells mc 5 (0, 0)) := (MapKept.heap_alloc w _).1
  have hsrc : ∀ j v, cs[j]? = some v → (w.alloc (.cells mc 5)).cell? (x.add j) = some v := by
    intro j v hj
    have hjl : j < cs.length := (List.getElem?_eq_some_iff.1 hj).1
    have hcell := hc j (by omega)
    have e1 : v = .int .u8 (zs.getD j 0) := by
      rw [hcs] at hj
      simp only [List.getElem?_map, List.getElem?_take] at hj
      rw [if_pos (by omega)] at hj
      have hz' : zs[j]? = some zs[j] := List.getElem?_eq_getElem (by omega)
      rw [hz'] at hj
      simp at hj
      rw [← hj, List.getD_eq_getElem?_getD, hz']
      rfl
    rw [e1]
    exact cell_later hb0 hcell
  have hrun := fun ty => run_copy_row (P := Try.prog) (w.alloc (.cells mc 5)) 22 22 ty 5 w.heap.size 0 n n x n cap mc 5 cs Try.underlying22 (by rw [hi]; simp [hi1]) hg (by rw [hlen]; exact (Nat.min_self n).symm) hsrc (by omega) (by rw [hcs]; intro v hv; obtain ⟨y, _, rfl⟩ := List.mem_map.1 hv; rfl)
  obtain ⟨W2, hW2⟩ : ∃ W2, (w.alloc (.cells mc 5)).setRow w.heap.size (mc.toList.take 0 ++ cs ++ mc.toList.drop (0 + cs.length)).toArray = W2 := ⟨_, rfl⟩
  rw [hW2, hlen] at hrun
  have hb2 : Below w.heap.size w W2 := by rw [← hW2]; exact below_setRow hb0 (Nat.le_refl _) _
  have hrow : W2.heap[w.heap.size]? = some (.cells cs.toArray 5 (0, 0)) := by
    rw [← hW2, setRow_heap _ _ _ _ _ _ hg]
    have e : mc.toList.take 0 ++ cs ++ mc.toList.drop (0 + cs.length) = cs := by
      simp only [List.take_zero, List.nil_append, Nat.zero_add]
      rw [List.drop_of_length_le (by rw [Array.length_toList]; omega), List.append_nil]
    rw [e]
  have hcell2 : ∀ i, i < n → W2.cell? ⟨w.heap.size, 0 + i, none⟩ = some (.int .u8 ((zs.take n).getD i 0)) := by
    intro i hin
    have hv : cs[i]? = some (.int .u8 ((zs.take n).getD i 0)) := by
      rw [hcs, List.getElem?_map]
      have hil : i < (zs.take n).length := by simp; omega
      rw [List.getD_eq_getElem?_getD, List.getElem?_eq_getElem hil]
      rfl
    simp [World.cell?, hrow, hv]
  clear hW2 hrow hsrc hg hb0 hc
  go_enter Try.func11, Try.ntmps11
  go_wp2
  go_ret
  exact ⟨rfl, hb2, hcell2⟩

end Go.Proofs.Qxb6000528a.Cut
