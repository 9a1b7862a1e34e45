/-
  The walks of Lookup and LookupKind over a dictionary of one entry.
-/
import Derived.Test.Qxb6614548aFmtBenWalks5
import Derived.Test.Qxb6614548aFmtTxtWalks
set_option linter.unusedVariables false
namespace Go.Proofs.Qxb6614548aFmt.Ben
open Go.RowKit

/-- one new block more -/
theorem ba {w W : World} (h : Below w.heap.size w W) (o : Obj) : Below w.heap.size w (W.alloc o) := h.alloc h.size o
/-- what a callee laid -/
theorem bt {w W W' : World} (h : Below w.heap.size w W) (h' : Below W.heap.size W W') : Below w.heap.size w W' := h.trans (h'.mono h.size)

/-- behind a call that laid new blocks alone, all old cells and marks read as before -/
theorem bcell {W w1 : World} (hb : Below W.heap.size W w1) : (∀ b o, b < W.heap.size → w1.cell? ⟨b, o, none⟩ = W.cell? ⟨b, o, none⟩) ∧ (∀ b o, b < W.heap.size → w1.frozen? ⟨b, o, none⟩ = W.frozen? ⟨b, o, none⟩) :=
  ⟨fun b o h => hb.cell (p := ⟨b, o, none⟩) h, fun b o h => hb.frozen (p := ⟨b, o, none⟩) h⟩

/-- the n bytes of f are a dictionary of one entry: its key the byte string from 1 to 17 with the body from 4 on, its value from 17 to V -/
structure Dict (f : Nat → Int) (n V : Nat) : Prop where
  d : f 0 = 100
  key : Str f 1 4 17
  val : ∃ t, Bal f t 0 17 V
  gt : 17 < V
  e : f V = 101
  n : n = V + 1

set_option maxHeartbeats 1000000 in
theorem lookup_hit (b o n c V : Nat) (f : Nat → Int) (w : World) (key : ByteArray) (hn : n ≤ 2097152) (hcap : n ≤ c) (hr : Rd w b o n f) (hD : Dict f n V) (hk : ((win f 4 13).toList == key.toList) = true) :
    Calls Tryf.prog 37 #[.agg #[.slice (some ⟨b, o, none⟩) n c], .string key] w fun e w' => e = .returned (.tuple #[.agg #[.slice (some ⟨b, o + 17, none⟩) (V - 17) (c - 17)], .bool true]) ∧ Below w.heap.size w w' := by
  have h0 : 0 < n := by have := hD.n; omega
  have hV : V < n := by have := hD.n; omega
  have hgt := hD.gt
  have hlt := hr.lt h0
  have hl1 : b < w.heap.size + 1 := by omega
  have hl2 : b < w.heap.size + 1 + 1 := by omega
  have hl3 : b < w.heap.size + 1 + 1 + 1 := by omega
  have HD : Hid (Dict f n V) := hD
  have hB1 : Below w.heap.size w (w.alloc (.cells #[.slice (some ⟨b, o, none⟩) n c] 50)) := (Below.refl _ w).alloc (Nat.le_refl _) _
  have hB2 : Below w.heap.size w ((w.alloc (.cells #[.slice (some ⟨b, o, none⟩) n c] 50)).alloc (.cells #[.slice none 0 0] 50)) := hB1.alloc hB1.size _
  have hB3 : Below w.heap.size w (((w.alloc (.cells #[.slice (some ⟨b, o, none⟩) n c] 50)).alloc (.cells #[.slice none 0 0] 50)).alloc (.cells #[.slice (some ⟨b, o, none⟩) n c] 50)) := hB2.alloc hB2.size _
  have hB4 : Below w.heap.size w ((((w.alloc (.cells #[.slice (some ⟨b, o, none⟩) n c] 50)).alloc (.cells #[.slice none 0 0] 50)).alloc (.cells #[.slice (some ⟨b, o, none⟩) n c] 50)).alloc (.cells #[.slice (some ⟨b, o, none⟩) n c] 50)) := hB3.alloc hB3.size _
  have hc1 : w.cell? ⟨b, o + 1, none⟩ = some (.int .u8 (f 1)) := (hr 1 (by omega)).1
  have hf1 : (f 1 != 101) = true := by
    obtain ⟨k, hk0, hd, _⟩ := hD.key
    have := hd 0 hk0
    unfold Dig at this
    rw [bne_iff_ne]
    simp at this
    omega
  have hn1 : (1 : Int) < (n : Int) := by omega
  have hkd : Hid (kindOf (f 0) = 4) := (by rw [hD.d]; rfl : kindOf (f 0) = 4)
  clear hD
  go_enter Tryf.func37, Tryf.ntmps37
  go_wp2_with fail
  refine (kind_any b o n c f _ hn h0 (hr.below hB2 hlt)).mono ?_
  rintro e w1 ⟨rfl, rfl⟩
  rw [hkd.out]
  go_wp2_with fail
  refine wp_loop_rounds 1 ?_
  rw [rounds_succ]
  go_wp2_with fail
  refine (body_any b o n c 1 4 17 f _ hn (hr.below hB3 hlt) HD.out.key (by omega)).mono ?_
  rintro e w1 ⟨rfl, rfl⟩
  go_wp2_with fail
  refine (next_any b o n c 17 V f _ hn hcap (hr.below hB3 hlt) HD.out.val (by omega)).mono ?_
  rintro e w1 ⟨rfl, rfl⟩
  have hcv := conv_win b o 17 (c - 4) 4 f (o + 4) ((((w.alloc (.cells #[.slice (some ⟨b, o, none⟩) n c] 50)).alloc (.cells #[.slice none 0 0] 50)).alloc (.cells #[.slice (some ⟨b, o, none⟩) n c] 50)).alloc (.cells #[.slice (some ⟨b, o, none⟩) n c] 50)) (fun i hi => (hr.below hB4 hlt) i (by omega)) (by omega) (fun _ => rfl)
  go_wp2_with fail
  exact bodyPost_ret (v := .tuple #[.agg #[.slice (some ⟨b, o + 17, none⟩) (V - 17) (c - 17)], .bool true]) (by simp [results, Tryf.results37, go_sem]) rfl ⟨rfl, ba (ba (ba hB1 _) _) _⟩

set_option maxHeartbeats 1000000 in
theorem lookup_miss (b o n c V : Nat) (f : Nat → Int) (w : World) (key : ByteArray) (hn : n ≤ 2097152) (hcap : n ≤ c) (hr : Rd w b o n f) (hD : Dict f n V) (hk : ((win f 4 13).toList == key.toList) = false) :
    Calls Tryf.prog 37 #[.agg #[.slice (some ⟨b, o, none⟩) n c], .string key] w fun e w' => e = .returned (.tuple #[.agg #[.slice none 0 0], .bool false]) ∧ Below w.heap.size w w' := by
  have h0 : 0 < n := by have := hD.n; omega
  have hV : V < n := by have := hD.n; omega
  have hgt := hD.gt
  have hlt := hr.lt h0
  have hl1 : b < w.heap.size + 1 := by omega
  have hl2 : b < w.heap.size + 1 + 1 := by omega
  have hl3 : b < w.heap.size + 1 + 1 + 1 := by omega
  have HD : Hid (Dict f n V) := hD
  have hB1 : Below w.heap.size w (w.alloc (.cells #[.slice (some ⟨b, o, none⟩) n c] 50)) := (Below.refl _ w).alloc (Nat.le_refl _) _
  have hB2 : Below w.heap.size w ((w.alloc (.cells #[.slice (some ⟨b, o, none⟩) n c] 50)).alloc (.cells #[.slice none 0 0] 50)) := hB1.alloc hB1.size _
  have hB3 : Below w.heap.size w (((w.alloc (.cells #[.slice (some ⟨b, o, none⟩) n c] 50)).alloc (.cells #[.slice none 0 0] 50)).alloc (.cells #[.slice (some ⟨b, o, none⟩) n c] 50)) := hB2.alloc hB2.size _
  have hB4 : Below w.heap.size w ((((w.alloc (.cells #[.slice (some ⟨b, o, none⟩) n c] 50)).alloc (.cells #[.slice none 0 0] 50)).alloc (.cells #[.slice (some ⟨b, o, none⟩) n c] 50)).alloc (.cells #[.slice (some ⟨b, o, none⟩) n c] 50)) := hB3.alloc hB3.size _
  have hc1 : w.cell? ⟨b, o + 1, none⟩ = some (.int .u8 (f 1)) := (hr 1 (by omega)).1
  have hf1 : (f 1 != 101) = true := by
    obtain ⟨k, hk0, hd, _⟩ := hD.key
    have := hd 0 hk0
    unfold Dig at this
    rw [bne_iff_ne]
    simp at this
    omega
  have hn1 : (1 : Int) < (n : Int) := by omega
  have hkd : Hid (kindOf (f 0) = 4) := (by rw [hD.d]; rfl : kindOf (f 0) = 4)
  clear hD
  go_enter Tryf.func37, Tryf.ntmps37
  go_wp2_with fail
  refine (kind_any b o n c f _ hn h0 (hr.below hB2 hlt)).mono ?_
  rintro e w1 ⟨rfl, rfl⟩
  rw [hkd.out]
  go_wp2_with fail
  refine wp_loop_rounds 2 ?_
  rw [rounds_succ]
  go_wp2_with fail
  refine (body_any b o n c 1 4 17 f _ hn (hr.below hB3 hlt) HD.out.key (by omega)).mono ?_
  rintro e w1 ⟨rfl, rfl⟩
  go_wp2_with fail
  refine (next_any b o n c 17 V f _ hn hcap (hr.below hB3 hlt) HD.out.val (by omega)).mono ?_
  rintro e w1 ⟨rfl, rfl⟩
  have hcv := conv_win b o 17 (c - 4) 4 f (o + 4) ((((w.alloc (.cells #[.slice (some ⟨b, o, none⟩) n c] 50)).alloc (.cells #[.slice none 0 0] 50)).alloc (.cells #[.slice (some ⟨b, o, none⟩) n c] 50)).alloc (.cells #[.slice (some ⟨b, o, none⟩) n c] 50)) (fun i hi => (hr.below hB4 hlt) i (by omega)) (by omega) (fun _ => rfl)
  have hcV : w.cell? ⟨b, o + V, none⟩ = some (.int .u8 101) := by have := (hr V hV).1; rw [HD.out.e] at this; exact this
  have hVn : (V : Int) < (n : Int) := by omega
  have hl4 : b < w.heap.size + 1 + 1 + 1 + 1 := by omega
  go_wp2_with fail
  rw [rounds_succ]
  go_wp2_with fail
  exact bodyPost_ret (v := .tuple #[.agg #[.slice none 0 0], .bool false]) (by simp [results, Tryf.results37, go_sem]) rfl ⟨rfl, ba (ba (ba hB1 _) _) _⟩

set_option maxHeartbeats 1000000 in
theorem lookupK_hit (b o n c V : Nat) (f : Nat → Int) (w : World) (key : ByteArray) (hn : n ≤ 2097152) (hcap : n ≤ c) (hr : Rd w b o n f) (hD : Dict f n V) (hk : ((win f 4 13).toList == key.toList) = true) (h17 : f 17 = 108) :
    Calls Tryf.prog 30 #[.agg #[.slice (some ⟨b, o, none⟩) n c], .string key, .int .u8 3] w fun e w' => e = .returned (.tuple #[.agg #[.slice (some ⟨b, o + 17, none⟩) (V - 17) (c - 17)], .bool true, .nilIface]) ∧ Below w.heap.size w w' := by
  have h0 : 0 < n := by have := hD.n; omega
  have hV : V < n := by have := hD.n; omega
  have hgt := hD.gt
  have hlt := hr.lt h0
  have HD : Hid (Dict f n V) := hD
  have Hk : Hid (((win f 4 13).toList == key.toList) = true) := hk
  have HK : Hid (kindOf (f (17 + 0)) = 3) := (by rw [Nat.add_zero, h17]; rfl : kindOf (f (17 + 0)) = 3)
  clear hD hk h17
  have hB2 : Below w.heap.size w ((w.alloc (.cells #[.slice (some ⟨b, o, none⟩) n c] 50)).alloc (.cells #[.slice none 0 0] 50)) := ba (ba (Below.refl _ w) _) _
  go_enter Tryf.func30, Tryf.ntmps30
  go_wp2_with fail
  refine (lookup_hit b o n c V f _ key hn hcap (hr.below hB2 hlt) HD.out Hk.out).mono ?_
  rintro e w1 ⟨rfl, hb1⟩
  have q1 : w1.cell? ⟨w.heap.size + 1, 0, none⟩ = some (.slice none 0 0) := (hb1.cell (p := ⟨w.heap.size + 1, 0, none⟩) (by simp)).trans (by go_simp)
  have q2 : w1.frozen? ⟨w.heap.size + 1, 0, none⟩ = false := (hb1.frozen (p := ⟨w.heap.size + 1, 0, none⟩) (by simp)).trans (by go_simp)
  have hz : w.heap.size + 1 < w1.heap.size := by have := hb1.size; simp at this; omega
  have hz1 : w.heap.size + 1 < w1.heap.size + 1 := by omega
  have hbw : Below w.heap.size w w1 := bt hB2 hb1
  clear hb1
  go_wp2_with fail
  refine (kind_any b (o + 17) (V - 17) (c - 17) (fun j => f (17 + j)) _ (by omega) (by omega) (((hr.below hbw hlt).drop 17 (V - 17) (by omega)).below ((Below.refl _ w1).alloc (Nat.le_refl _) _) (Nat.lt_of_lt_of_le hlt hbw.size))).mono ?_
  rintro e w2 ⟨rfl, rfl⟩
  rw [HK.out]
  go_wp2_with fail
  exact bodyPost_ret (v := .tuple #[.agg #[.slice (some ⟨b, o + 17, none⟩) (V - 17) (c - 17)], .bool true, .nilIface]) (by simp [results, Tryf.results30, go_sem, q1, hz, hz1]) rfl ⟨rfl, ba (ba (hbw.setCell (p := ⟨w.heap.size + 1, 0, none⟩) (by simp) _) _) _⟩

set_option maxHeartbeats 1000000 in
theorem lookupK_miss (b o n c V : Nat) (f : Nat → Int) (w : World) (key : ByteArray) (hn : n ≤ 2097152) (hcap : n ≤ c) (hr : Rd w b o n f) (hD : Dict f n V) (hk : ((win f 4 13).toList == key.toList) = false) :
    Calls Tryf.prog 30 #[.agg #[.slice (some ⟨b, o, none⟩) n c], .string key, .int .u8 2] w fun e w' => e = .returned (.tuple #[.agg #[.slice none 0 0], .bool false, .nilIface]) ∧ Below w.heap.size w w' := by
  have h0 : 0 < n := by have := hD.n; omega
  have hV : V < n := by have := hD.n; omega
  have hgt := hD.gt
  have hlt := hr.lt h0
  have HD : Hid (Dict f n V) := hD
  have Hk : Hid (((win f 4 13).toList == key.toList) = false) := hk
  clear hD hk
  have hB2 : Below w.heap.size w ((w.alloc (.cells #[.slice (some ⟨b, o, none⟩) n c] 50)).alloc (.cells #[.slice none 0 0] 50)) := ba (ba (Below.refl _ w) _) _
  go_enter Tryf.func30, Tryf.ntmps30
  go_wp2_with fail
  refine (lookup_miss b o n c V f _ key hn hcap (hr.below hB2 hlt) HD.out Hk.out).mono ?_
  rintro e w1 ⟨rfl, hb1⟩
  have q1 : w1.cell? ⟨w.heap.size + 1, 0, none⟩ = some (.slice none 0 0) := (hb1.cell (p := ⟨w.heap.size + 1, 0, none⟩) (by simp)).trans (by go_simp)
  have q2 : w1.frozen? ⟨w.heap.size + 1, 0, none⟩ = false := (hb1.frozen (p := ⟨w.heap.size + 1, 0, none⟩) (by simp)).trans (by go_simp)
  have hz : w.heap.size + 1 < w1.heap.size := by have := hb1.size; simp at this; omega
  have hz1 : w.heap.size + 1 < w1.heap.size + 1 := by omega
  have hbw : Below w.heap.size w w1 := bt hB2 hb1
  clear hb1
  go_wp2_with fail
  exact bodyPost_ret (v := .tuple #[.agg #[.slice none 0 0], .bool false, .nilIface]) (by simp [results, Tryf.results30, go_sem, q1, hz]) rfl ⟨rfl, ba (hbw.setCell (p := ⟨w.heap.size + 1, 0, none⟩) (by simp) _) _⟩

end Go.Proofs.Qxb6614548aFmt.Ben
