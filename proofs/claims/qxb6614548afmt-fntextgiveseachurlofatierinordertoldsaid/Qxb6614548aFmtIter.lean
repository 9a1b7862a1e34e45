/-
  The iterator: Items, and the function that it hands back, by its contract for a range over a function.
-/
import Derived.RangeFuncNested
import Derived.RangeFuncBound
import Derived.RangeFuncCalls
import Derived.RangeFuncLeaves
import Derived.Shelf.Abstract
import Derived.Shelf.RegionOpen
import Derived.WalkKit
import Derived.OwnWalkIn
import Derived.TacticsInMore
import Derived.LoopNIn
import Derived.LoopIn
import Derived.Test.Qxb6614548aFmtLookWalks
set_option linter.unusedVariables false
namespace Go.Proofs.Qxb6614548aFmt.Ben
open Go.RowKit Go.Shelf

attribute [local go_sem] Oper.semAt_some

/-- two blocks lie as they lay -/
def Two (b c : Nat) (A B : World) : Prop := (B.heap[b]? = A.heap[b]? ∧ B.heap[c]? = A.heap[c]?) ∧ A.heap.size ≤ B.heap.size

theorem Two.refl (b c : Nat) (A : World) : Two b c A A := ⟨⟨rfl, rfl⟩, Nat.le_refl _⟩
theorem two_t {b c : Nat} {A B C : World} (h : Two b c A B) (k : Two b c B C) : Two b c A C := ⟨⟨k.1.1.trans h.1.1, k.1.2.trans h.1.2⟩, Nat.le_trans h.2 k.2⟩
theorem two_b {b c : Nat} {w : World} (hb : b < w.heap.size) (hc : c < w.heap.size) (W : World) (l : Nat) (o o' : Obj) (hl : w.heap.size ≤ l) (h : W.heap[l]? = some o) (_ : o.isCells = false) (_ : o.isWalk = false) : Two b c W (W.putObj l o') :=
  ⟨⟨World.putObj_heap_other (by omega), World.putObj_heap_other (by omega)⟩, by simp⟩
theorem Two.of_below {b c B : Nat} {A A' : World} (h : Below B A A') (hb : b < B) (hc : c < B) : Two b c A A' := ⟨⟨h.block b hb, h.block c hc⟩, h.size⟩
theorem Two.alloc {b c : Nat} {A B : World} (h : Two b c A B) (hb : b < A.heap.size) (hc : c < A.heap.size) (o : Obj) : Two b c A (B.alloc o) :=
  two_t h ⟨⟨Below.heap_alloc _ _ _ (Nat.lt_of_lt_of_le hb h.2), Below.heap_alloc _ _ _ (Nat.lt_of_lt_of_le hc h.2)⟩, by simp⟩
theorem Two.rd {b c : Nat} {A B : World} (h : Two b c A B) {o n : Nat} {f : Nat → Int} (hr : Rd A b o n f) : Rd B b o n f :=
  fun i hi => ⟨(World.cell?_of_block (a := ⟨b, o + i, none⟩) h.1.1).trans (hr i hi).1, (hr i hi).2⟩
theorem Two.cell {b c : Nat} {A B : World} (h : Two b c A B) {j : Nat} {v : Value} (hc : A.cell? ⟨c, j, none⟩ = some v) : B.cell? ⟨c, j, none⟩ = some v :=
  (World.cell?_of_block (a := ⟨c, j, none⟩) h.1.2).trans hc

/-- the span of a value within the n bytes of f -/
abbrev Spn (f : Nat → Int) (n : Nat) : Type := { x : Nat × Nat // x.2 ≤ n ∧ ∃ d, Val d f x.1 x.2 }

theorem Spn.lt {f : Nat → Int} {n : Nat} (x : Spn f n) : x.1.1 < x.1.2 := by obtain ⟨_, d, h⟩ := x.2; exact val_lt h

/-- the spans follow one another from p to m -/
def Link {f : Nat → Int} {n : Nat} : List (Spn f n) → Nat → Nat → Prop
  | [], p, m => p = m
  | x :: l, p, m => x.1.1 = p ∧ Link l x.1.2 m

theorem link_le {f : Nat → Int} {n : Nat} : ∀ {l : List (Spn f n)} {p m : Nat}, Link l p m → p ≤ m
  | [], _, _, h => Nat.le_of_eq h
  | x :: l, p, m, h => by have := x.lt; have := link_le h.2; have := h.1; omega

/-- the value that is handed to the loop's body for a span -/
def spv (b o c : Nat) {f : Nat → Int} {n : Nat} (x : Spn f n) : Array Value := #[.agg #[.slice (some ⟨b, o + x.1.1, none⟩) (x.1.2 - x.1.1) (c - x.1.1)]]

/-- the n bytes of f are a list whose values lie in the spans xs, the closing 'e' at m -/
structure Lst (f : Nat → Int) (n m : Nat) (xs : List (Spn f n)) : Prop where
  l : f 0 = 108
  link : Link xs 1 m
  e : f m = 101
  lt : m < n

set_option maxRecDepth 100000 in
set_option maxHeartbeats 2000000 in
theorem items1_in (k : Nat) (hk : 1 ≤ k) (l Bn b o n c m : Nat) (f : Nat → Int) (xs : List (Spn f n)) (J Jx : List (Spn f n) → World → Prop) (W : World) (hn : n ≤ 2097152) (hcap : n ≤ c) (hL : Lst f n m xs)
    (hr : Rd W b o n f) (hBn : W.cell? ⟨Bn, 0, none⟩ = some (.slice (some ⟨b, o, none⟩) n c)) (hJ : AbidesFrom W.heap.size J)
    (hY : ∀ pre x W1, J pre W1 → pre.length < xs.length → x ∈ xs → YieldAt Fence.wide (k - 1) Tryf.prog l (spv b o c x) W1 fun e W' =>
      (e = .returned (.bool true) ∧ J (pre ++ [x]) W' ∧ Two b Bn W1 W') ∨ (e = .returned (.bool false) ∧ Jx (pre ++ [x]) W'))
    (h0 : J [] W) :
    CallsIn Fence.wide k Tryf.prog 39 #[.func (.yield l) #[] #[], .pointer (some ⟨Bn, 0, none⟩)] W fun e W' => (∃ v, e = .returned v) ∧
      ((∃ ys, ys = xs ∧ J ys W') ∨ (∃ pre, True ∧ Jx pre W')) := by
  have hmn := hL.lt
  have hn0 : 0 < n := by omega
  have hbl := hr.lt hn0
  have hBl : Bn < W.heap.size := World.block_lt_of_cell? _ _ hBn
  have HL : Hid (Lst f n m xs) := hL
  have HK : Hid (kindOf (f 0) = 3) := (by rw [hL.l]; rfl : kindOf (f 0) = 3)
  have hJa : ∀ pre (A : World) (o : Obj), J pre A → J pre (A.alloc o) := fun pre A o h => hJ pre A (A.alloc o) none h (World.grownBy_alloc A o none) (fun r e => by cases e)
  clear hL
  refine callsIn_of_wp Tryf.func39 rfl trivial ?_ rfl
  simp only [Tryf.ntmps39, List.size_toArray, List.length_cons, List.length_nil, Nat.reduceAdd, Nat.reduceSub, Array.replicate_succ, Array.replicate_zero, List.push_toArray, List.append_toArray, List.nil_append, List.cons_append]
  have HY : Hid (∀ pre x W1, J pre W1 → pre.length < xs.length → x ∈ xs → YieldAt Fence.wide (k - 1) Tryf.prog l (spv b o c x) W1 fun e W' =>
      (e = .returned (.bool true) ∧ J (pre ++ [x]) W' ∧ Two b Bn W1 W') ∨ (e = .returned (.bool false) ∧ Jx (pre ++ [x]) W')) := hY
  have HJa : Hid (∀ pre (A : World) (o : Obj), J pre A → J pre (A.alloc o)) := hJa
  have HR : Hid (Rd W b o n f) := hr
  have HB : Hid (W.cell? ⟨Bn, 0, none⟩ = some (.slice (some ⟨b, o, none⟩) n c)) := hBn
  clear hY hJa hJ
  gi_wp2_with fail
  refine ⟨trivial, ?_⟩
  refine (callsIn_wide.2 (kind_any b o n c f _ hn hn0 hr)).mono ?_
  rintro e w1 ⟨rfl, rfl⟩
  rw [HK.out]
  clear hBn hr
  gi_wp2_with fail
  gi_loopw [3] (fun p wr => ∃ (pre rest : List (Spn f n)) (P : Nat), p = .int .i64 (P : Int) ∧ 1 ≤ P ∧ P ≤ m ∧ Hid (xs = pre ++ rest) ∧ Hid (Link rest P m) ∧ Hid (J pre wr) ∧ Hid (Two b Bn W wr)) (fun p _ => n - (intOf p).toNat)
  case atStart => exact ⟨[], xs, 1, rfl, Nat.le_refl _, link_le HL.out.link, rfl, HL.out.link, HJa.out _ _ _ h0, (Two.refl b Bn W).alloc hbl hBl _⟩
  case round =>
    obtain ⟨pre, rest, P, rfl, hP1, hPm, HX, HLk, HJ, HT⟩ := hrel
    have hr := HT.out.rd HR.out
    have hBn := HT.out.cell HB.out
    have hPn : (P : Int) < (n : Int) := by omega
    have hcP := (hr P (by omega)).1
    cases rest with
    | nil =>
      obtain rfl : P = m := HLk.out
      rw [HL.out.e] at hcP
      gi_wp2
      go_end0
      exact ⟨⟨_, rfl⟩, .inl ⟨pre, by have := HX.out; simp at this; exact this.symm, HJ.out⟩⟩
    | cons x rest =>
      obtain ⟨hxP, hlk⟩ := HLk.out
      have hlx := x.lt
      obtain ⟨hxn, d, hv⟩ := x.2
      have hlm := link_le hlk
      have hne : (f P != 101) = true := by
        rw [← hxP, bne_iff_ne]
        have := val_head hv
        unfold Dig at this
        omega
      have HV : Hid (∃ t, Bal f t 0 P x.1.2) := by rw [← hxP]; exact val_bal0 hv
      have hcPn : ¬ c = P := by omega
      have hPx : (P : Int) ≤ (x.1.2 : Int) := by omega
      have hxc : (x.1.2 : Int) ≤ (c : Int) := by omega
      have hwl : b < wr.heap.size := Nat.lt_of_lt_of_le hbl HT.out.2
      have hwB : Bn < wr.heap.size := Nat.lt_of_lt_of_le hBl HT.out.2
      obtain ⟨fn, tmps, assign, body, hy, hR⟩ := HY.out pre x (wr.alloc (.cells #[.slice (some ⟨b, o, none⟩) n c] 50)) (HJa.out _ _ _ HJ.out) (by rw [HX.out]; simp) (by rw [HX.out]; simp)
      have hy' : (Instr.yield l #[.agg #[.slice (some ⟨b, o + P, none⟩) (x.1.2 - P) (c - P)]]).run Tryf.prog (wr.alloc (.cells #[.slice (some ⟨b, o, none⟩) n c] 50)) = .ok (.round l fn tmps assign body) (wr.alloc (.cells #[.slice (some ⟨b, o, none⟩) n c] 50)) := by rw [← hxP]; exact hy
      clear hy
      have HR2 := hR
      clear hR
      gi_wp2_with fail
      refine ⟨trivial, ?_⟩
      refine (callsIn_wide.2 (next_any b o n c P x.1.2 f _ hn hcap hr HV.out hxn)).mono ?_
      rintro e w2 ⟨rfl, rfl⟩
      gi_wp2
      refine HR2.mono ?_
      rintro e W3 (⟨rfl, hJ3, hk3⟩ | ⟨rfl, hJx3⟩)
      · have HJ3 : Hid (J (pre ++ [x]) W3) := hJ3
        have HT3 : Hid (Two b Bn W W3) := two_t (HT.out.alloc hbl hBl _) hk3
        have HLk3 : Hid (Link rest x.1.2 m) := hlk
        have HX3 : Hid (xs = (pre ++ [x]) ++ rest) := (by rw [HX.out]; simp : xs = (pre ++ [x]) ++ rest)
        clear hJ3 hk3 hlk hv
        gi_wp2
        go_roundw
        case rel => exact ⟨pre ++ [x], rest, x.1.2, rfl, by omega, hlm, HX3, HLk3, HJ3, HT3⟩
        case measure => simp [intOf]; omega
      · gi_wp2
        refine bodyPost_ret (results_none rfl _ _ _) rfl ?_
        exact ⟨⟨_, rfl⟩, .inr ⟨pre ++ [x], trivial, hJx3⟩⟩

/-- Items hands back the function over the boxed value -/
theorem items_any (a : Option Addr) (n c : Nat) (w : World) :
    Calls Tryf.prog 31 #[.agg #[.slice a n c]] w fun e w' => e = .returned (.func (.func 39) #[] #[.pointer (some ⟨w.heap.size, 0, none⟩)]) ∧ w' = w.alloc (.cells #[.slice a n c] 50) := by
  go_enter Tryf.func31, Tryf.ntmps31
  go_wp2
  go_ret
  exact ⟨rfl, rfl⟩

/-- the iterator's contract: it hands the spans xs to the body, one behind the other -/
theorem items_stops (k : Nat) (hk : 1 ≤ k) (Bn b o n c m : Nat) (f : Nat → Int) (xs : List (Spn f n)) (w : World) (hn : n ≤ 2097152) (hcap : n ≤ c) (hL : Lst f n m xs)
    (hr : Rd w b o n f) (hBn : w.cell? ⟨Bn, 0, none⟩ = some (.slice (some ⟨b, o, none⟩) n c)) :
    SeqStopsK Fence.wide k Tryf.prog 39 #[.pointer (some ⟨Bn, 0, none⟩)] (spv b o c (f := f) (n := n)) (Two b Bn) (fun ys => ys = xs) (fun _ => True) xs.length w := fun l J Jx W hW hJ hJx hY h0 =>
  have hn0 : 0 < n := by have := hL.lt; omega
  items1_in k hk l Bn b o n c m f xs J Jx W hn hcap hL (hr.below hW (hr.lt hn0)) ((hW.cell (p := ⟨Bn, 0, none⟩) (World.block_lt_of_cell? _ _ hBn)).trans hBn) hJ (fun pre x W1 h1 h2 _ => hY pre x W1 h1 h2) h0

/-- the iterator's contract over a list of one span -/
theorem items_one (k : Nat) (hk : 1 ≤ k) (Bn b o n c m : Nat) (f : Nat → Int) (x : Spn f n) (w : World) (hn : n ≤ 2097152) (hcap : n ≤ c) (hL : Lst f n m [x])
    (hr : Rd w b o n f) (hBn : w.cell? ⟨Bn, 0, none⟩ = some (.slice (some ⟨b, o, none⟩) n c)) :
    SeqStopsK Fence.wide k Tryf.prog 39 #[.pointer (some ⟨Bn, 0, none⟩)] (fun _ : Unit => spv b o c x) (Two b Bn) (fun ys => ys = [()]) (fun _ => True) 1 w := fun l J Jx W hW hJ hJx hY h0 => by
  have hn0 : 0 < n := by have := hL.lt; omega
  refine (items1_in k hk l Bn b o n c m f [x] (fun pre W => J (pre.map fun _ => ()) W) (fun pre W => Jx (pre.map fun _ => ()) W) W hn hcap hL (hr.below hW (hr.lt hn0)) ((hW.cell (p := ⟨Bn, 0, none⟩) (World.block_lt_of_cell? _ _ hBn)).trans hBn)
    (fun pre A A' row h1 h2 h3 => hJ _ A A' row h1 h2 h3) ?_ h0).mono ?_
  · intro pre y W1 h1 h2 h3
    obtain rfl : y = x := by simpa using h3
    have := hY (pre.map fun _ => ()) () W1 h1 (by simpa using h2)
    simpa using this
  · rintro e W' ⟨h1, ⟨ys, rfl, h2⟩ | ⟨pre, h2, h3⟩⟩
    · exact ⟨h1, .inl ⟨_, rfl, h2⟩⟩
    · exact ⟨h1, .inr ⟨_, h2, h3⟩⟩

end Go.Proofs.Qxb6614548aFmt.Ben
