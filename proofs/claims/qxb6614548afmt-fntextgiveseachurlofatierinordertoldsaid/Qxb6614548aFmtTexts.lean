/-
  The walk of texts: a range over the iterator.
-/
import Derived.Test.Qxb6614548aFmtTextsAid
set_option linter.unusedVariables false
namespace Go.Proofs.Qxb6614548aFmt.Ben
open Go.RowKit Go.Shelf Go.Extern.Stop Go.Stop Go.Extern

attribute [local go_sem] Oper.semAt_some

theorem boxed_drew {W : World} {B : Nat} {t : TypeId} {v : Value} (h : Boxed W B t v) : Boxed W.drew B t v := h
theorem row_drew {W : World} {base : Nat} {e : TypeId} {size k : Nat} {v : Value} {xs : List Value} (h : W.ownsRow base e size v k xs) : W.drew.ownsRow base e size v k xs := h

theorem set_same {W : World} {B : Nat} {t : TypeId} {v : Value} (h : Boxed W B t v) : W.setCell ⟨B, 0, none⟩ v = W := by
  have hh : W.heap.modify B (fun | .cells c elem frozen => .cells (if (none : Option Nat).isSome then c else c.setIfInBounds 0 v) elem frozen | o => o) = W.heap := by
    apply Array.ext (by simp)
    intro i h1 h2
    rw [Array.getElem_modify]
    split
    · rename_i e
      subst e
      have hg : W.heap[B] = .cells #[v] t (0, 0) := by
        have := show W.heap[B]? = _ from h
        rw [Array.getElem?_eq_getElem h2] at this
        exact Option.some.inj this
      rw [hg]
      simp
    · rfl
  show { W with heap := _ } = W
  exact congrArg (fun x => { W with heap := x }) hh

theorem err_step {f : Nat → Int} {n b o c B6 N0 B1 B2 B3 B5 : Nat} {w W w2 w5 : World} {pre : List (Spn f n)} {x : Spn f n} {v : Value} {s : ByteArray} (hB : Below N0 w W) (st2 : Stp b B6 N0 W w2)
    (hbW : b < W.heap.size) (hc6 : B6 < W.heap.size) (hN : N0 ≤ W.heap.size) (hbl : b < N0) (q1 : N0 < B1) (q2 : B1 < B2) (q3 : B2 < B3) (q5 : B3 < B5) (q6 : B5 < B6)
    (e1 : Boxed w2 B1 28 v) (e2 : Boxed w2 B2 3 (.int .i64 (wn pre))) (e3 : Boxed w2 B3 45 .nilIface) (e5 : Boxed w2 B5 3 (.int .i64 (pre.length + 1))) (e6 : Boxed w2 B6 50 (.slice (some ⟨b, o, none⟩) n c))
    (oS2 : w2.ownsRow N0 9 1 v (sx pre).length (strs (sx pre))) (hsn : sx (pre ++ [x]) = sx pre ∧ wn (pre ++ [x]) = wn pre + 1) (hw0 : wn pre = 0) (o1 o2 : Obj)
    (hb5 : Below (((w2.setCell ⟨B2, 0, none⟩ (.int .i64 1)).alloc o1).alloc o2).drew.heap.size (((w2.setCell ⟨B2, 0, none⟩ (.int .i64 1)).alloc o1).alloc o2).drew w5)
    (hbs : Boxed w5 (((w2.setCell ⟨B2, 0, none⟩ (.int .i64 1)).alloc o1).alloc o2).drew.heap.size 57 (.string s)) (hss : s.size ≤ 1000) :
    Stp b B6 N0 W (w5.setCell ⟨B3, 0, none⟩ (.iface 55 (.pointer (some ⟨w2.heap.size + 1 + 1, 0, none⟩)))) ∧
    (fun (pre : List (Spn f n)) W => (((((∃ v, Boxed W B1 28 v ∧ W.ownsRow N0 9 1 v (sx pre).length (strs (sx pre)) ∧ True) ∧ Boxed W B2 3 (.int .i64 (wn pre))) ∧ Boxed W B5 3 (.int .i64 pre.length)) ∧ ErrOk N0 B3 pre W) ∧ Boxed W B6 50 (.slice (some ⟨b, o, none⟩) n c)) ∧ Below N0 w W) (pre ++ [x])
      (w5.setCell ⟨B3, 0, none⟩ (.iface 55 (.pointer (some ⟨w2.heap.size + 1 + 1, 0, none⟩)))) := by
  have hsz : (((w2.setCell ⟨B2, 0, none⟩ (.int .i64 1)).alloc o1).alloc o2).drew.heap.size = w2.heap.size + 1 + 1 := by simp [World.setCell, World.drew]
  have hs2 := st2.t.2
  have st3 := ((st2.set (B := B2) (by omega) (by omega) hbl (.int .i64 1)).alloc hbW hc6 hN o1).alloc hbW hc6 hN o2
  have st4 := (st3.drew.call hb5 hbW hc6 hN).set (B := B3) (by omega) (by omega) hbl (.iface 55 (.pointer (some ⟨w2.heap.size + 1 + 1, 0, none⟩)))
  rw [hsz] at hbs
  have up : ∀ {B : Nat} {t : TypeId} {u : Value}, B ≠ B2 → B ≠ B3 → Boxed w2 B t u → Boxed (w5.setCell ⟨B3, 0, none⟩ (.iface 55 (.pointer (some ⟨w2.heap.size + 1 + 1, 0, none⟩)))) B t u := fun h1 h2 hb => (boxed_below (boxed_drew (((hb.other h1 (.int .i64 1)).alloc o1).alloc o2)) hb5).other h2 _
  have e2' := (boxed_below (boxed_drew (((e2.set (.int .i64 1)).alloc o1).alloc o2)) hb5).other (B' := B3) (by omega) (.iface 55 (.pointer (some ⟨w2.heap.size + 1 + 1, 0, none⟩)))
  have e3' := boxed_below (boxed_drew (((e3.other (B' := B2) (by omega) (.int .i64 1)).alloc o1).alloc o2)) hb5
  refine ⟨st4, ⟨⟨⟨⟨⟨⟨v, up (by omega) (by omega) e1, ?_, trivial⟩, ?_⟩, ?_⟩, ?_⟩, up (by omega) (by omega) e6⟩, hB.trans st4.l⟩⟩
  · rw [hsn.1]
    exact row_other (row_below (row_drew (((row_other oS2 e2 (by decide) (.int .i64 1)).alloc o1).alloc o2)) hb5) e3' (by decide) _
  · rw [hsn.2, hw0]
    exact e2'
  · simpa using up (by omega) (by omega) e5
  · have := e3.lt
    exact .inr ⟨by rw [hsn.2]; omega, _, s, e3'.set _, hbs.other (by omega) _, hss, by omega⟩

set_option maxRecDepth 100000 in
set_option maxHeartbeats 4000000 in
theorem texts_any (F : Interp) (b o n c m : Nat) (f : Nat → Int) (xs : List (Spn f n)) (w : World) (hF : F.told.answers w.tape) (hn : n ≤ 2097152) (hcap : n ≤ c) (hL : Lst f n m xs) (hr : Rd w b o n f) :
    Calls Tryf.prog 32 #[.agg #[.slice (some ⟨b, o, none⟩) n c]] w fun e w' => ∃ v er, e = .returned (.tuple #[v, .int .i64 (wn xs), er]) ∧ w'.ownsRow w.heap.size 9 1 v (sx xs).length (strs (sx xs)) ∧
      ((wn xs = 0 ∧ er = .nilIface) ∨ (0 < wn xs ∧ ∃ g s, er = .iface 55 (.pointer (some ⟨g, 0, none⟩)) ∧ Boxed w' g 57 (.string s) ∧ s.size ≤ 1000 ∧ w.heap.size ≤ g)) ∧ Below w.heap.size w w' := by
  have hmn := hL.lt
  have hn0 : 0 < n := by omega
  have hbl := hr.lt hn0
  have HL : Hid (Lst f n m xs) := hL
  have HK : Hid (kindOf (f 0) = 3) := (by rw [hL.l]; rfl : kindOf (f 0) = 3)
  clear hL
  obtain ⟨i0, hi, hz0, hz1, hz2⟩ := info_parts info9
  refine (callsIn_wide (n := 3)).1 ?_
  refine callsIn_of_wp_marks Tryf.func32 rfl trivial ?_ rfl
  simp only [Tryf.ntmps32, List.size_toArray, List.length_cons, List.length_nil, Nat.reduceAdd, Nat.reduceSub, Array.replicate_succ, Array.replicate_zero, List.push_toArray, List.append_toArray, List.nil_append, List.cons_append]
  gi_wp2_with fail
  refine ⟨trivial, ?_⟩
  refine (callsIn_wide.2 (kind_any b o n c f _ hn hn0 (hr.below (ba (ba (ba (ba (Below.refl _ w) _) _) _) _) hbl))).mono ?_
  rintro e w1 ⟨rfl, rfl⟩
  rw [HK.out]
  gi_wp2_with fail
  refine ⟨trivial, ?_⟩
  refine (callsIn_wide.2 (items_any (some ⟨b, o, none⟩) n c _)).mono ?_
  rintro e w1 ⟨rfl, rfl⟩
  gi_wp2_with fail
  have b1 := ((((((Boxed.new (w.alloc (.cells #[.slice (some ⟨b, o, none⟩) n c] 50)) 28 (.slice none 0 0)).alloc (.cells #[.int .i64 0] 3)).alloc (.cells #[.nilIface] 45)).alloc (.cells #[.slice (some ⟨b, o, none⟩) n c] 50)).alloc (.cells #[.int .i64 0] 3)).alloc (.cells #[.slice (some ⟨b, o, none⟩) n c] 50))
  have b2 := (((((Boxed.new ((w.alloc (.cells #[.slice (some ⟨b, o, none⟩) n c] 50)).alloc (.cells #[.slice none 0 0] 28)) 3 (.int .i64 0)).alloc (.cells #[.nilIface] 45)).alloc (.cells #[.slice (some ⟨b, o, none⟩) n c] 50)).alloc (.cells #[.int .i64 0] 3)).alloc (.cells #[.slice (some ⟨b, o, none⟩) n c] 50))
  have b3 := ((((Boxed.new (((w.alloc (.cells #[.slice (some ⟨b, o, none⟩) n c] 50)).alloc (.cells #[.slice none 0 0] 28)).alloc (.cells #[.int .i64 0] 3)) 45 .nilIface).alloc (.cells #[.slice (some ⟨b, o, none⟩) n c] 50)).alloc (.cells #[.int .i64 0] 3)).alloc (.cells #[.slice (some ⟨b, o, none⟩) n c] 50))
  have b5 := ((Boxed.new (((((w.alloc (.cells #[.slice (some ⟨b, o, none⟩) n c] 50)).alloc (.cells #[.slice none 0 0] 28)).alloc (.cells #[.int .i64 0] 3)).alloc (.cells #[.nilIface] 45)).alloc (.cells #[.slice (some ⟨b, o, none⟩) n c] 50)) 3 (.int .i64 0)).alloc (.cells #[.slice (some ⟨b, o, none⟩) n c] 50))
  have b6 := Boxed.new ((((((w.alloc (.cells #[.slice (some ⟨b, o, none⟩) n c] 50)).alloc (.cells #[.slice none 0 0] 28)).alloc (.cells #[.int .i64 0] 3)).alloc (.cells #[.nilIface] 45)).alloc (.cells #[.slice (some ⟨b, o, none⟩) n c] 50)).alloc (.cells #[.int .i64 0] 3)) 50 (.slice (some ⟨b, o, none⟩) n c)
  have hB0 := ba (ba (ba (ba (ba (ba (ba (Below.refl _ w) (.cells #[.slice (some ⟨b, o, none⟩) n c] 50)) (.cells #[.slice none 0 0] 28)) (.cells #[.int .i64 0] 3)) (.cells #[.nilIface] 45)) (.cells #[.slice (some ⟨b, o, none⟩) n c] 50)) (.cells #[.int .i64 0] 3)) (.cells #[.slice (some ⟨b, o, none⟩) n c] 50)
  simp only [World.size_alloc] at b1 b2 b3 b5 b6
  have hsz : (((((((w.alloc (.cells #[.slice (some ⟨b, o, none⟩) n c] 50)).alloc (.cells #[.slice none 0 0] 28)).alloc (.cells #[.int .i64 0] 3)).alloc (.cells #[.nilIface] 45)).alloc (.cells #[.slice (some ⟨b, o, none⟩) n c] 50)).alloc (.cells #[.int .i64 0] 3)).alloc (.cells #[.slice (some ⟨b, o, none⟩) n c] 50)).heap.size = w.heap.size + 1 + 1 + 1 + 1 + 1 + 1 + 1 := by simp
  obtain ⟨W0, hW0⟩ : ∃ W0, ((((((w.alloc (.cells #[.slice (some ⟨b, o, none⟩) n c] 50)).alloc (.cells #[.slice none 0 0] 28)).alloc (.cells #[.int .i64 0] 3)).alloc (.cells #[.nilIface] 45)).alloc (.cells #[.slice (some ⟨b, o, none⟩) n c] 50)).alloc (.cells #[.int .i64 0] 3)).alloc (.cells #[.slice (some ⟨b, o, none⟩) n c] 50) = W0 := ⟨_, rfl⟩
  rw [hW0] at b1 b2 b3 b5 b6 hB0 hsz ⊢
  clear hW0
  have q1 : w.heap.size < w.heap.size + 1 := by omega
  have q2 : w.heap.size + 1 < w.heap.size + 1 + 1 := by omega
  have q3 : w.heap.size + 1 + 1 < w.heap.size + 1 + 1 + 1 := by omega
  have q5 : w.heap.size + 1 + 1 + 1 < w.heap.size + 1 + 1 + 1 + 1 + 1 := by omega
  have q6 : w.heap.size + 1 + 1 + 1 + 1 + 1 < w.heap.size + 1 + 1 + 1 + 1 + 1 + 1 := by omega
  have q7 : w.heap.size + 1 + 1 + 1 + 1 + 1 + 1 < W0.heap.size := by omega
  clear hsz
  obtain ⟨N0, hN0⟩ : ∃ N0, w.heap.size = N0 := ⟨_, rfl⟩
  have HN0 : Hid (w.heap.size = N0) := hN0
  rw [hN0] at b1 b2 b3 b5 b6 hB0 q1 q2 q3 q5 q6 q7 hbl ⊢
  clear hN0
  generalize N0 + 1 + 1 + 1 + 1 + 1 + 1 = B6 at *
  generalize N0 + 1 + 1 + 1 + 1 + 1 = B5 at *
  generalize N0 + 1 + 1 + 1 = B3 at *
  generalize N0 + 1 + 1 = B2 at *
  generalize N0 + 1 = B1 at *
  have hr0 := hr.below hB0 hbl
  refine wpIn_rangeFunc_ownH rfl (by omega) (gf := 39) (lb := #[.pointer (some ⟨B6, 0, none⟩)]) rfl trivial (enters_of Tryf.func39 (by kernel_rfl) rfl)
    (items_stops 2 (by omega) B6 b o n c m f xs W0 hn hcap HL.out hr0 b6.cell) two_t (two_b (by omega) q7) (Below.refl _ _) (fun _ => rfl)
    (fun pre W => (((((∃ v, Boxed W B1 28 v ∧ W.ownsRow N0 9 1 v (sx pre).length (strs (sx pre)) ∧ True) ∧ Boxed W B2 3 (.int .i64 (wn pre))) ∧ Boxed W B5 3 (.int .i64 pre.length)) ∧ ErrOk N0 B3 pre W) ∧ Boxed W B6 50 (.slice (some ⟨b, o, none⟩) n c)) ∧ Below N0 w W)
    (fun _ _ _ => False)
    (OwnFrom.and (OwnFrom.and (OwnFrom.and (OwnFrom.and (OwnFrom.and (Own.from (holdsRow_own N0 B1 28 9 1 (fun pre => (sx pre).length) (fun pre => strs (sx pre)) (fun _ _ => True)) _) (Own.from (boxed_own B2 3 (fun pre => Value.int .i64 (wn pre))) _)) (Own.from (boxed_own B5 3 (fun (pre : List (Spn f n)) => Value.int .i64 pre.length)) _)) (Own.from (errOk_own N0 B3) _)) (Own.from (boxed_own B6 50 (fun _ => Value.slice (some ⟨b, o, none⟩) n c)) _)) (ownFrom_below (by rw [HN0.out]; exact Nat.le_refl _) (by omega)))
    (fun _ _ _ _ _ hs _ _ => hs)
    ⟨⟨⟨⟨⟨⟨_, b1, World.ownsRow_nil _ _ _ _, trivial⟩, b2⟩, b5⟩, .inl ⟨rfl, b3⟩⟩, b6⟩, hB0⟩
    (fun x a' W => ∃ Bx, B6 < Bx ∧ Boxed W Bx 50 (.slice (some ⟨b, o + x.1.1, none⟩) (x.1.2 - x.1.1) (c - x.1.1)) ∧ a' = { tmps := #[.agg #[.slice (some ⟨b, o, none⟩) n c], .pointer (some ⟨N0, 0, none⟩), .pointer (some ⟨B1, 0, none⟩), .pointer (some ⟨B2, 0, none⟩), .pointer (some ⟨B3, 0, none⟩), .pointer (some ⟨B5, 0, none⟩), .pointer (some ⟨Bx, 0, none⟩), undef, undef, .agg #[.slice (some ⟨b, o, none⟩) n c], .int .u8 3, .bool false, undef, undef, undef, undef, undef, .agg #[.slice (some ⟨b, o, none⟩) n c], .func (.func 39) #[] #[.pointer (some ⟨B6, 0, none⟩)], .agg #[.slice (some ⟨b, o + x.1.1, none⟩) (x.1.2 - x.1.1) (c - x.1.1)], undef, undef, undef, undef, undef, undef, undef, undef, undef, undef, undef, undef, undef, undef, undef, undef, undef, undef, undef, undef, undef, undef, undef, undef, undef, undef, undef], defers := [] })
    (fun x a' _ X Y row hs hg hr => by obtain ⟨Bx, h1, h2, h3⟩ := hs; exact ⟨Bx, h1, boxed_own Bx 50 (fun (_ : Unit) => Value.slice (some ⟨b, o + x.1.1, none⟩) (x.1.2 - x.1.1) (c - x.1.1)) () X Y row h2 hg (fun r e => (hr r e).2), h3⟩)
    ?assign ?body ?done ?stop
  case assign =>
    rintro l pre x W K ⟨⟨⟨⟨⟨⟨v, c1, oS, _⟩, c2⟩, c5⟩, cE⟩, c6⟩, hB⟩ hK
    have hbW : Below W.heap.size W (W.alloc (.cells #[.slice (some ⟨b, o + x.1.1, none⟩) (x.1.2 - x.1.1) (c - x.1.1)] 50)) := (Below.refl _ W).alloc (Nat.le_refl _) _
    have hN : N0 ≤ W.heap.size := by have := hB.size; rw [HN0.out] at this; exact this
    have HA := hK _ _ ((KeepsOthers.alloc _ _).from _) ((Two.refl b B6 W).alloc (Nat.lt_of_lt_of_le hbl hN) c6.lt _) ⟨⟨⟨⟨⟨⟨v, c1.alloc _, oS.alloc _, trivial⟩, c2.alloc _⟩, c5.alloc _⟩, errOk_below cE hbW⟩, c6.alloc _⟩, hB.alloc hN _⟩ ⟨W.heap.size, c6.lt, Boxed.new W 50 (.slice (some ⟨b, o + x.1.1, none⟩) (x.1.2 - x.1.1) (c - x.1.1)), rfl⟩
    have HA' : Hid _ := HA
    clear HA hK
    simp only [spv]
    gi_wp2
    exact HA'.out
  case body =>
    rintro l pre x a' W hl ⟨r, hrl⟩ ⟨⟨⟨⟨⟨⟨v, c1, oS, _⟩, c2⟩, c5⟩, cE⟩, c6⟩, hB⟩ ⟨Bx, hBx, bX, rfl⟩ hlt
    have hN : N0 ≤ W.heap.size := by have := hB.size; rw [HN0.out] at this; exact this
    have hlx := x.lt
    obtain ⟨hxn, d, hv⟩ := x.2
    have hbW : b < W.heap.size := by omega
    have hrW : Rd W b o n f := hr.below hB hbl
    have hlen := sx_len pre
    have hNx : xs.length ≤ n := by have := link_len HL.out.link; omega
    cases hdig : digB (f x.1.1) with
    | true =>
      obtain ⟨s, hs⟩ := val_dig hv (digB_true.1 hdig)
      have hsd := str_down hs
      have Htx : Hid (win (fun j => f (x.1.1 + j)) (s - x.1.1) (x.1.2 - x.1.1 - (s - x.1.1)) = tx f x.1.1 x.1.2) := (by rw [tx_down hlx, tx_str hsd] : win (fun j => f (x.1.1 + j)) (s - x.1.1) (x.1.2 - x.1.1 - (s - x.1.1)) = tx f x.1.1 x.1.2)
      have Hsd : Hid (Str (fun j => f (x.1.1 + j)) 0 (s - x.1.1) (x.1.2 - x.1.1)) := hsd
      have hsdl := hsd.lt
      have hsn := sx_snoc_t pre x hdig
      have Hsn : Hid (sx (pre ++ [x]) = sx pre ++ [tx f x.1.1 x.1.2] ∧ wn (pre ++ [x]) = wn pre) := hsn
      clear hs hsd hsn hdig hv
      have hcI := c5.cell
      have hfI := c5.frozen
      have hcX := bX.cell
      have hne5 : Bx ≠ B5 := by omega
      have hr1 := (hrW.below ((Below.refl N0 W).setCell (p := ⟨B5, 0, none⟩) (show N0 ≤ B5 by omega) (.int .i64 (pre.length + 1))) hbl).drop x.1.1 (x.1.2 - x.1.1) (by omega)
      gi_wp2_with fail
      refine ⟨trivial, ?_⟩
      refine (CallsIn.inRound l (callsIn_wide.2 (bytes_str b (o + x.1.1) (x.1.2 - x.1.1) (c - x.1.1) (s - x.1.1) (fun j => f (x.1.1 + j)) _ (by omega) (by omega) hr1 Hsd.out))).mono ?_
      rintro e w2 ⟨⟨o', rfl, ho⟩, hb2⟩
      have st2 : Stp b B6 N0 W w2 := ((Stp.refl b B6 N0 W).set (B := B5) (by omega) (by omega) hbl _).call hb2 hbW c6.lt hN
      have e1 := boxed_below (c1.other (B' := B5) (by omega) (.int .i64 (pre.length + 1))) hb2
      have e2 := boxed_below (c2.other (B' := B5) (by omega) (.int .i64 (pre.length + 1))) hb2
      have e5 := boxed_below (c5.set (.int .i64 (pre.length + 1))) hb2
      have e6 := boxed_below (c6.other (B' := B5) (by omega) (.int .i64 (pre.length + 1))) hb2
      have eE := errOk_below (errOk_other cE c5 (by decide) (by decide) (.int .i64 (pre.length + 1))) hb2
      have oS2 := row_below (row_other oS c5 (by decide) (.int .i64 (pre.length + 1))) hb2
      have hN2 : N0 ≤ w2.heap.size := Nat.le_trans hN st2.t.2
      have hcv := conv_win b (o + x.1.1) (x.1.2 - x.1.1) (c - x.1.1 - (s - x.1.1)) (s - x.1.1) (fun j => f (x.1.1 + j)) o' w2 (hr1.below hb2 (by simp [World.setCell]; omega)) hsdl.2 ho
      rw [Htx.out] at hcv
      have hc1 := e1.cell
      clear hr1 hb2 hcI hfI hcX hrW ho
      gi_wp2_with (gi_at_builtin; refine wpListIn_append_own _ rfl _ _ 28 rfl N0 9 i0 (.string ByteArray.empty) 1 16 Tryf.underlying28 hi hz0 hz1 hz2 rfl (by decide) _ _ _ rfl (oS2.alloc _) ⟨w2.heap.size, 0, none⟩ 1 1 [.string (tx f x.1.1 x.1.2)] rfl rfl (cell_one_new _ _ _) (by simp [Value.oneCell']) (by unfold maxLen; omega) (by omega) (by simp; omega) ?_; intro v' w3 hown' hgrow _; obtain ⟨g', cap', rfl⟩ := ownsRow_succ hown'; obtain ⟨hv1, hv2, hr2, hk2, hb3⟩ := e1.appended (by decide) oS2 hN2 (by omega) hown' hgrow; have hc1' := hv1.cell; have hf1' := hv1.frozen)
      have hgrow' : (w2.alloc (.cells #[.string (tx f x.1.1 x.1.2)] 9)).grownBy w3 v.ownBlock := hgrow
      clear hgrow
      have hbn : Below w2.heap.size w2 (w2.alloc (.cells #[.string (tx f x.1.1 x.1.2)] 9)) := (Below.refl _ w2).alloc (Nat.le_refl _) _
      have oS3 := oS2.alloc (.cells #[.string (tx f x.1.1 x.1.2)] 9)
      have st4 := ((st2.alloc hbW c6.lt hN (.cells #[.string (tx f x.1.1 x.1.2)] 9)).grown oS3 hgrow' (Nat.le_refl _) (e6.alloc _) (by decide) hbl (by simp; omega)).set (B := B1) (by omega) (by omega) hbl (.slice (some ⟨g', 0, none⟩) ((sx pre).length + 1) cap')
      refine ⟨st4.k.from _, st4.t, ⟨⟨⟨⟨⟨⟨_, hv2, ?_, trivial⟩, ?_⟩, ?_⟩, ?_⟩, ?_⟩, hB.trans st4.l⟩⟩
      · rw [Hsn.out.1]
        simpa [strs] using hr2
      · rw [Hsn.out.2]
        exact ((e2.alloc _).kept hgrow' ((e2.alloc _).not_row (by decide) oS3)).other (by omega) _
      · have h5 := ((e5.alloc _).kept hgrow' ((e5.alloc _).not_row (by decide) oS3)).other (B' := B1) (by omega) (.slice (some ⟨g', 0, none⟩) ((sx pre).length + 1) cap')
        simpa using h5
      · exact errOk_congr (errOk_other (errOk_row (errOk_below eE hbn) oS3 hgrow') hv1 (by decide) (by decide) _) Hsn.out.2
      · exact ((e6.alloc _).kept hgrow' ((e6.alloc _).not_row (by decide) oS3)).other (by omega) _
    | false =>
      have hknd := kind_non hdig (val_head hv)
      have hsn := sx_snoc_f pre x hdig
      have Hsn : Hid (sx (pre ++ [x]) = sx pre ∧ wn (pre ++ [x]) = wn pre + 1) := hsn
      have HKn : Hid ((kindOf (f (x.1.1 + 0)) = 1 ∨ kindOf (f (x.1.1 + 0)) = 3 ∨ kindOf (f (x.1.1 + 0)) = 4) ∧ kindOf (f (x.1.1 + 0)) ≠ 2) := hknd
      clear hsn hdig hv hknd
      have hcI := c5.cell
      have hfI := c5.frozen
      have hcX := bX.cell
      have hne5 : Bx ≠ B5 := by omega
      have hr1 := (hrW.below ((Below.refl N0 W).setCell (p := ⟨B5, 0, none⟩) (show N0 ≤ B5 by omega) (.int .i64 (pre.length + 1))) hbl).drop x.1.1 (x.1.2 - x.1.1) (by omega)
      gi_wp2_with fail
      refine ⟨trivial, ?_⟩
      refine (CallsIn.inRound l (callsIn_wide.2 (bytes_non b (o + x.1.1) (x.1.2 - x.1.1) (c - x.1.1) (fun j => f (x.1.1 + j)) _ (by omega) (by omega) hr1 HKn.out.2))).mono ?_
      rintro e w2 ⟨rfl, hb2⟩
      have st2 : Stp b B6 N0 W w2 := ((Stp.refl b B6 N0 W).set (B := B5) (by omega) (by omega) hbl _).call hb2 hbW c6.lt hN
      have e1 := boxed_below (c1.other (B' := B5) (by omega) (.int .i64 (pre.length + 1))) hb2
      have e2 := boxed_below (c2.other (B' := B5) (by omega) (.int .i64 (pre.length + 1))) hb2
      have e5 := boxed_below (c5.set (.int .i64 (pre.length + 1))) hb2
      have e6 := boxed_below (c6.other (B' := B5) (by omega) (.int .i64 (pre.length + 1))) hb2
      have eX := boxed_below (bX.other (B' := B5) (by omega) (.int .i64 (pre.length + 1))) hb2
      have eE := errOk_below (errOk_other cE c5 (by decide) (by decide) (.int .i64 (pre.length + 1))) hb2
      have oS2 := row_below (row_other oS c5 (by decide) (.int .i64 (pre.length + 1))) hb2
      have hN2 : N0 ≤ w2.heap.size := Nat.le_trans hN st2.t.2
      have hr2 := hr1.below hb2 (by simp [World.setCell]; omega)
      clear hr1 hb2 hcI hfI hcX hrW
      have hc2 := e2.cell
      have hf2 := e2.frozen
      by_cases hw0 : wn pre = 0
      · have e3 : Boxed w2 B3 45 .nilIface := by
          rcases eE with ⟨_, h⟩ | ⟨h, _⟩
          · exact h
          · omega
        rw [hw0] at hc2
        have hc2' : w2.cell? ⟨B2, 0, none⟩ = some (.int .i64 0) := hc2
        clear hc2
        have hc5 := e5.cell
        have hcX := eX.cell
        have hc3 := e3.cell
        have hf3 := e3.frozen
        have n1 : B5 ≠ B2 := by omega
        have n2 : Bx ≠ B2 := by omega
        have n3 : B3 ≠ B2 := by omega
        have l5 := e5.lt
        have lX := eX.lt
        have l3 := e3.lt
        have l51 : B5 < w2.heap.size + 1 := by omega
        have l31 : B3 < w2.heap.size + 1 := by omega
        have l32 : B3 < w2.heap.size + 1 + 1 := by omega
        have l33 : B3 < w2.heap.size + 1 + 1 + 1 := by omega
        have hmx : Tryf.prog.follows .mixedOrders = true := by kernel_rfl
        have hr3 := hr2.below ((Below.refl N0 w2).setCell (p := ⟨B2, 0, none⟩) (show N0 ≤ B2 by omega) (.int .i64 1)) hbl
        gi_wp2
        have hF2 : F.told.answers w2.tape := by rw [st2.l.tape, hB.tape]; exact hF
        gi_region_with_o (first
          | (refine ⟨trivial, ?_⟩; gi_at_call 38; refine (CallsIn.inRound l (callsIn_wide.2 (kind_any b (o + x.1.1) (x.1.2 - x.1.1) (c - x.1.1) (fun j => f (x.1.1 + j)) _ (by omega) (by omega) (by exact hr3)))).mono ?_; rintro e w4 ⟨rfl, rfl⟩)
          | (refine ⟨trivial, ?_⟩; gi_at_call 33; have A := item_any F (w2.heap.size + 1) (pre.length + 1) (kindOf (f x.1.1)) (((w2.setCell ⟨B2, 0, none⟩ (.int .i64 1)).alloc (.cells #[.slice (some ⟨b, o + x.1.1, none⟩) (x.1.2 - x.1.1) (c - x.1.1)] 50)).alloc (.cells #[.iface 3 (.int .i64 (pre.length + 1)), .iface 60 (.int .u8 (kindOf (f x.1.1)))] 20)).drew hF2 HKn.out.1 (by omega) (by omega) (by go_simp) (by go_simp); have A' := CallsIn.inRound l ((callsIn_wide (n := 0)).2 A); refine A'.mono ?_; clear A A'; rintro e w5 ⟨rfl, ⟨s, hbs, hss⟩, hb5⟩; have hb5' := hb5; have hc35 : w5.cell? ⟨B3, 0, none⟩ = some .nilIface := (by (rw [hb5.cell (by simp; omega)]; go_simp)); have hf35 : w5.frozen? ⟨B3, 0, none⟩ = false := (by (rw [hb5.frozen (by simp; omega)]; go_simp))))
        all_goals (
          gi_wp2
          obtain ⟨st4, hI⟩ := err_step hB st2 hbW c6.lt hN hbl q1 q2 q3 q5 q6 e1 e2 e3 e5 e6 oS2 Hsn.out hw0 _ _ hb5 hbs hss
          exact ⟨st4.k.from _, st4.t, hI⟩)
      · have hw1 : ((wn pre : Int) + 1 == 1) = false := by rw [beq_eq_false_iff_ne]; omega
        gi_wp2
        have st3 := st2.set (B := B2) (by omega) (by omega) hbl (.int .i64 ((wn pre : Int) + 1))
        refine ⟨st3.k.from _, st3.t, ⟨⟨⟨⟨⟨⟨v, e1.other (by omega) _, ?_, trivial⟩, ?_⟩, ?_⟩, ?_⟩, e6.other (by omega) _⟩, hB.trans st3.l⟩⟩
        · rw [Hsn.out.1]
          exact row_other oS2 e2 (by decide) _
        · rw [Hsn.out.2]
          simpa using e2.set (.int .i64 ((wn pre : Int) + 1))
        · simpa using e5.other (B' := B2) (by omega) (.int .i64 ((wn pre : Int) + 1))
        · have hE := errOk_other eE e2 (by decide) (by decide) (.int .i64 ((wn pre : Int) + 1))
          rcases hE with ⟨a, _⟩ | ⟨a, g, s, h1, h2, h3, h4⟩
          · exact absurd a hw0
          · exact .inr ⟨by rw [Hsn.out.2]; omega, g, s, h1, h2, h3, h4⟩
  case done =>
    rintro D ys W hD rfl ⟨⟨⟨⟨⟨⟨v, c1, oS, _⟩, c2⟩, c5⟩, cE⟩, c6⟩, hB⟩ hK
    have hc1 := c1.cell
    have hf1 := c1.frozen
    have hc2 := c2.cell
    have hf2 := c2.frozen
    have n1 : B1 ≠ B2 := by omega
    have n2 : B1 ≠ B3 := by omega
    have n3 : B2 ≠ B3 := by omega
    have n1' : B2 ≠ B1 := by omega
    have n2' : B3 ≠ B1 := by omega
    have n3' : B3 ≠ B2 := by omega
    have hv : v = .slice none 0 0 ∨ ∃ g k cap, v = .slice (some ⟨g, 0, none⟩) k cap := by
      rcases oS.2 with ⟨rfl, _⟩ | ⟨g, cap, cur, rfl, _⟩
      · exact .inl rfl
      · exact .inr ⟨g, _, cap, rfl⟩
    have hE : ∃ er, Boxed W B3 45 er ∧ ((wn ys = 0 ∧ er = .nilIface) ∨ (0 < wn ys ∧ ∃ g s, er = .iface 55 (.pointer (some ⟨g, 0, none⟩)) ∧ Boxed W g 57 (.string s) ∧ s.size ≤ 1000 ∧ N0 ≤ g)) := by
      rcases cE with ⟨a, h⟩ | ⟨a, g, s, h1, h2, h3, h4⟩
      · exact ⟨_, h, .inl ⟨a, rfl⟩⟩
      · exact ⟨_, h1, .inr ⟨a, g, s, rfl, h2, h3, h4⟩⟩
    obtain ⟨er, c3, hE⟩ := hE
    have hc3 := c3.cell
    have hf3 := c3.frozen
    have her : er = .nilIface ∨ ∃ g, er = .iface 55 (.pointer (some ⟨g, 0, none⟩)) := by
      rcases hE with ⟨_, h⟩ | ⟨_, g, _, h, _⟩
      · exact .inl h
      · exact .inr ⟨g, h⟩
    have hbk : ∀ {B : Nat} {t : TypeId} {u : Value}, Boxed W B t u → Boxed (W.drew.putObj D (.deferred none)) B t u := fun h => (World.putObj_heap_other (fun e => by subst e; have := (show W.heap[_]? = _ from h).symm.trans hK; cases this)).trans h
    have d1 := (hbk c1).cell
    have d2 := (hbk c2).cell
    have d3 := (hbk c3).cell
    have oD := ownsRow_putObj (row_drew oS) (.deferred none) hK rfl
    have bD : Below N0 w (W.drew.putObj D (.deferred none)) := hB.drew.trans (belowK_b (w := W0) (by omega) _ D _ (.deferred none) hD hK rfl rfl)
    have hE' : (wn ys = 0 ∧ er = .nilIface) ∨ (0 < wn ys ∧ ∃ g s, er = .iface 55 (.pointer (some ⟨g, 0, none⟩)) ∧ Boxed (W.drew.putObj D (.deferred none)) g 57 (.string s) ∧ s.size ≤ 1000 ∧ N0 ≤ g) := by
      rcases hE with h | ⟨a, g, s, h1, h2, h3⟩
      · exact .inl h
      · exact .inr ⟨a, g, s, h1, hbk h2, h3⟩
    have HG : Hid (∃ v' er', Ending.returned (.tuple #[v, .int .i64 (wn ys), er]) = .returned (.tuple #[v', .int .i64 (wn ys), er']) ∧ (W.drew.putObj D (.deferred none)).ownsRow w.heap.size 9 1 v' (sx ys).length (strs (sx ys)) ∧
      ((wn ys = 0 ∧ er' = .nilIface) ∨ (0 < wn ys ∧ ∃ g s, er' = .iface 55 (.pointer (some ⟨g, 0, none⟩)) ∧ Boxed (W.drew.putObj D (.deferred none)) g 57 (.string s) ∧ s.size ≤ 1000 ∧ w.heap.size ≤ g)) ∧ Below w.heap.size w (W.drew.putObj D (.deferred none))) := (by rw [HN0.out]; exact ⟨v, er, rfl, oD, hE', bD⟩)
    have hmx : Tryf.prog.follows .mixedOrders = true := by kernel_rfl
    have s1 := set_same c1
    have s2 := set_same c2
    have s3 := set_same c3
    clear oD bD hE' hE hbk cE
    rcases hv with rfl | ⟨g, k, cap, rfl⟩ <;> rcases her with rfl | ⟨g', rfl⟩
    all_goals (
      gi_wp2
      gi_region_o
      gi_wp2
      refine ⟨by simp, .inl ⟨_, _, rfl, run_takeDeferred hK, ?_⟩⟩
      exact ⟨_, by simp [results, Tryf.results32, go_sem, d1, d2, d3], HG.out⟩)
  case stop =>
    rintro D c pre W _ _ h _
    exact h.elim

end Go.Proofs.Qxb6614548aFmt.Ben
