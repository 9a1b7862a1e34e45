/-
  The walk of readTrackers at a dictionary of one list of one tier.
-/
import Derived.Test.Qxb6614548aFmtTexts
import Derived.Test.Qxb6614548aFmtTrkAid
import Derived.Test.Qxb6614548aFmtFmtWalks2
set_option linter.unusedVariables false
namespace Go.Proofs.Qxb6614548aFmt.Ben
open Go.RowKit Go.Shelf Go.Extern.Stop Go.Stop Go.Extern

attribute [local go_sem] Oper.semAt_some

set_option maxRecDepth 100000 in
set_option maxHeartbeats 4000000 in
theorem trackers_any (F : Interp) (b o n c V m1 m2 : Nat) (f : Nat → Int) (x0 : Spn (fun j => f (17 + j)) (V - 17)) (xs : List (Spn (fun j => f (17 + (x0.1.1 + j))) (x0.1.2 - x0.1.1))) (w : World)
    (hF : F.told.answers w.tape) (hn : n ≤ 2097152) (hcap : n ≤ c) (hr : Rd w b o n f) (hD : Dict f n V)
    (hk1 : ((win f 4 13).toList == (⟨#[97, 110, 110, 111, 117, 110, 99, 101, 45, 108, 105, 115, 116]⟩ : ByteArray).toList) = true)
    (hk2 : ((win f 4 13).toList == (⟨#[97, 110, 110, 111, 117, 110, 99, 101]⟩ : ByteArray).toList) = false) (h17 : f 17 = 108)
    (hL1 : Lst (fun j => f (17 + j)) (V - 17) m1 [x0]) (hL2 : Lst (fun j => f (17 + (x0.1.1 + j))) (x0.1.2 - x0.1.1) m2 xs) :
    Calls Tryf.prog 26 #[.agg #[.slice (some ⟨b, o, none⟩) n c]] w fun e w' => ∃ T Wv, e = .returned (.tuple #[T, Wv]) ∧ TierOk w.heap.size (kept (sx xs)) T w' ∧
      ((wn xs = 0 ∧ Wv = .slice none 0 0) ∨ (0 < wn xs ∧ ∃ g cap, Wv = .slice (some ⟨g, 0, none⟩) 1 cap)) ∧ Below w.heap.size w w' := by
  have hVn : V < n := by have := hD.n; omega
  have hgt := hD.gt
  have hn0 : 0 < n := by omega
  have hbl := hr.lt hn0
  have HD : Hid (Dict f n V) := hD
  have HL1 : Hid (Lst (fun j => f (17 + j)) (V - 17) m1 [x0]) := hL1
  have HL2 : Hid (Lst (fun j => f (17 + (x0.1.1 + j))) (x0.1.2 - x0.1.1) m2 xs) := hL2
  have H17 : Hid (f 17 = 108) := h17
  clear hD hL1 hL2 h17
  obtain ⟨i0, hi, hz0, hz1, hz2⟩ := info_parts info28
  refine (callsIn_wide (n := 4)).1 ?_
  refine callsIn_of_wp_marks Tryf.func26 rfl trivial ?_ rfl
  simp only [Tryf.ntmps26, List.size_toArray, List.length_cons, List.length_nil, Nat.reduceAdd, Nat.reduceSub, Array.replicate_succ, Array.replicate_zero, List.push_toArray, List.append_toArray, List.nil_append, List.cons_append]
  gi_wp2_with fail
  refine ⟨trivial, ?_⟩
  have bA := (Boxed.new w 50 (.slice (some ⟨b, o, none⟩) n c)).alloc (.cells #[.slice none 0 0] 27)
  have bB := Boxed.new (w.alloc (.cells #[.slice (some ⟨b, o, none⟩) n c] 50)) 27 (.slice none 0 0)
  refine (callsIn_wide.2 (lookupK_hit b o n c V f _ _ hn hcap (hr.below (ba (ba (Below.refl _ w) _) _) hbl) HD.out hk1 H17.out)).mono ?_
  rintro e w1 ⟨rfl, hb1⟩
  have cA := boxed_below bA hb1
  have cB := boxed_below bB hb1
  rw [World.size_alloc] at cB
  have hB1 : Below w.heap.size w w1 := (ba (ba (Below.refl _ w) _) _).trans (hb1.mono (by simp; omega))
  have hs1 : w.heap.size + 1 + 1 ≤ w1.heap.size := by have := hb1.size; simp at this; omega
  clear hb1 bA bB
  gi_wp2_with fail
  refine ⟨trivial, ?_⟩
  refine (callsIn_wide.2 (items_any (some ⟨b, o + 17, none⟩) (V - 17) (c - 17) _)).mono ?_
  rintro e w2 ⟨rfl, rfl⟩
  gi_wp2_with fail
  have b1 := (((((cA.alloc (.cells #[.slice (some ⟨b, o + 17, none⟩) (V - 17) (c - 17)] 50)).alloc (.cells #[.nilIface] 45)).alloc (.cells #[.int .i64 0] 3)).alloc (.cells #[.int .i64 0] 3)).alloc (.cells #[.slice (some ⟨b, o + 17, none⟩) (V - 17) (c - 17)] 50))
  have b2 := (((((cB.alloc (.cells #[.slice (some ⟨b, o + 17, none⟩) (V - 17) (c - 17)] 50)).alloc (.cells #[.nilIface] 45)).alloc (.cells #[.int .i64 0] 3)).alloc (.cells #[.int .i64 0] 3)).alloc (.cells #[.slice (some ⟨b, o + 17, none⟩) (V - 17) (c - 17)] 50))
  have b6 := ((((Boxed.new (w1.alloc (.cells #[.slice (some ⟨b, o + 17, none⟩) (V - 17) (c - 17)] 50)) 45 .nilIface).alloc (.cells #[.int .i64 0] 3)).alloc (.cells #[.int .i64 0] 3)).alloc (.cells #[.slice (some ⟨b, o + 17, none⟩) (V - 17) (c - 17)] 50))
  have b7 := (((Boxed.new ((w1.alloc (.cells #[.slice (some ⟨b, o + 17, none⟩) (V - 17) (c - 17)] 50)).alloc (.cells #[.nilIface] 45)) 3 (.int .i64 0)).alloc (.cells #[.int .i64 0] 3)).alloc (.cells #[.slice (some ⟨b, o + 17, none⟩) (V - 17) (c - 17)] 50))
  have b8 := ((Boxed.new (((w1.alloc (.cells #[.slice (some ⟨b, o + 17, none⟩) (V - 17) (c - 17)] 50)).alloc (.cells #[.nilIface] 45)).alloc (.cells #[.int .i64 0] 3)) 3 (.int .i64 0)).alloc (.cells #[.slice (some ⟨b, o + 17, none⟩) (V - 17) (c - 17)] 50))
  have bi := (Boxed.new ((((w1.alloc (.cells #[.slice (some ⟨b, o + 17, none⟩) (V - 17) (c - 17)] 50)).alloc (.cells #[.nilIface] 45)).alloc (.cells #[.int .i64 0] 3)).alloc (.cells #[.int .i64 0] 3)) 50 (.slice (some ⟨b, o + 17, none⟩) (V - 17) (c - 17)))
  have hB0 := hB1.trans ((ba (ba (ba (ba (ba (Below.refl _ w1) (.cells #[.slice (some ⟨b, o + 17, none⟩) (V - 17) (c - 17)] 50)) (.cells #[.nilIface] 45)) (.cells #[.int .i64 0] 3)) (.cells #[.int .i64 0] 3)) (.cells #[.slice (some ⟨b, o + 17, none⟩) (V - 17) (c - 17)] 50)).mono (show w.heap.size ≤ w1.heap.size by omega))
  simp only [World.size_alloc] at b6 b7 b8 bi
  have hsz : (((((w1.alloc (.cells #[.slice (some ⟨b, o + 17, none⟩) (V - 17) (c - 17)] 50)).alloc (.cells #[.nilIface] 45)).alloc (.cells #[.int .i64 0] 3)).alloc (.cells #[.int .i64 0] 3)).alloc (.cells #[.slice (some ⟨b, o + 17, none⟩) (V - 17) (c - 17)] 50)).heap.size = w1.heap.size + 1 + 1 + 1 + 1 + 1 := by simp
  obtain ⟨W0, hW0⟩ : ∃ W0, (((((w1.alloc (.cells #[.slice (some ⟨b, o + 17, none⟩) (V - 17) (c - 17)] 50)).alloc (.cells #[.nilIface] 45)).alloc (.cells #[.int .i64 0] 3)).alloc (.cells #[.int .i64 0] 3)).alloc (.cells #[.slice (some ⟨b, o + 17, none⟩) (V - 17) (c - 17)] 50)) = W0 := ⟨_, rfl⟩
  rw [hW0] at b1 b2 b6 b7 b8 bi hB0 hsz ⊢
  clear hW0 cA cB
  obtain ⟨N0, hN0⟩ : ∃ N0, w.heap.size = N0 := ⟨_, rfl⟩
  have HN0 : Hid (w.heap.size = N0) := hN0
  rw [hN0] at b1 b2 hB0 hs1 hbl ⊢
  clear hN0 hB1
  obtain ⟨B2, hB2⟩ : ∃ B2, N0 + 1 = B2 := ⟨_, rfl⟩
  obtain ⟨B4, hB4⟩ : ∃ B4, w1.heap.size = B4 := ⟨_, rfl⟩
  obtain ⟨B6, hB6⟩ : ∃ B6, B4 + 1 = B6 := ⟨_, rfl⟩
  obtain ⟨B7, hB7⟩ : ∃ B7, B6 + 1 = B7 := ⟨_, rfl⟩
  obtain ⟨B8, hB8⟩ : ∃ B8, B7 + 1 = B8 := ⟨_, rfl⟩
  obtain ⟨Bi, hBi⟩ : ∃ Bi, B8 + 1 = Bi := ⟨_, rfl⟩
  rw [hB4] at hs1 b6 b7 b8 bi hsz ⊢
  rw [hB2] at hs1 b2 ⊢
  rw [hB6] at b6 b7 b8 bi hsz ⊢
  rw [hB7] at b7 b8 bi hsz ⊢
  rw [hB8] at b8 bi hsz ⊢
  rw [hBi] at bi hsz ⊢
  have q2 : N0 < B2 := by omega
  have q6 : B2 < B6 := by omega
  have q7 : B6 < B7 := by omega
  have q8 : B7 < B8 := by omega
  have qi : B8 < Bi := by omega
  have qW : Bi < W0.heap.size := by omega
  clear hsz hB2 hB4 hB6 hB7 hB8 hBi hs1
  have hr0 := hr.below hB0 hbl
  have hr1 := hr0.drop 17 (V - 17) (by omega)
  have hx2 := x0.2.1
  have hx1 := x0.lt
  refine wpIn_rangeFunc_ownH rfl (by omega) (gf := 39) (lb := #[.pointer (some ⟨Bi, 0, none⟩)]) rfl trivial (enters_of Tryf.func39 (by kernel_rfl) rfl)
    (items_one 3 (by omega) Bi b (o + 17) (V - 17) (c - 17) m1 (fun j => f (17 + j)) x0 W0 (by omega) (by omega) HL1.out hr1 bi.cell) two_t (two_b (by omega) qW) (Below.refl _ _) (fun _ => rfl)
    (fun pre W => (∃ X, Pst N0 B2 B6 B7 B8 Bi N0 b o n c (V - 17) (c - 17) (wn xs) (kept (sx xs)) pre X ∧ Kc X W) ∧ Below N0 w W)
    (fun _ _ _ => False)
    (OwnFrom.and (Own.from (kc_own _) _) (ownFrom_below (by rw [HN0.out]; exact Nat.le_refl _) (by omega)))
    (fun _ _ _ _ _ hs _ _ => hs)
    ⟨⟨W0, ⟨b1, bi, .inl ⟨rfl, b2, b6, b7, b8⟩⟩, Kc.refl _⟩, hB0⟩
    (fun _ a' W => ∃ Bx, Bi < Bx ∧ Boxed W Bx 50 (.slice (some ⟨b, o + 17 + x0.1.1, none⟩) (x0.1.2 - x0.1.1) (c - 17 - x0.1.1)) ∧ a' = { tmps := #[Value.agg #[.slice (some ⟨b, o, none⟩) n c], .pointer (some ⟨N0, 0, none⟩), .pointer (some ⟨B2, 0, none⟩), .slice none 0 0, .pointer (some ⟨B4, 0, none⟩), .bool true, .pointer (some ⟨B6, 0, none⟩), .pointer (some ⟨B7, 0, none⟩), .pointer (some ⟨B8, 0, none⟩), .pointer (some ⟨Bx, 0, none⟩), undef, undef, undef, undef, undef, .tuple #[Value.agg #[.slice (some ⟨b, o + 17, none⟩) (V - 17) (c - 17)], .bool true, .nilIface], Value.agg #[.slice (some ⟨b, o, none⟩) n c], .tuple #[Value.agg #[.slice (some ⟨b, o + 17, none⟩) (V - 17) (c - 17)], .bool true, .nilIface], Value.agg #[.slice (some ⟨b, o + 17, none⟩) (V - 17) (c - 17)], .bool true, .nilIface, .nilIface, .bool false, Value.agg #[.slice (some ⟨b, o + 17, none⟩) (V - 17) (c - 17)], .func (.func 39) #[] #[.pointer (some ⟨Bi, 0, none⟩)], Value.agg #[.slice (some ⟨b, o + 17 + x0.1.1, none⟩) (x0.1.2 - x0.1.1) (c - 17 - x0.1.1)], undef, undef, undef, undef, undef, undef, undef, undef, undef, undef, undef, undef, undef, undef, undef, undef, undef, undef, undef, undef, undef, undef, undef, undef, undef, undef, undef, undef, undef, undef, undef, undef, undef, undef, undef, undef, undef, undef, undef, undef, undef, undef, undef, undef, undef, undef, undef, undef, undef, undef, undef, undef, undef, undef, undef, undef, undef, undef, undef, undef, undef, undef, undef, undef, undef, undef, undef, undef], defers := [] })
    (fun _ a' _ X Y row hs hg hr => by obtain ⟨Bx, h1, h2, h3⟩ := hs; exact ⟨Bx, h1, boxed_own Bx 50 (fun (_ : Unit) => Value.slice (some ⟨b, o + 17 + x0.1.1, none⟩) (x0.1.2 - x0.1.1) (c - 17 - x0.1.1)) () X Y row h2 hg (fun r e => (hr r e).2), h3⟩)
    ?assign ?body ?done ?stop
  case assign =>
    rintro l pre x W K ⟨⟨X, hP, hk⟩, hB⟩ hK
    have hbW : Below W.heap.size W (W.alloc (.cells #[.slice (some ⟨b, o + 17 + x0.1.1, none⟩) (x0.1.2 - x0.1.1) (c - 17 - x0.1.1)] 50)) := (Below.refl _ W).alloc (Nat.le_refl _) _
    have hN : N0 ≤ W.heap.size := by have := hB.size; rw [HN0.out] at this; exact this
    have c6 := hk.boxed hP.2.1
    have HA := hK _ _ ((KeepsOthers.alloc _ _).from _) ((Two.refl b Bi W).alloc (Nat.lt_of_lt_of_le hbl hN) c6.lt _) ⟨⟨X, hP, hk.trans (kc_below hbW)⟩, hB.alloc hN _⟩ ⟨W.heap.size, c6.lt, Boxed.new W 50 (.slice (some ⟨b, o + 17 + x0.1.1, none⟩) (x0.1.2 - x0.1.1) (c - 17 - x0.1.1)), rfl⟩
    have HA' : Hid _ := HA
    clear HA hK
    simp only [spv]
    gi_wp2
    exact HA'.out
  case body =>
    rintro l pre x a' W hl ⟨r, hrl⟩ ⟨⟨X, hP, hk⟩, hB⟩ ⟨Bx, hBx, bX, rfl⟩ hlt
    obtain rfl : pre = [] := List.eq_nil_of_length_eq_zero (by omega)
    obtain ⟨p1, pi, hp⟩ := hP
    obtain ⟨-, p2, p6, p7, p8⟩ | ⟨h, -⟩ := hp
    rotate_left
    · exact absurd rfl h
    have c1 := hk.boxed p1
    have ci := hk.boxed pi
    have c2 := hk.boxed p2
    have c6 := hk.boxed p6
    have c7 := hk.boxed p7
    have c8 := hk.boxed p8
    clear hk p1 pi p2 p6 p7 p8
    have hN : N0 ≤ W.heap.size := by have := hB.size; rw [HN0.out] at this; exact this
    have hbW : b < W.heap.size := by omega
    have hrW := ((hr.below hB hbl).drop 17 (V - 17) (by omega)).drop x0.1.1 (x0.1.2 - x0.1.1) (by omega)
    have hlen := sx_len xs
    have hNx : xs.length ≤ x0.1.2 - x0.1.1 := by have := link_len HL2.out.link; have := HL2.out.lt; omega
    have hcI := c8.cell
    have hfI := c8.frozen
    have hcX := bX.cell
    have hne8 : Bx ≠ B8 := by omega
    have hr2 := hrW.below ((Below.refl N0 W).setCell (p := ⟨B8, 0, none⟩) (show N0 ≤ B8 by omega) (.int .i64 1)) hbl
    gi_wp2_with fail
    refine ⟨trivial, ?_⟩
    have A := texts_any F b (o + 17 + x0.1.1) (x0.1.2 - x0.1.1) (c - 17 - x0.1.1) m2 (fun j => f (17 + (x0.1.1 + j))) xs (W.setCell ⟨B8, 0, none⟩ (.int .i64 1)) (by rw [show (W.setCell ⟨B8, 0, none⟩ (.int .i64 1)).tape = W.tape from rfl, hB.tape]; exact hF) (by omega) (by omega) HL2.out hr2
    refine (CallsIn.inRound l ((callsIn_wide (n := 1)).2 A)).mono ?_
    clear A
    rintro e w2 ⟨v, er, rfl, oS, hE, hb2⟩
    have st2 : Stp b Bi N0 W w2 := ((Stp.refl b Bi N0 W).set (B := B8) (by omega) (by omega) hbl _).call hb2 hbW ci.lt hN
    have oS2 := row_base oS (show N0 ≤ (W.setCell ⟨B8, 0, none⟩ (.int .i64 1)).heap.size by simp [World.setCell]; omega)
    have e1 := boxed_below (c1.other (B' := B8) (by omega) (.int .i64 1)) hb2
    have e2 := boxed_below (c2.other (B' := B8) (by omega) (.int .i64 1)) hb2
    have e6 := boxed_below (c6.other (B' := B8) (by omega) (.int .i64 1)) hb2
    have e7 := boxed_below (c7.other (B' := B8) (by omega) (.int .i64 1)) hb2
    have e8 := boxed_below (c8.set (.int .i64 1)) hb2
    have ei := boxed_below (ci.other (B' := B8) (by omega) (.int .i64 1)) hb2
    have hs2 := st2.t.2
    clear hb2 oS hr2 hcI hfI hcX c1 c2 c6 c7 c8 bX hrW
    have hc7 := e7.cell
    have hf7 := e7.frozen
    have hwn : wn xs ≤ 2097152 := by omega
    rcases hE with ⟨hw0, rfl⟩ | ⟨hw1, gE, sE, rfl, hbE, hsE, hgE⟩
    · have Hw0 : Hid (wn xs = 0) := hw0
      clear hw0
      gi_wp2_with fail
      have stY := st2.set (B := B7) (by omega) (by omega) hbl (.int .i64 (wn xs))
      have rowY := row_other oS2 e7 (by decide) (.int .i64 (wn xs))
      have y1 := e1.other (B' := B7) (by omega) (.int .i64 (wn xs))
      have y2 := e2.other (B' := B7) (by omega) (.int .i64 (wn xs))
      have y6 := e6.other (B' := B7) (by omega) (.int .i64 (wn xs))
      have y7 := e7.set (.int .i64 (wn xs))
      have yi := ei.other (B' := B7) (by omega) (.int .i64 (wn xs))
      have yE : ErrT (wn xs) .nilIface (w2.setCell ⟨B7, 0, none⟩ (.int .i64 (wn xs))) := .inl ⟨Hw0.out, rfl⟩
      obtain ⟨Y, hY⟩ : ∃ Y, w2.setCell ⟨B7, 0, none⟩ (.int .i64 (wn xs)) = Y := ⟨_, rfl⟩
      rw [hY] at stY rowY y1 y2 y6 y7 yi yE ⊢
      clear hY e1 e2 e6 e7 e8 ei hc7 hf7 oS2 st2 hs2
      have hsY := stY.t.2
      refine ⟨trivial, ?_⟩
      have hv := rowY.2
      rcases hv with ⟨rfl, hk0⟩ | ⟨g, cap, cur, rfl, hg1, hg2, hg3, hg4⟩
      · refine (CallsIn.inRound l ((callsIn_wide (n := 1)).2 (delete_nil _))).mono ?_
        rintro e w7 ⟨rfl, rfl⟩
        gi_wp2
        have hks : kept (sx xs) = [] := by rw [List.eq_nil_of_length_eq_zero hk0]; rfl
        exact ⟨stY.k.from _, stY.t, ⟨⟨_, ⟨y1, yi, .inr ⟨by simp, _, _, y2, .inl ⟨hks, rfl⟩, y6, yE, y7⟩⟩, Kc.refl _⟩, hB.trans stY.l⟩⟩
      · clear hg2 hg4
        refine (CallsIn.inRound l ((callsIn_wide (n := 1)).2 (delete_any N0 g _ cap (sx xs) Y (by omega) hg3 rowY))).mono ?_
        rintro e w7 ⟨rfl, row7, hg7⟩
        have hg7' : Y.grownBy w7 (Value.slice (some ⟨g, 0, none⟩) (sx xs).length cap).ownBlock := hg7
        have st7 := stY.grown rowY hg7' (Nat.le_refl _) yi (by decide) hbl (by omega)
        have z1 := y1.kept hg7' (y1.not_row (by decide) rowY)
        have z2 := y2.kept hg7' (y2.not_row (by decide) rowY)
        have z6 := y6.kept hg7' (y6.not_row (by decide) rowY)
        have z7 := y7.kept hg7' (y7.not_row (by decide) rowY)
        have zi := yi.kept hg7' (yi.not_row (by decide) rowY)
        have zE := yE.grown rowY hg7'
        clear hg7 hg7' y1 y2 y6 y7 yi yE stY
        have hkl : (kept (sx xs)).length ≤ 2097152 := by
          have : (kept (sx xs)).length ≤ (sx xs).length := List.length_filter_le _ _
          omega
        have hs7 := st7.t.2
        obtain ⟨K, hKe⟩ : ∃ K, (kept (sx xs)).length = K := ⟨_, rfl⟩
        have HKe : Hid ((kept (sx xs)).length = K) := hKe
        rw [hKe] at row7 hkl ⊢
        clear hKe
        rcases Nat.eq_zero_or_pos K with rfl | hk1
        · gi_wp2
          exact ⟨st7.k.from _, st7.t, ⟨⟨w7, ⟨z1, zi, .inr ⟨by simp, _, _, z2, .inl ⟨List.eq_nil_of_length_eq_zero HKe.out, rfl⟩, z6, zE, z7⟩⟩, Kc.refl _⟩, hB.trans st7.l⟩⟩
        · have hc2 := z2.cell
          gi_wp2_with (gi_at_builtin; refine wpListIn_append_own _ rfl _ _ 27 rfl N0 28 i0 (.slice none 0 0) 1 24 Tryf.underlying27 hi hz0 hz1 hz2 rfl (by decide) _ _ _ rfl (World.ownsRow_nil _ _ _ _) ⟨w7.heap.size, 0, none⟩ 1 1 [.slice (some ⟨g, 0, none⟩) K cap] rfl rfl (cell_one_new _ _ _) (by simp [Value.oneCell']) (by unfold maxLen; omega) (by omega) (by simp; omega) ?_; intro v' w8 hown' hgrow _; obtain ⟨g', cap', rfl⟩ := ownsRow_succ (k := 0) hown'; have hg8 := below_none hgrow; have u2 := boxed_below (z2.alloc (.cells #[.slice (some ⟨g, 0, none⟩) K cap] 28)) hg8; have hc28 := u2.cell; have hf28 := u2.frozen)
          have st8 := ((st7.alloc hbW ci.lt hN (.cells #[.slice (some ⟨g, 0, none⟩) K cap] 28)).call hg8 hbW ci.lt hN).set (B := B2) (by omega) (by omega) hbl (.slice (some ⟨g', 0, none⟩) 1 cap')
          have up : ∀ {B : Nat} {t : TypeId} {u : Value}, B ≠ B2 → Boxed w7 B t u → Boxed (w8.setCell ⟨B2, 0, none⟩ (.slice (some ⟨g', 0, none⟩) 1 cap')) B t u := fun h1 hb => (boxed_below (hb.alloc _) hg8).other h1 _
          have row8 := row_other (row_below (row7.alloc (.cells #[.slice (some ⟨g, 0, none⟩) K cap] 28)) hg8) u2 (by decide) (.slice (some ⟨g', 0, none⟩) 1 cap')
          have row8' := row_other hown' u2 (by decide) (.slice (some ⟨g', 0, none⟩) 1 cap')
          have E8 := ((zE.kc (kc_below ((Below.refl _ w7).alloc (Nat.le_refl _) (.cells #[.slice (some ⟨g, 0, none⟩) K cap] 28)))).kc (kc_below hg8)).set u2 (by decide) (.slice (some ⟨g', 0, none⟩) 1 cap')
          exact ⟨st8.k.from _, st8.t, ⟨⟨_, ⟨up (by omega) z1, up (by omega) zi, .inr ⟨by simp, _, _, u2.set _, .inr ⟨by rw [HKe.out]; exact hk1, _, by simpa using row8', by rw [HKe.out]; exact row8⟩, up (by omega) z6, E8, up (by omega) z7⟩⟩, Kc.refl _⟩, hB.trans st8.l⟩⟩
    · have hc6 := e6.cell
      have hf6 := e6.frozen
      have hc8 := e8.cell
      have n67 : B6 ≠ B7 := by omega
      have n87 : B8 ≠ B7 := by omega
      have l6 := e6.lt
      have l6' : B6 < w2.heap.size + 1 := by omega
      have l8 := e8.lt
      gi_wp2_with fail
      refine ⟨trivial, ?_⟩
      have hbE7 := hbE.other (B' := B7) (boxed_ne hbE e7 (by decide)) (.int .i64 (wn xs))
      have hcE := (hbE7.alloc (.cells #[.iface 3 (.int .i64 1), .iface 55 (.pointer (some ⟨gE, 0, none⟩))] 20)).cell
      have A := tier_any F w2.heap.size 1 gE sE ((w2.setCell ⟨B7, 0, none⟩ (.int .i64 (wn xs))).alloc (.cells #[.iface 3 (.int .i64 1), .iface 55 (.pointer (some ⟨gE, 0, none⟩))] 20)) (by
        show F.told.answers w2.tape
        rw [st2.l.tape, hB.tape]; exact hF) (by omega) (by omega) hsE (by go_simp) (by go_simp) hcE
      refine (CallsIn.inRound l ((callsIn_wide (n := 1)).2 A)).mono ?_
      clear A hcE hbE7
      rintro e w5 ⟨rfl, ⟨sT, uT, hgT, hsT⟩, hb5⟩
      have st5 := ((st2.set (B := B7) (by omega) (by omega) hbl (.int .i64 (wn xs))).alloc hbW ci.lt hN (.cells #[.iface 3 (.int .i64 1), .iface 55 (.pointer (some ⟨gE, 0, none⟩))] 20)).call hb5 hbW ci.lt hN
      have up : ∀ {B : Nat} {t : TypeId} {u : Value}, B ≠ B7 → Boxed w2 B t u → Boxed w5 B t u := fun h1 hb => boxed_below ((hb.other h1 (.int .i64 (wn xs))).alloc _) hb5
      have z6 := up (by omega) e6
      have hc65 := z6.cell
      have hf65 := z6.frozen
      have row5 := row_below ((row_other oS2 e7 (by decide) (.int .i64 (wn xs))).alloc _) hb5
      have z1 := up (by omega) e1
      have z2 := up (by omega) e2
      have zi := up (by omega) ei
      have z7 := boxed_below ((e7.set (.int .i64 (wn xs))).alloc _) hb5
      have hsz : ((w2.setCell ⟨B7, 0, none⟩ (.int .i64 (wn xs))).alloc (.cells #[.iface 3 (.int .i64 1), .iface 55 (.pointer (some ⟨gE, 0, none⟩))] 20)).heap.size = w2.heap.size + 1 := by simp [World.setCell]
      have zE : ErrT (wn xs) (.iface 77 (.pointer (some ⟨w2.heap.size + 1, 0, none⟩))) w5 := .inr ⟨hw1, _, sT, uT, rfl, by rw [← hsz]; exact hgT, hsT⟩
      clear up hb5 hgT e1 e2 e6 e7 e8 ei hc7 hf7 oS2 st2 hs2 hc6 hf6 hc8 hbE
      gi_wp2_with fail
      have stY := st5.set (B := B6) (by omega) (by omega) hbl (.iface 77 (.pointer (some ⟨w2.heap.size + 1, 0, none⟩)))
      have rowY := row_other row5 z6 (by decide) (.iface 77 (.pointer (some ⟨w2.heap.size + 1, 0, none⟩)))
      have y1 := z1.other (B' := B6) (by omega) (.iface 77 (.pointer (some ⟨w2.heap.size + 1, 0, none⟩)))
      have y2 := z2.other (B' := B6) (by omega) (.iface 77 (.pointer (some ⟨w2.heap.size + 1, 0, none⟩)))
      have y6 := z6.set (.iface 77 (.pointer (some ⟨w2.heap.size + 1, 0, none⟩)))
      have y7 := z7.other (B' := B6) (by omega) (.iface 77 (.pointer (some ⟨w2.heap.size + 1, 0, none⟩)))
      have yi := zi.other (B' := B6) (by omega) (.iface 77 (.pointer (some ⟨w2.heap.size + 1, 0, none⟩)))
      have yE := zE.set z6 (by decide) (.iface 77 (.pointer (some ⟨w2.heap.size + 1, 0, none⟩)))
      obtain ⟨Y, hY⟩ : ∃ Y, w5.setCell ⟨B6, 0, none⟩ (.iface 77 (.pointer (some ⟨w2.heap.size + 1, 0, none⟩))) = Y := ⟨_, rfl⟩
      rw [hY] at stY rowY y1 y2 y6 y7 yi yE ⊢
      clear hY z1 z2 z6 z7 zi zE hc65 hf65 row5 st5 hsz
      have hsY := stY.t.2
      refine ⟨trivial, ?_⟩
      have hv := rowY.2
      rcases hv with ⟨rfl, hk0⟩ | ⟨g, cap, cur, rfl, hg1, hg2, hg3, hg4⟩
      · refine (CallsIn.inRound l ((callsIn_wide (n := 1)).2 (delete_nil _))).mono ?_
        rintro e w7 ⟨rfl, rfl⟩
        gi_wp2
        have hks : kept (sx xs) = [] := by rw [List.eq_nil_of_length_eq_zero hk0]; rfl
        exact ⟨stY.k.from _, stY.t, ⟨⟨_, ⟨y1, yi, .inr ⟨by simp, _, _, y2, .inl ⟨hks, rfl⟩, y6, yE, y7⟩⟩, Kc.refl _⟩, hB.trans stY.l⟩⟩
      · clear hg2 hg4
        refine (CallsIn.inRound l ((callsIn_wide (n := 1)).2 (delete_any N0 g _ cap (sx xs) Y (by omega) hg3 rowY))).mono ?_
        rintro e w7 ⟨rfl, row7, hg7⟩
        have hg7' : Y.grownBy w7 (Value.slice (some ⟨g, 0, none⟩) (sx xs).length cap).ownBlock := hg7
        have st7 := stY.grown rowY hg7' (Nat.le_refl _) yi (by decide) hbl (by omega)
        have z1 := y1.kept hg7' (y1.not_row (by decide) rowY)
        have z2 := y2.kept hg7' (y2.not_row (by decide) rowY)
        have z6 := y6.kept hg7' (y6.not_row (by decide) rowY)
        have z7 := y7.kept hg7' (y7.not_row (by decide) rowY)
        have zi := yi.kept hg7' (yi.not_row (by decide) rowY)
        have zE := yE.grown rowY hg7'
        clear hg7 hg7' y1 y2 y6 y7 yi yE stY
        have hkl : (kept (sx xs)).length ≤ 2097152 := by
          have : (kept (sx xs)).length ≤ (sx xs).length := List.length_filter_le _ _
          omega
        have hs7 := st7.t.2
        obtain ⟨K, hKe⟩ : ∃ K, (kept (sx xs)).length = K := ⟨_, rfl⟩
        have HKe : Hid ((kept (sx xs)).length = K) := hKe
        rw [hKe] at row7 hkl ⊢
        clear hKe
        rcases Nat.eq_zero_or_pos K with rfl | hk1
        · gi_wp2
          exact ⟨st7.k.from _, st7.t, ⟨⟨w7, ⟨z1, zi, .inr ⟨by simp, _, _, z2, .inl ⟨List.eq_nil_of_length_eq_zero HKe.out, rfl⟩, z6, zE, z7⟩⟩, Kc.refl _⟩, hB.trans st7.l⟩⟩
        · have hc2 := z2.cell
          gi_wp2_with (gi_at_builtin; refine wpListIn_append_own _ rfl _ _ 27 rfl N0 28 i0 (.slice none 0 0) 1 24 Tryf.underlying27 hi hz0 hz1 hz2 rfl (by decide) _ _ _ rfl (World.ownsRow_nil _ _ _ _) ⟨w7.heap.size, 0, none⟩ 1 1 [.slice (some ⟨g, 0, none⟩) K cap] rfl rfl (cell_one_new _ _ _) (by simp [Value.oneCell']) (by unfold maxLen; omega) (by omega) (by simp; omega) ?_; intro v' w8 hown' hgrow _; obtain ⟨g', cap', rfl⟩ := ownsRow_succ (k := 0) hown'; have hg8 := below_none hgrow; have u2 := boxed_below (z2.alloc (.cells #[.slice (some ⟨g, 0, none⟩) K cap] 28)) hg8; have hc28 := u2.cell; have hf28 := u2.frozen)
          have st8 := ((st7.alloc hbW ci.lt hN (.cells #[.slice (some ⟨g, 0, none⟩) K cap] 28)).call hg8 hbW ci.lt hN).set (B := B2) (by omega) (by omega) hbl (.slice (some ⟨g', 0, none⟩) 1 cap')
          have up : ∀ {B : Nat} {t : TypeId} {u : Value}, B ≠ B2 → Boxed w7 B t u → Boxed (w8.setCell ⟨B2, 0, none⟩ (.slice (some ⟨g', 0, none⟩) 1 cap')) B t u := fun h1 hb => (boxed_below (hb.alloc _) hg8).other h1 _
          have row8 := row_other (row_below (row7.alloc (.cells #[.slice (some ⟨g, 0, none⟩) K cap] 28)) hg8) u2 (by decide) (.slice (some ⟨g', 0, none⟩) 1 cap')
          have row8' := row_other hown' u2 (by decide) (.slice (some ⟨g', 0, none⟩) 1 cap')
          have E8 := ((zE.kc (kc_below ((Below.refl _ w7).alloc (Nat.le_refl _) (.cells #[.slice (some ⟨g, 0, none⟩) K cap] 28)))).kc (kc_below hg8)).set u2 (by decide) (.slice (some ⟨g', 0, none⟩) 1 cap')
          exact ⟨st8.k.from _, st8.t, ⟨⟨_, ⟨up (by omega) z1, up (by omega) zi, .inr ⟨by simp, _, _, u2.set _, .inr ⟨by rw [HKe.out]; exact hk1, _, by simpa using row8', by rw [HKe.out]; exact row8⟩, up (by omega) z6, E8, up (by omega) z7⟩⟩, Kc.refl _⟩, hB.trans st8.l⟩⟩
  case done =>
    rintro D ys W hD rfl ⟨⟨X, hP, hk⟩, hB⟩ hK
    obtain ⟨p1, pi, hp⟩ := hP
    obtain ⟨h, -⟩ | ⟨-, T, er, p2, pT, p6, pE, p7⟩ := hp
    · exact absurd h (by simp)
    have c1 := hk.boxed p1
    have ci := hk.boxed pi
    have c2 := hk.boxed p2
    have c6 := hk.boxed p6
    have c7 := hk.boxed p7
    have cT := pT.kc hk
    have cE := pE.kc hk
    clear hk p1 pi p2 p6 p7 pT pE
    have hN : N0 ≤ W.heap.size := by have := hB.size; rw [HN0.out] at this; exact this
    have hbW : b < W.heap.size := by omega
    have hlen := sx_len xs
    have hNx : xs.length ≤ x0.1.2 - x0.1.1 := by have := link_len HL2.out.link; have := HL2.out.lt; omega
    have hwn : wn xs ≤ 2097152 := by omega
    have hq27 := fun a l c w => run_neq_slice_nil (P := Tryf.prog) w 27 28 a l c Tryf.underlying27
    obtain ⟨j0, hj, hj0, hj1, hj2⟩ := info_parts info9
    have fin : ∀ (Y : World) (Wv : Value), Stp b Bi N0 W Y → Boxed Y B2 27 T → TierOk N0 (kept (sx xs)) T Y → ((wn xs = 0 ∧ Wv = .slice none 0 0) ∨ (0 < wn xs ∧ ∃ g cap, Wv = .slice (some ⟨g, 0, none⟩) 1 cap)) →
        Y.heap[D]? = some (.deferred (some [])) ∧ (Y.putObj D (.deferred none)).cell? ⟨B2, 0, none⟩ = some T ∧
        ∃ T' Wv', Ending.returned (.tuple #[T, Wv]) = .returned (.tuple #[T', Wv']) ∧ TierOk w.heap.size (kept (sx xs)) T' (Y.putObj D (.deferred none)) ∧
          ((wn xs = 0 ∧ Wv' = .slice none 0 0) ∨ (0 < wn xs ∧ ∃ g cap, Wv' = .slice (some ⟨g, 0, none⟩) 1 cap)) ∧ Below w.heap.size w (Y.putObj D (.deferred none)) := by
      intro Y Wv st h2 hT hW
      have hKY := st.k.same D _ hK rfl
      have hkc : Kc Y (Y.putObj D (.deferred none)) := fun k cs t fr e => (World.putObj_heap_other (fun h => by subst h; rw [hKY] at e; cases e)).trans e
      refine ⟨hKY, (hkc.boxed h2).cell, T, Wv, rfl, ?_, hW, ?_⟩
      · rw [HN0.out]; exact hT.kc hkc
      · rw [HN0.out]; exact (hB.trans st.l).trans (belowK_b (w := W0) (by omega) _ D _ (.deferred none) hD hKY rfl rfl)
    have Hfin : Hid _ := fin
    have hT2 : (kept (sx xs) = [] ∧ T = .slice none 0 0) ∨ ∃ g cap, T = .slice (some ⟨g, 0, none⟩) 1 cap := by
      rcases cT with h | ⟨_, v2, h1, _⟩
      · exact .inl h
      · obtain ⟨g, cap, h⟩ := ownsRow_succ (k := 0) h1
        exact .inr ⟨g, cap, h⟩
    clear fin
    rcases cE with ⟨hw0, rfl⟩ | ⟨hw1, gE, sE, uE, rfl, hgE, hsE⟩
    · have Hw0 : Hid (wn xs = 0) := hw0
      clear hw0
      have hc6 := c6.cell
      have hc1 := c1.cell
      have hc2 := c2.cell
      have hf2 := c2.frozen
      have s2 := set_same c2
      have stY := Stp.refl b Bi N0 W
      rcases hT2 with ⟨hks, rfl⟩ | ⟨g, cap, rfl⟩
      · have Hks : Hid (kept (sx xs) = []) := hks
        clear hks
        gi_wp2_with fail
        refine ⟨trivial, ?_⟩
        refine ((callsIn_wide (n := 3)).2 (lookupK_miss b o n c V f W _ hn hcap ((hr.below hB hbl).below stY.l hbl) HD.out hk2)).mono ?_
        rintro e w9 ⟨rfl, hb9⟩
        have z6 := boxed_below c6 hb9
        have z2 := boxed_below c2 hb9
        have hc69 := z6.cell
        have hf69 := z6.frozen
        have hc29 := z2.cell
        have hf29 := z2.frozen
        have n62 : B6 ≠ B2 := by omega
        have n26 : B2 ≠ B6 := by omega
        have l62 := z6.lt
        have l22 := z2.lt
        have s6 := set_same ((z2.other (B' := B6) (by omega) .nilIface).alloc (.cells #[.slice none 0 0] 50))
        have hc29' := ((z2.other (B' := B6) (by omega) .nilIface).alloc (.cells #[.slice none 0 0] 50)).cell
        have hf29' := ((z2.other (B' := B6) (by omega) .nilIface).alloc (.cells #[.slice none 0 0] 50)).frozen
        gi_wp2
        refine ⟨trivial, ?_⟩
        gi_wp2
        have stZ := ((stY.call hb9 hbW ci.lt hN).set (B := B6) (by omega) (by omega) hbl .nilIface).alloc hbW ci.lt hN (.cells #[.slice none 0 0] 50)
        obtain ⟨f1, f2, f3⟩ := Hfin.out _ (.slice none 0 0) stZ ((z2.other (by omega) _).alloc _) (.inl ⟨Hks.out, rfl⟩) (.inl ⟨Hw0.out, rfl⟩)
        refine ⟨by simp, .inl ⟨_, _, rfl, run_takeDeferred f1, ?_⟩⟩
        exact ⟨_, by simp [results, Tryf.results26, go_sem, f2], f3⟩
      · gi_wp2
        obtain ⟨f1, f2, f3⟩ := Hfin.out W (.slice none 0 0) stY c2 cT (.inl ⟨Hw0.out, rfl⟩)
        refine ⟨by simp, .inl ⟨_, _, rfl, run_takeDeferred f1, ?_⟩⟩
        exact ⟨_, by simp [results, Tryf.results26, go_sem, f2], f3⟩
    · have hc6 := c6.cell
      have hc1 := c1.cell
      have hc2 := c2.cell
      have hf2 := c2.frozen
      have hcE : W.cell? ⟨gE, 0, none⟩ = some (.string sE) := by simp [World.cell?, hgE]
      have hFW : F.told.answers W.tape := by rw [hB.tape]; exact hF
      by_cases h1 : wn xs = 1
      · have Hw1 : Hid (0 < wn xs) := hw1
        rw [h1] at c7
        have hc7 : W.cell? ⟨B7, 0, none⟩ = some (.int .i64 1) := c7.cell
        clear h1 hw1 hwn
        rcases hT2 with ⟨hks, rfl⟩ | ⟨g, cap, rfl⟩
        · have Hks : Hid (kept (sx xs) = []) := hks
          clear hks
          gi_wp2_with fail
          refine ⟨trivial, ?_⟩
          refine ((callsIn_wide (n := 3)).2 (Fm.skipped_one gE ⟨#[97, 110, 110, 111, 117, 110, 99, 101, 45, 108, 105, 115, 116]⟩ sE W hcE (by omega))).mono ?_
          rintro e w5 ⟨⟨rs, rfl⟩, hw5⟩
          have hb5 : Below W.heap.size W w5 := by rw [hw5]; exact Below.refl _ _
          have st5 : Stp b Bi N0 W w5 := (Stp.refl b Bi N0 W).call hb5 hbW ci.lt hN
          have x1 := boxed_below c1 hb5
          have x2 := boxed_below c2 hb5
          have x6 := boxed_below c6 hb5
          have xT := cT.kc (kc_below hb5)
          clear hw5
          have hs5 := st5.t.2
          gi_wp2_with (gi_at_builtin; refine wpListIn_append_own _ rfl _ _ 28 rfl N0 9 j0 (.string ByteArray.empty) 1 16 Tryf.underlying28 hj hj0 hj1 hj2 rfl (by decide) _ _ _ rfl (World.ownsRow_nil _ _ _ _) ⟨w5.heap.size, 0, none⟩ 1 1 [.string rs] rfl rfl (cell_one_new _ _ _) (by simp [Value.oneCell']) (by unfold maxLen; omega) (by omega) (by simp; omega) ?_; intro v' w8 hown' hgrow _; obtain ⟨g', cap', rfl⟩ := ownsRow_succ (k := 0) hown'; have hg8 := below_none hgrow; have y1 := boxed_below (x1.alloc (.cells #[.string rs] 9)) hg8; have y2 := boxed_below (x2.alloc (.cells #[.string rs] 9)) hg8; have y6 := boxed_below (x6.alloc (.cells #[.string rs] 9)) hg8; have hd1 := y1.cell; have hd2 := y2.cell; have he2 := y2.frozen; have hd6 := y6.cell; have he6 := y6.frozen; have s2 := set_same y2)
          have stY := (st5.alloc hbW ci.lt hN (.cells #[.string rs] 9)).call hg8 hbW ci.lt hN
          have yT := (xT.kc (kc_below ((Below.refl _ w5).alloc (Nat.le_refl _) (.cells #[.string rs] 9)))).kc (kc_below hg8)
          refine ⟨trivial, ?_⟩
          refine ((callsIn_wide (n := 3)).2 (lookupK_miss b o n c V f w8 _ hn hcap ((hr.below hB hbl).below stY.l hbl) HD.out hk2)).mono ?_
          rintro e w9 ⟨rfl, hb9⟩
          have z6 := boxed_below y6 hb9
          have z2 := boxed_below y2 hb9
          have hc69 := z6.cell
          have hf69 := z6.frozen
          have hc29 := z2.cell
          have hf29 := z2.frozen
          have n62 : B6 ≠ B2 := by omega
          have n26 : B2 ≠ B6 := by omega
          have l62 := z6.lt
          have l22 := z2.lt
          have s6 := set_same ((z2.other (B' := B6) (by omega) .nilIface).alloc (.cells #[.slice none 0 0] 50))
          have hc29' := ((z2.other (B' := B6) (by omega) .nilIface).alloc (.cells #[.slice none 0 0] 50)).cell
          have hf29' := ((z2.other (B' := B6) (by omega) .nilIface).alloc (.cells #[.slice none 0 0] 50)).frozen
          gi_wp2
          refine ⟨trivial, ?_⟩
          gi_wp2
          have stZ := ((stY.call hb9 hbW ci.lt hN).set (B := B6) (by omega) (by omega) hbl .nilIface).alloc hbW ci.lt hN (.cells #[.slice none 0 0] 50)
          obtain ⟨f1, f2, f3⟩ := Hfin.out _ (.slice (some ⟨g', 0, none⟩) 1 cap') stZ ((z2.other (by omega) _).alloc _) (.inl ⟨Hks.out, rfl⟩) (.inr ⟨Hw1.out, _, _, rfl⟩)
          refine ⟨by simp, .inl ⟨_, _, rfl, run_takeDeferred f1, ?_⟩⟩
          exact ⟨_, by simp [results, Tryf.results26, go_sem, f2], f3⟩
        · have hx : True := trivial
          gi_wp2_with fail
          refine ⟨trivial, ?_⟩
          refine ((callsIn_wide (n := 3)).2 (Fm.skipped_one gE ⟨#[97, 110, 110, 111, 117, 110, 99, 101, 45, 108, 105, 115, 116]⟩ sE W hcE (by omega))).mono ?_
          rintro e w5 ⟨⟨rs, rfl⟩, hw5⟩
          have hb5 : Below W.heap.size W w5 := by rw [hw5]; exact Below.refl _ _
          have st5 : Stp b Bi N0 W w5 := (Stp.refl b Bi N0 W).call hb5 hbW ci.lt hN
          have x1 := boxed_below c1 hb5
          have x2 := boxed_below c2 hb5
          have x6 := boxed_below c6 hb5
          have xT := cT.kc (kc_below hb5)
          clear hw5
          have hs5 := st5.t.2
          gi_wp2_with (gi_at_builtin; refine wpListIn_append_own _ rfl _ _ 28 rfl N0 9 j0 (.string ByteArray.empty) 1 16 Tryf.underlying28 hj hj0 hj1 hj2 rfl (by decide) _ _ _ rfl (World.ownsRow_nil _ _ _ _) ⟨w5.heap.size, 0, none⟩ 1 1 [.string rs] rfl rfl (cell_one_new _ _ _) (by simp [Value.oneCell']) (by unfold maxLen; omega) (by omega) (by simp; omega) ?_; intro v' w8 hown' hgrow _; obtain ⟨g', cap', rfl⟩ := ownsRow_succ (k := 0) hown'; have hg8 := below_none hgrow; have y1 := boxed_below (x1.alloc (.cells #[.string rs] 9)) hg8; have y2 := boxed_below (x2.alloc (.cells #[.string rs] 9)) hg8; have y6 := boxed_below (x6.alloc (.cells #[.string rs] 9)) hg8; have hd1 := y1.cell; have hd2 := y2.cell; have he2 := y2.frozen; have hd6 := y6.cell; have he6 := y6.frozen; have s2 := set_same y2)
          have stY := (st5.alloc hbW ci.lt hN (.cells #[.string rs] 9)).call hg8 hbW ci.lt hN
          have yT := (xT.kc (kc_below ((Below.refl _ w5).alloc (Nat.le_refl _) (.cells #[.string rs] 9)))).kc (kc_below hg8)
          obtain ⟨f1, f2, f3⟩ := Hfin.out w8 (.slice (some ⟨g', 0, none⟩) 1 cap') stY y2 yT (.inr ⟨Hw1.out, _, _, rfl⟩)
          refine ⟨by simp, .inl ⟨_, _, rfl, run_takeDeferred f1, ?_⟩⟩
          exact ⟨_, by simp [results, Tryf.results26, go_sem, f2], f3⟩
      · have Hw1 : Hid (0 < wn xs) := hw1
        have hc7 := c7.cell
        have hw2 : (1 : Int) < (wn xs : Int) := by omega
        have hw3 : (wn xs : Int) ≤ 2097152 := by omega
        have hT := Fm.sizeC F ((wn xs : Int) - 1) (⟨#[97, 110, 110, 111, 117, 110, 99, 101, 45, 108, 105, 115, 116]⟩ : ByteArray).data.toList (by omega) (by omega) (by simp)
        rcases hT2 with ⟨hks, rfl⟩ | ⟨g, cap, rfl⟩
        · have Hks : Hid (kept (sx xs) = []) := hks
          clear hks
          gi_wp2_with fail
          refine ⟨trivial, ?_⟩
          refine ((callsIn_wide (n := 3)).2 (Fm.skipped_more F.told gE (wn xs) ⟨#[97, 110, 110, 111, 117, 110, 99, 101, 45, 108, 105, 115, 116]⟩ sE W hFW hcE (by omega) hw2 hw3 hT)).mono ?_
          rintro e w5 ⟨⟨rs, rfl⟩, hb5⟩
          have st5 : Stp b Bi N0 W w5 := (Stp.refl b Bi N0 W).call hb5 hbW ci.lt hN
          have x1 := boxed_below c1 hb5
          have x2 := boxed_below c2 hb5
          have x6 := boxed_below c6 hb5
          have xT := cT.kc (kc_below hb5)
          clear hb5
          have hs5 := st5.t.2
          gi_wp2_with (gi_at_builtin; refine wpListIn_append_own _ rfl _ _ 28 rfl N0 9 j0 (.string ByteArray.empty) 1 16 Tryf.underlying28 hj hj0 hj1 hj2 rfl (by decide) _ _ _ rfl (World.ownsRow_nil _ _ _ _) ⟨w5.heap.size, 0, none⟩ 1 1 [.string rs] rfl rfl (cell_one_new _ _ _) (by simp [Value.oneCell']) (by unfold maxLen; omega) (by omega) (by simp; omega) ?_; intro v' w8 hown' hgrow _; obtain ⟨g', cap', rfl⟩ := ownsRow_succ (k := 0) hown'; have hg8 := below_none hgrow; have y1 := boxed_below (x1.alloc (.cells #[.string rs] 9)) hg8; have y2 := boxed_below (x2.alloc (.cells #[.string rs] 9)) hg8; have y6 := boxed_below (x6.alloc (.cells #[.string rs] 9)) hg8; have hd1 := y1.cell; have hd2 := y2.cell; have he2 := y2.frozen; have hd6 := y6.cell; have he6 := y6.frozen; have s2 := set_same y2)
          have stY := (st5.alloc hbW ci.lt hN (.cells #[.string rs] 9)).call hg8 hbW ci.lt hN
          have yT := (xT.kc (kc_below ((Below.refl _ w5).alloc (Nat.le_refl _) (.cells #[.string rs] 9)))).kc (kc_below hg8)
          refine ⟨trivial, ?_⟩
          refine ((callsIn_wide (n := 3)).2 (lookupK_miss b o n c V f w8 _ hn hcap ((hr.below hB hbl).below stY.l hbl) HD.out hk2)).mono ?_
          rintro e w9 ⟨rfl, hb9⟩
          have z6 := boxed_below y6 hb9
          have z2 := boxed_below y2 hb9
          have hc69 := z6.cell
          have hf69 := z6.frozen
          have hc29 := z2.cell
          have hf29 := z2.frozen
          have n62 : B6 ≠ B2 := by omega
          have n26 : B2 ≠ B6 := by omega
          have l62 := z6.lt
          have l22 := z2.lt
          have s6 := set_same ((z2.other (B' := B6) (by omega) .nilIface).alloc (.cells #[.slice none 0 0] 50))
          have hc29' := ((z2.other (B' := B6) (by omega) .nilIface).alloc (.cells #[.slice none 0 0] 50)).cell
          have hf29' := ((z2.other (B' := B6) (by omega) .nilIface).alloc (.cells #[.slice none 0 0] 50)).frozen
          gi_wp2
          refine ⟨trivial, ?_⟩
          gi_wp2
          have stZ := ((stY.call hb9 hbW ci.lt hN).set (B := B6) (by omega) (by omega) hbl .nilIface).alloc hbW ci.lt hN (.cells #[.slice none 0 0] 50)
          obtain ⟨f1, f2, f3⟩ := Hfin.out _ (.slice (some ⟨g', 0, none⟩) 1 cap') stZ ((z2.other (by omega) _).alloc _) (.inl ⟨Hks.out, rfl⟩) (.inr ⟨Hw1.out, _, _, rfl⟩)
          refine ⟨by simp, .inl ⟨_, _, rfl, run_takeDeferred f1, ?_⟩⟩
          exact ⟨_, by simp [results, Tryf.results26, go_sem, f2], f3⟩
        · have hx : True := trivial
          gi_wp2_with fail
          refine ⟨trivial, ?_⟩
          refine ((callsIn_wide (n := 3)).2 (Fm.skipped_more F.told gE (wn xs) ⟨#[97, 110, 110, 111, 117, 110, 99, 101, 45, 108, 105, 115, 116]⟩ sE W hFW hcE (by omega) hw2 hw3 hT)).mono ?_
          rintro e w5 ⟨⟨rs, rfl⟩, hb5⟩
          have st5 : Stp b Bi N0 W w5 := (Stp.refl b Bi N0 W).call hb5 hbW ci.lt hN
          have x1 := boxed_below c1 hb5
          have x2 := boxed_below c2 hb5
          have x6 := boxed_below c6 hb5
          have xT := cT.kc (kc_below hb5)
          clear hb5
          have hs5 := st5.t.2
          gi_wp2_with (gi_at_builtin; refine wpListIn_append_own _ rfl _ _ 28 rfl N0 9 j0 (.string ByteArray.empty) 1 16 Tryf.underlying28 hj hj0 hj1 hj2 rfl (by decide) _ _ _ rfl (World.ownsRow_nil _ _ _ _) ⟨w5.heap.size, 0, none⟩ 1 1 [.string rs] rfl rfl (cell_one_new _ _ _) (by simp [Value.oneCell']) (by unfold maxLen; omega) (by omega) (by simp; omega) ?_; intro v' w8 hown' hgrow _; obtain ⟨g', cap', rfl⟩ := ownsRow_succ (k := 0) hown'; have hg8 := below_none hgrow; have y1 := boxed_below (x1.alloc (.cells #[.string rs] 9)) hg8; have y2 := boxed_below (x2.alloc (.cells #[.string rs] 9)) hg8; have y6 := boxed_below (x6.alloc (.cells #[.string rs] 9)) hg8; have hd1 := y1.cell; have hd2 := y2.cell; have he2 := y2.frozen; have hd6 := y6.cell; have he6 := y6.frozen; have s2 := set_same y2)
          have stY := (st5.alloc hbW ci.lt hN (.cells #[.string rs] 9)).call hg8 hbW ci.lt hN
          have yT := (xT.kc (kc_below ((Below.refl _ w5).alloc (Nat.le_refl _) (.cells #[.string rs] 9)))).kc (kc_below hg8)
          obtain ⟨f1, f2, f3⟩ := Hfin.out w8 (.slice (some ⟨g', 0, none⟩) 1 cap') stY y2 yT (.inr ⟨Hw1.out, _, _, rfl⟩)
          refine ⟨by simp, .inl ⟨_, _, rfl, run_takeDeferred f1, ?_⟩⟩
          exact ⟨_, by simp [results, Tryf.results26, go_sem, f2], f3⟩
  case stop =>
    rintro D c pre W _ _ h _
    exact h.elim

end Go.Proofs.Qxb6614548aFmt.Ben
