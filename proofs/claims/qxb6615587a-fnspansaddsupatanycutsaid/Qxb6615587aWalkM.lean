/-
  THE WALK of FnSpansAddsUpAtAnyCut (seat b6615587a).
-/
import Derived.Test.Qxb6615587aScan
namespace Go.Proofs.Qxb6615587a
open Go.ChangeShapes Go.WideShapes Go.ChangeAt Go.RowKit
set_option linter.unusedVariables false

theorem Try.info45' : (Try.prog.info? 45).map (fun i => (i.zero, i.size, i.bytes)) = some (some (.int .u16 0), 1, 2) := by kernel_rfl
theorem Try.size34' : (Try.prog.info? 34).map (·.size) = some 1 := by kernel_rfl

/-- The inputs at which FnSpansAddsUpAtAnyCut goes on behind her first tests. -/
def Good3 (l0 l1 : Nat) (a2 a3 a4 : Int) : Prop := l0 ≤ 65536 ∧ l1 ≤ 65536 ∧ 4 * l0 + 4 * l1 ≤ 1048576 ∧ 0 ≤ a2 ∧ a2 ≤ a3 ∧ a3 ≤ a4 ∧ a4 ≤ l0 ∧ a4 ≤ l1

set_option maxHeartbeats 1000000 in
set_option maxRecDepth 100000 in
theorem adds_out (a0 a1 : Option Addr) (l0 c0 l1 c1 : Nat) (a2 a3 a4 a5 a6 : Int) (w : World) (h0 : l0 ≤ maxLen) (h1 : l1 ≤ maxLen) (hbad : ¬ Good3 l0 l1 a2 a3 a4) :
    Calls Try.prog 3 #[.slice a0 l0 c0, .slice a1 l1 c1, .int .i64 a2, .int .i64 a3, .int .i64 a4, .int .i64 a5, .int .u64 a6] w fun e w' => e = .returned (.bool true) ∧ Below w.heap.size w w' := by
  have hbad' : ¬ (l0 ≤ 65536 ∧ l1 ≤ 65536 ∧ 4 * l0 + 4 * l1 ≤ 1048576 ∧ 0 ≤ a2 ∧ a2 ≤ a3 ∧ a3 ≤ a4 ∧ a4 ≤ l0 ∧ a4 ≤ l1) := hbad
  have HB : Hid (¬ (l0 ≤ 65536 ∧ l1 ≤ 65536 ∧ 4 * l0 + 4 * l1 ≤ 1048576 ∧ 0 ≤ a2 ∧ a2 ≤ a3 ∧ a3 ≤ a4 ∧ a4 ≤ l0 ∧ a4 ≤ l1)) := hbad'
  clear hbad hbad'
  unfold maxLen at h0 h1
  go_enter Try.func3, Try.ntmps3
  go_wp2_with fail
  refine (bytes5_any a0 a1 l0 c0 l1 c1 a2 a3 a4 a5 a6 w (by unfold maxLen; omega) (by unfold maxLen; omega)).mono ?_
  rintro e w' ⟨⟨b, rfl⟩, rfl⟩
  cases b with
  | false =>
    go_wp2_with fail
    go_ret
    exact ⟨rfl, Below.refl _ _⟩
  | true =>
    go_wp2_with fail
    all_goals first | (go_ret; exact ⟨rfl, Below.refl _ _⟩) | (exfalso; have := HB.out; omega)

/-- What her loop counts. -/
def LN (f : Nat → Int) (n : Int) (a k L : Nat) : Prop := L = (hits f n a k).length
theorem LN.start (f : Nat → Int) (n : Int) (a : Nat) : LN f n a a 0 := by unfold LN; rw [hits_self]; rfl
theorem LN.miss {f : Nat → Int} {n : Int} {a k L : Nat} (h : LN f n a k L) (hak : a ≤ k) (hm : hit f n k = false) : LN f n a (k + 1) L := by
  unfold LN at *
  rw [hits_succ f n a k hak, hm, h]
  simp
theorem LN.hit {f : Nat → Int} {n : Int} {a k L : Nat} (h : LN f n a k L) (hak : a ≤ k) (hm : hit f n k = true) : LN f n a (k + 1) (L + 1) := by
  unfold LN at *
  rw [hits_succ f n a k hak, hm, h]
  simp
theorem LN.le {f : Nat → Int} {n : Int} {a k L : Nat} (h : LN f n a k L) : L ≤ k - a := by
  unfold LN at h
  rw [h]
  exact hits_length f n a k

/-- What ZZspans gives where nothing was found before. -/
def ZE (f c : Nat → Int) (base n : Int) (a t : Nat) (w : World) (e : Ending) (w' : World) : Prop :=
  ∃ ga gd T, w.heap.size ≤ ga ∧ w.heap.size ≤ gd ∧ T = (hits f n a t).length ∧ e = .returned (.tuple #[.int .i64 (T : Int), .int .i64 (bestOf f (hits f n a t)), .slice (some ⟨ga, 0, none⟩) T T, .slice (some ⟨gd, 0, none⟩) T T]) ∧
    Own w' ga T .u64 23 (fun i => ((outs f c base (hits f n a t)).getD i (0, 0)).1) ∧ Own w' gd T .u32 34 (fun i => ((outs f c base (hits f n a t)).getD i (0, 0)).2) ∧ Below w.heap.size w w'

theorem zspans_empty (X N : Nat) (wa ca ra : Option Addr) (nc : Nat) (f c r : Nat → Int) (base n : Int) (a t : Nat) (w : World) (hf : ∀ i, 0 ≤ f i ∧ f i ≤ 4294967295) (hN : N ≤ 65536) (hnc : nc ≤ 65536)
    (hx : Idx w w.heap.size X wa ca ra N N nc f c r) (hat : a ≤ t) (htN : t ≤ N) (htc : t ≤ nc) (hfit : Fit f a t) (hrk : RKA f r a t) :
    Calls Try.prog 10 #[.pointer (some ⟨X, 0, none⟩), .int .i64 a, .int .i64 t, .int .i64 n, .bool true, .slice (some ⟨w.heap.size, 0, none⟩) 0 0, .slice (some ⟨w.heap.size + 1, 0, none⟩) 0 0, .int .u64 base] ((w.alloc (.cells #[] 23)).alloc (.cells #[] 34)) fun e w' => ZE f c base n a t w e w' := by
  have hb : Below w.heap.size w ((w.alloc (.cells #[] 23)).alloc (.cells #[] 34)) := ((Below.refl _ _).alloc (Nat.le_refl _) _).alloc (by simp) _
  have hs : ((w.alloc (.cells #[] 23)).alloc (.cells #[] 34)).heap.size = w.heap.size + 2 := by simp
  refine (zspans_some X N wa ca ra nc 0 w.heap.size 0 0 (w.heap.size + 1) 0 0 f c r (fun _ => 0) (fun _ => 0) base n a t _ hf hN hnc (by omega) ((hx.below hb).mono (by omega)) hat htN htc hfit hrk (by omega) (by omega) (fun i hi => by omega) (fun i hi => by omega)).mono ?_
  rintro e w' ⟨ga, gd, T, q1, q2, q3, he, p1, p2, p3⟩
  have q3' : T = (hits f n a t).length := by rw [q3]; simp [outs]
  simp only [List.range_zero, List.map_nil, List.nil_append] at p1 p2
  refine ⟨ga, gd, T, by omega, by omega, q3', by rw [he, q3'], p1, p2, hb.trans (p3.mono (by omega))⟩

theorem rangeKey_q (r : Int) (w : World) (h0 : 0 ≤ r) (h1 : r ≤ 4294967295) (h2 : lo r ≤ hi r) :
    Calls Try.prog 11 #[.int .u32 r] w fun e w' => e = .returned (.int .u32 (key r)) ∧ w' = w := (rangeKey_any r w h0 h1 h2).mono fun _ _ ⟨a, b⟩ => ⟨a, b.symm⟩

theorem outs_cat (f c : Nat → Int) (base : Int) (h1 h2 : List Nat) (i : Nat) (hi : i < h1.length + h2.length) :
    ((outs f c base (h1 ++ h2)).getD i (0, 0)).1 = cat (fun i => ((outs f c base h1).getD i (0, 0)).1) (fun i => ((outs f c base h2).getD i (0, 0)).1) h1.length i ∧
    ((outs f c base (h1 ++ h2)).getD i (0, 0)).2 = cat (fun i => ((outs f c base h1).getD i (0, 0)).2) (fun i => ((outs f c base h2).getD i (0, 0)).2) h1.length i := by
  unfold cat outs
  by_cases h : i < h1.length
  · simp [h, List.getElem?_append]
  · simp [h, List.getElem?_append]

set_option maxHeartbeats 8000000 in
set_option maxRecDepth 100000 in
theorem adds_main (a0 a1 : Option Addr) (N cap0 nc cap1 : Nat) (f c : Nat → Int) (a m t : Nat) (n base : Int) (w : World) (hf : ∀ i, 0 ≤ f i ∧ f i ≤ 4294967295) (hg : Good3 N nc a m t)
    (hnil0 : a0 = none → N = 0 ∧ cap0 = 0) (hnil1 : a1 = none → nc = 0) (hr0 : Row w w.heap.size .u32 a0 N f) (hr1 : Row w w.heap.size .u32 a1 nc c) :
    Calls Try.prog 3 #[.slice a0 N cap0, .slice a1 nc cap1, .int .i64 a, .int .i64 m, .int .i64 t, .int .i64 n, .int .u64 base] w fun e w' => e = .returned (.bool true) ∧ Below w.heap.size w w' := by
  obtain ⟨g1, g2, g4, g5, g6, g6b, g7, g8⟩ := hg
  have g4' : 4 * (N : Int) + 4 * (nc : Int) ≤ 1048576 := by omega
  have HF : Hid (∀ i, 0 ≤ f i ∧ f i ≤ 4294967295) := hf
  have HN0 : Hid (a0 = none → N = 0 ∧ cap0 = 0) := hnil0
  clear hf hnil0
  obtain ⟨l0, hl0, hlz0, hlz1, hlz2⟩ := info_parts Try.info34
  obtain ⟨m0, hm0, hmz0, hmz1, hmz2⟩ := info_parts Try.info45'
  have hq := fun w x n c => run_neq_slice_nil_any (P := Try.prog) w 22 34 (some x) n c 0 0 Try.underlying22
  have hqn := fun w n c => run_neq_slice_nil_any (P := Try.prog) w 22 34 none n c 0 0 Try.underlying22
  go_enter Try.func3, Try.ntmps3
  go_wp2_with fail
  refine (bytes5_any a0 a1 N cap0 nc cap1 a m t n base w (by unfold maxLen; omega) (by unfold maxLen; omega)).mono ?_
  rintro e w' ⟨⟨b, rfl⟩, rfl⟩
  cases b
  · go_wp2_with fail
    go_ret
    exact ⟨rfl, Below.refl _ _⟩
  go_wp2_with fail
  refine (wordsFit_any a0 N cap0 f a t w.heap.size w HF.out (by omega) (by omega) g1 hr0).mono ?_
  rintro e w' ⟨⟨b, rfl, hfit0⟩, rfl⟩
  cases b
  · go_wp2_with fail
    go_ret
    exact ⟨rfl, Below.refl _ _⟩
  have hfit : Fit f a t := hfit0 rfl
  clear hfit0
  rcases a1 with _ | x
  case' none =>
    have hn1 := hnil1 rfl
    have hrc : Row w w.heap.size .u32 none nc c := hr1
    clear hnil1
    have HN1 : Hid (nc = 0) := hn1
    clear hn1 hr1
    go_wp2_with fail
    obtain ⟨wc, hwc⟩ : ∃ wc, wc = w := ⟨_, rfl⟩
    rw [show Calls Try.prog 7 #[.slice a0 N cap0] w = Calls Try.prog 7 #[.slice a0 N cap0] wc by rw [hwc]]
    rw [← hwc] at hrc
    have hbc : Below w.heap.size w wc := by rw [hwc]; exact Below.refl _ _
    clear hwc
  case' some =>
    clear hnil1
    go_wp2_with (at_make; refine wpList_make_full _ rfl _ _ 22 rfl w.heap.size 34 l0 (.int .u32 0) 1 Try.underlying22 hl0 hlz0 hlz1 .i64 .i64 _ _ nc rfl rfl rfl rfl (by rw [hlz2]; omega) (by unfold maxLen; omega) (Nat.le_refl _) ?_)
    intro w1 hown hgrow
    have hb := below_made hgrow
    have ho := Own.of_made1 hown
    clear hown hgrow
    obtain ⟨wc, hcp, how, hbc0⟩ := run_copy_mine (P := Try.prog) 22 34 Try.underlying22 Try.size34' w.heap.size nc cap1 (some x) .u32 34 _ c w.heap.size ho (hr1.below hb)
    have hbc := hbc0 _ _ hb (Nat.le_refl _)
    clear hbc0
    have hrc := how.row
    clear ho hb how hr1
    go_wp2_with fail
    clear hcp
  all_goals
    have hszc := hbc.size
    refine (copy_any a0 N cap0 f wc g1 HN0.out ((hr0.below hbc).mono hszc)).mono ?_
    rintro e w1 ⟨v, rfl, hrv, _, hb1⟩
    have hrc1 := (hrc.below hb1).mono hb1.size
    have hbw1 : Below w.heap.size w w1 := hbc.trans (hb1.mono hszc)
    clear hrc hb1 hbc hszc
    go_wp2_with (at_make; refine wpList_make_full _ rfl _ _ 27 rfl w1.heap.size 45 m0 (.int .u16 0) 1 Try.underlying27 hm0 hmz0 hmz1 .i64 .i64 _ _ N rfl rfl rfl rfl (by rw [hmz2]; omega) (by unfold maxLen; omega) (Nat.le_refl _) ?_)
    intro w2 hown hgrow
    have hb2 := below_made hgrow
    have ho2 := Own.of_made1 hown
    clear hown hgrow
    go_wp2_with fail
    refine (fill_any v N N w1.heap.size a t f _ w2 HF.out g1 (hrv.below hb2) ho2 (by omega) (by omega)).mono ?_
    rintro e w3 ⟨rfl, rW, hoW, hrkW0, _, hs3⟩
    have hb3 : Below w1.heap.size w1 w3 := hb2.trans (hs3.below (by have := hb2.size; omega) (fun k hk e => by omega))
    have hrkW : RKA f rW a t := RKA.of (by omega) hrkW0
    have hl3 := hoW.lt
    have hrv3 := (hrv.below hb3).mono (Nat.le_of_lt hl3)
    have hrc3 := (hrc1.below hb3).mono (Nat.le_of_lt hl3)
    have hrW3 := hoW.row
    have hbw3 : Below w.heap.size w w3 := hbw1.trans (hb3.mono hbw1.size)
    clear ho2 hb2 hs3 hrkW0 hrv hrc1 hb3 hoW hbw1
    go_wp2_with (at_make; refine wpList_make_full _ rfl _ _ 27 rfl w3.heap.size 45 m0 (.int .u16 0) 1 Try.underlying27 hm0 hmz0 hmz1 .i64 .i64 _ _ N rfl rfl rfl rfl (by rw [hmz2]; omega) (by unfold maxLen; omega) (Nat.le_refl _) ?_)
    intro w4 hown hgrow
    have hb4 := below_made hgrow
    have ho4 := Own.of_made1 hown
    clear hown hgrow
    go_wp2_with fail
    refine (fill_any v N N w3.heap.size a m f _ w4 HF.out g1 (hrv3.below hb4) ho4 (by omega) (by omega)).mono ?_
    rintro e w5 ⟨rfl, rL, hoL, hrkL0, _, hs5⟩
    have hb5 : Below w3.heap.size w3 w5 := hb4.trans (hs5.below (by have := hb4.size; omega) (fun k hk e => by omega))
    have hrkL : RKA f rL a m := RKA.of (by omega) hrkL0
    have hl5 := hoL.lt
    have hrv5 := (hrv3.below hb5).mono (Nat.le_of_lt hl5)
    have hrc5 := (hrc3.below hb5).mono (Nat.le_of_lt hl5)
    have hrW5 := (hrW3.below hb5).mono (Nat.le_of_lt hl5)
    have hrL5 := hoL.row
    have hbw5 : Below w.heap.size w w5 := hbw3.trans (hb5.mono hbw3.size)
    clear ho4 hb4 hs5 hrkL0 hrv3 hrc3 hrW3 hb5 hoL hbw3
    go_wp2_with (at_make; refine wpList_make_full _ rfl _ _ 27 rfl w5.heap.size 45 m0 (.int .u16 0) 1 Try.underlying27 hm0 hmz0 hmz1 .i64 .i64 _ _ N rfl rfl rfl rfl (by rw [hmz2]; omega) (by unfold maxLen; omega) (Nat.le_refl _) ?_)
    intro w6 hown hgrow
    have hb6 := below_made hgrow
    have ho6 := Own.of_made1 hown
    clear hown hgrow
    go_wp2_with fail
    refine (fill_any v N N w5.heap.size m t f _ w6 HF.out g1 (hrv5.below hb6) ho6 (by omega) (by omega)).mono ?_
    rintro e w7 ⟨rfl, rR, hoR, hrkR0, _, hs7⟩
    have hb7 : Below w5.heap.size w5 w7 := hb6.trans (hs7.below (by have := hb6.size; omega) (fun k hk e => by omega))
    have hrkR : RKA f rR m t := RKA.of (by omega) hrkR0
    have hl7 := hoR.lt
    have hrv7 := (hrv5.below hb7).mono (Nat.le_of_lt hl7)
    have hrc7 := (hrc5.below hb7).mono (Nat.le_of_lt hl7)
    have hrW7 := (hrW5.below hb7).mono (Nat.le_of_lt hl7)
    have hrL7 := (hrL5.below hb7).mono (Nat.le_of_lt hl7)
    have hrR7 := hoR.row
    have hbw7 : Below w.heap.size w w7 := hbw5.trans (hb7.mono hbw5.size)
    clear ho6 hb6 hs7 hrkR0 hrv5 hrc5 hrW5 hrL5 hb7 hoR hbw5
    go_wp2_with fail
    refine (new_any v (some ⟨w1.heap.size, 0, none⟩) _ N N nc _ f c rW w7 g2 hrv7 hrc7 hrW7).mono ?_
    rintro e w8 ⟨XW, caW, rfl, hxW, hb8⟩
    have hs8 := hb8.size
    go_wp2_with fail
    refine (new_any v (some ⟨w3.heap.size, 0, none⟩) _ N N nc _ f c rL w8 g2 ((hrv7.below hb8).mono hs8) ((hrc7.below hb8).mono hs8) ((hrL7.below hb8).mono hs8)).mono ?_
    rintro e w9 ⟨XL, caL, rfl, hxL, hb9⟩
    have hs9 := hb9.size
    have hb79 : Below w7.heap.size w7 w9 := hb8.trans (hb9.mono hs8)
    go_wp2_with fail
    refine (new_any v (some ⟨w5.heap.size, 0, none⟩) _ N N nc _ f c rR w9 g2 ((hrv7.below hb79).mono (by omega)) ((hrc7.below hb79).mono (by omega)) ((hrR7.below hb79).mono (by omega))).mono ?_
    rintro e w10 ⟨XR, caR, rfl, hxR, hb10⟩
    have hs10 := hb10.size
    have hxW10 := ((hxW.below (hb9.trans (hb10.mono hs9)))).mono (show w8.heap.size ≤ w10.heap.size by omega)
    have hxL10 := (hxL.below hb10).mono hs10
    have hrv10 := hrv7.below (hb79.trans (hb10.mono (by omega)))
    have hbw10 : Below w.heap.size w w10 := hbw7.trans ((hb79.trans (hb10.mono (by omega))).mono hbw7.size)
    clear hxW hxL hb8 hb9 hb10 hb79 hrv7 hrc7 hrW7 hrL7 hrR7 hbw7
    go_wp2_with fail
    refine (zspans_empty XW N v caW (some ⟨w1.heap.size, 0, none⟩) nc f c rW base n a t w10 HF.out g1 g2 hxW10 (by omega) (by omega) (by omega) hfit hrkW).mono ?_
    rintro e w11 ⟨ga, gd, TW, za, zd, zT, rfl, owA, owD, hb11⟩
    have hs11 := hb11.size
    have ZTW : Hid (TW = (hits f n a t).length) := zT
    clear zT hxW10 hrkW
    go_wp2_with fail
    refine (zspans_empty XL N v caL (some ⟨w3.heap.size, 0, none⟩) nc f c rL base n a m w11 HF.out g1 g2 ((hxL10.below hb11).mono hs11) (by omega) (by omega) (by omega) (hfit.sub (Nat.le_refl _) (by omega)) hrkL).mono ?_
    rintro e w12 ⟨la, ld, TL, zla, zld, zT, rfl, olA, olD, hb12⟩
    have hs12 := hb12.size
    have ZTL : Hid (TL = (hits f n a m).length) := zT
    have hb1012 : Below w10.heap.size w10 w12 := hb11.trans (hb12.mono hs11)
    clear zT hxL10 hrkL
    go_wp2_with fail
    refine (zspans_empty XR N v caR (some ⟨w5.heap.size, 0, none⟩) nc f c rR base n m t w12 HF.out g1 g2 ((hxR.below hb1012).mono (by omega)) (by omega) (by omega) (by omega) (hfit.sub (by omega) (Nat.le_refl _)) hrkR).mono ?_
    rintro e w13 ⟨ra, rd, TR, zra, zrd, zT, rfl, orA, orD, hb13⟩
    have hs13 := hb13.size
    have ZTR : Hid (TR = (hits f n m t).length) := zT
    have hb1013 : Below w10.heap.size w10 w13 := hb1012.trans (hb13.mono (by omega))
    have hrv13 := hrv10.below (hb1013.mono (by omega))
    have owA' := owA.keep ((hb12.trans (hb13.mono hs12)).block _ owA.lt)
    have owD' := owD.keep ((hb12.trans (hb13.mono hs12)).block _ owD.lt)
    have olA' := olA.keep (hb13.block _ olA.lt)
    have olD' := olD.keep (hb13.block _ olD.lt)
    have hbw13 : Below w.heap.size w w13 := hbw10.trans (hb1013.mono hbw10.size)
    have blE := bestOf_mem f (hits f n a m)
    have brE := bestOf_mem f (hits f n m t)
    have bE : bestOf f (hits f n a t) = better f (bestOf f (hits f n a m)) (bestOf f (hits f n m t)) := by rw [hits_cut f n a m t (by omega) (by omega), bestOf_append]
    have hTW : TW = TL + TR := by rw [ZTW.out, ZTL.out, ZTR.out, hits_cut f n a m t (by omega) (by omega)]; simp
    clear zT hxR hrkR owA owD olA olD hb11 hb12 hb13 hb1012 hb1013 hrv10 hbw10
    generalize hHW : hits f n a t = HW at *
    generalize hHL : hits f n a m = HL at *
    generalize hHR : hits f n m t = HR at *
    have EW : Hid (hits f n a t = HW) := hHW
    have EL : Hid (hits f n a m = HL) := hHL
    have ER : Hid (hits f n m t = HR) := hHR
    clear hHW hHL hHR
    generalize bestOf f HW = bw at *
    generalize bestOf f HL = bl at *
    generalize bestOf f HR = br at *
    have BE : Hid (bw = better f bl br) := bE
    have BLE : Hid _ := blE
    have BRE : Hid _ := brE
    have HTW : Hid (TW = TL + TR) := hTW
    clear bE blE brE hTW
    go_wp2_with fail
    go_loop [35, 36] (fun hv i => ∃ q L : Nat, a ≤ q ∧ q ≤ t ∧ i = .int .i64 q ∧ hv = .int .i64 L ∧ LN f n a q L) (fun _ i => t - (intOf i).toNat)
    case atStart => exact ⟨a, 0, Nat.le_refl _, by omega, rfl, rfl, LN.start f n a⟩
    case round =>
      obtain ⟨q, L, hq1, hq2, rfl, rfl, hln⟩ := hrel
      have hLle := hln.le
      by_cases hlt2 : q < t
      · obtain ⟨wb, wo, rfl, hwB, hwc⟩ := hrv13.cells (by omega)
        have y1 := hwc q (by omega)
        obtain ⟨q0, q1⟩ := HF.out q
        have ha1 := and_lo (f q) q0 q1
        clear hwc
        by_cases h1 : lo (f q) ≤ n
        · have h1' : f q % 65536 ≤ n := h1
          by_cases h2 : n ≤ hi (f q)
          · have h2' : n ≤ f q / 65536 := h2
            go_wp2_with fail
            go_round
            case rel => exact ⟨q + 1, L + 1, by omega, by omega, by go_num, by go_num, hln.hit hq1 (hit_yes h1 h2)⟩
            case measure => simp [intOf]; omega
          · have h2' : ¬ n ≤ f q / 65536 := h2
            go_wp2_with fail
            go_round
            case rel => exact ⟨q + 1, L, by omega, by omega, by go_num, rfl, hln.miss hq1 (hit_hi (by omega))⟩
            case measure => simp [intOf]; omega
        · have h1' : ¬ f q % 65536 ≤ n := h1
          go_wp2_with fail
          go_round
          case rel => exact ⟨q + 1, L, by omega, by omega, by go_num, rfl, hln.miss hq1 (hit_lo (by omega))⟩
          case measure => simp [intOf]; omega
      · obtain rfl : TW = TL + TR := HTW.out
        obtain rfl : L = TL + TR := by
          have h0 : L = (hits f n a q).length := hln
          rw [h0, show q = t by omega, EW.out]
          exact ZTW.out.symm
        have hT1 : TL ≤ 65536 := by rw [ZTL.out, ← EL.out]; have := hits_length f n a m; omega
        have hT2 : TR ≤ 65536 := by rw [ZTR.out, ← ER.out]; have := hits_length f n m t; omega
        clear hln hLle
        have EQ1 : ∀ i, i < TL + TR → ((outs f c base HW).getD i (0, 0)).1 = cat (fun i => ((outs f c base HL).getD i (0, 0)).1) (fun i => ((outs f c base HR).getD i (0, 0)).1) HL.length i := fun i hi => by
          have e0 : HW = HL ++ HR := by rw [← EW.out, ← EL.out, ← ER.out]; exact hits_cut f n a m t (by omega) (by omega)
          rw [e0]
          exact (outs_cat f c base HL HR i (by rw [← ZTL.out, ← ZTR.out]; exact hi)).1
        have EQ2 : ∀ i, i < TL + TR → ((outs f c base HW).getD i (0, 0)).2 = cat (fun i => ((outs f c base HL).getD i (0, 0)).2) (fun i => ((outs f c base HR).getD i (0, 0)).2) HL.length i := fun i hi => by
          have e0 : HW = HL ++ HR := by rw [← EW.out, ← EL.out, ← ER.out]; exact hits_cut f n a m t (by omega) (by omega)
          rw [e0]
          exact (outs_cat f c base HL HR i (by rw [← ZTL.out, ← ZTR.out]; exact hi)).2
        have HEQ1 : Hid _ := EQ1
        have HEQ2 : Hid _ := EQ2
        clear EQ1 EQ2
        rcases BLE.out with ⟨hHL, hbl⟩ | ⟨i, hiL, hbl⟩
        · have tl0 : TL = 0 := by rw [ZTL.out, hHL]; rfl
          rcases BRE.out with ⟨hHR, hbr⟩ | ⟨j, hjR, hbr⟩
          · have tr0 : TR = 0 := by rw [ZTR.out, hHR]; rfl
            have eW : bw = -1 := by rw [BE.out, hbl, hbr]; rfl
            have ez : (((TL : Int) + (TR : Int)) == 0) = true := by rw [tl0, tr0]; rfl
            subst hbl hbr eW
            clear BLE BRE BE hHL hHR tl0 tr0
            go_wp2_with fail
            go_quiet (fail)
            go_wp2_with fail
            refine (cat13_any la 0 TL TL ra 0 TR TR (fun i => ((outs f c base HL).getD i (0, 0)).1) (fun i => ((outs f c base HR).getD i (0, 0)).1) (w13.drewN nq) (by omega) (by omega) (show la < (w13.drewN nq).heap.size from olA'.lt) (show ra < (w13.drewN nq).heap.size from orA.lt) (fun k hk => by rw [Nat.zero_add]; exact olA'.cell hk) (fun k hk => by rw [Nat.zero_add]; exact orA.cell hk)).mono ?_
            rintro e w15 ⟨p15, rfl, oc15, hb15⟩
            have hb15' : Below w13.heap.size w13 w15 := ⟨hb15.os, hb15.tape, hb15.output, hb15.size, hb15.block⟩
            have hs15 := hb15'.size
            clear hb15
            go_wp2_with fail
            refine (same12_any _ _ (TL + TR) _ _ _ _ w15 (by omega) ((owA'.row.below hb15').mono hs15) oc15.row (fun i hi => by have h9 := HEQ1.out i hi; rw [← ZTL.out] at h9; exact h9)).mono ?_
            rintro e w16 ⟨rfl, hb16⟩
            have hb16' : Below w13.heap.size w13 w16 := hb15'.trans (hb16.mono hs15)
            have hs16 := hb16'.size
            clear hb16 oc15
            go_wp2_with fail
            have olD2 := olD'.keep (hb16'.block _ olD'.lt)
            have orD2 := orD.keep (hb16'.block _ orD.lt)
            refine (cat15_any ld 0 TL TL rd 0 TR TR (fun i => ((outs f c base HL).getD i (0, 0)).2) (fun i => ((outs f c base HR).getD i (0, 0)).2) w16 (by omega) (by omega) olD2.lt orD2.lt (fun k hk => by rw [Nat.zero_add]; exact olD2.cell hk) (fun k hk => by rw [Nat.zero_add]; exact orD2.cell hk)).mono ?_
            rintro e w17 ⟨p17, rfl, oc17, hb17⟩
            have hb17' : Below w13.heap.size w13 w17 := hb16'.trans (hb17.mono hs16)
            have hs17 := hb17'.size
            clear hb17
            go_wp2_with fail
            refine (same14_any _ _ (TL + TR) _ _ _ _ w17 (by omega) ((owD'.row.below hb17').mono hs17) oc17.row (fun i hi => by have h9 := HEQ2.out i hi; rw [← ZTL.out] at h9; exact h9)).mono ?_
            rintro e w18 ⟨rfl, hb18⟩
            go_wp2_with fail
            go_ret
            exact ⟨rfl, hbw13.trans ((hb17'.trans (hb18.mono hs17)).mono hbw13.size)⟩
          · obtain ⟨j1, j2, _⟩ := mem_hits (ER.out ▸ hjR)
            try (exfalso; have h0 := HN1.out; omega)
            all_goals
              have trp : 0 < TR := by rw [ZTR.out]; exact List.length_pos_of_mem hjR
              have eW : bw = (j : Int) := by rw [BE.out, hbl, hbr]; exact better_none f _ (Int.natCast_nonneg j)
              have ez : (((TL : Int) + (TR : Int)) == 0) = false := by simp; omega
              have ej : decide ((j : Int) < 0) = false := by simp
              subst hbl hbr eW
              clear BLE BRE BE hHL hjR tl0
              go_wp2_with fail
              go_quiet (fail)
              go_wp2_with fail
              refine (cat13_any la 0 TL TL ra 0 TR TR (fun i => ((outs f c base HL).getD i (0, 0)).1) (fun i => ((outs f c base HR).getD i (0, 0)).1) (w13.drewN nq) (by omega) (by omega) (show la < (w13.drewN nq).heap.size from olA'.lt) (show ra < (w13.drewN nq).heap.size from orA.lt) (fun k hk => by rw [Nat.zero_add]; exact olA'.cell hk) (fun k hk => by rw [Nat.zero_add]; exact orA.cell hk)).mono ?_
              rintro e w15 ⟨p15, rfl, oc15, hb15⟩
              have hb15' : Below w13.heap.size w13 w15 := ⟨hb15.os, hb15.tape, hb15.output, hb15.size, hb15.block⟩
              have hs15 := hb15'.size
              clear hb15
              go_wp2_with fail
              refine (same12_any _ _ (TL + TR) _ _ _ _ w15 (by omega) ((owA'.row.below hb15').mono hs15) oc15.row (fun i hi => by have h9 := HEQ1.out i hi; rw [← ZTL.out] at h9; exact h9)).mono ?_
              rintro e w16 ⟨rfl, hb16⟩
              have hb16' : Below w13.heap.size w13 w16 := hb15'.trans (hb16.mono hs15)
              have hs16 := hb16'.size
              clear hb16 oc15
              go_wp2_with fail
              have olD2 := olD'.keep (hb16'.block _ olD'.lt)
              have orD2 := orD.keep (hb16'.block _ orD.lt)
              refine (cat15_any ld 0 TL TL rd 0 TR TR (fun i => ((outs f c base HL).getD i (0, 0)).2) (fun i => ((outs f c base HR).getD i (0, 0)).2) w16 (by omega) (by omega) olD2.lt orD2.lt (fun k hk => by rw [Nat.zero_add]; exact olD2.cell hk) (fun k hk => by rw [Nat.zero_add]; exact orD2.cell hk)).mono ?_
              rintro e w17 ⟨p17, rfl, oc17, hb17⟩
              have hb17' : Below w13.heap.size w13 w17 := hb16'.trans (hb17.mono hs16)
              have hs17 := hb17'.size
              clear hb17
              go_wp2_with fail
              refine (same14_any _ _ (TL + TR) _ _ _ _ w17 (by omega) ((owD'.row.below hb17').mono hs17) oc17.row (fun i hi => by have h9 := HEQ2.out i hi; rw [← ZTL.out] at h9; exact h9)).mono ?_
              rintro e w18 ⟨rfl, hb18⟩
              go_wp2_with fail
              go_ret
              exact ⟨rfl, hbw13.trans ((hb17'.trans (hb18.mono hs17)).mono hbw13.size)⟩
        · obtain ⟨i1, i2, _⟩ := mem_hits (EL.out ▸ hiL)
          try (exfalso; have h0 := HN1.out; omega)
          all_goals
            have tlp : 0 < TL := by rw [ZTL.out]; exact List.length_pos_of_mem hiL
            have hfi := (hfit.1 i (by omega) (by omega)).2
            have ei : decide ((i : Int) < 0) = false := by simp
            have ez : (((TL : Int) + (TR : Int)) == 0) = false := by simp; omega
            rcases BRE.out with ⟨hHR, hbr⟩ | ⟨j, hjR, hbr⟩
            · have eW : bw = (i : Int) := by rw [BE.out, hbl, hbr]; exact better_neg f _ _ (by omega)
              subst hbl hbr eW
              clear BLE BRE BE hHR hiL
              go_wp2_with fail
              go_quiet (fail)
              go_wp2_with fail
              refine (cat13_any la 0 TL TL ra 0 TR TR (fun i => ((outs f c base HL).getD i (0, 0)).1) (fun i => ((outs f c base HR).getD i (0, 0)).1) (w13.drewN nq) (by omega) (by omega) (show la < (w13.drewN nq).heap.size from olA'.lt) (show ra < (w13.drewN nq).heap.size from orA.lt) (fun k hk => by rw [Nat.zero_add]; exact olA'.cell hk) (fun k hk => by rw [Nat.zero_add]; exact orA.cell hk)).mono ?_
              rintro e w15 ⟨p15, rfl, oc15, hb15⟩
              have hb15' : Below w13.heap.size w13 w15 := ⟨hb15.os, hb15.tape, hb15.output, hb15.size, hb15.block⟩
              have hs15 := hb15'.size
              clear hb15
              go_wp2_with fail
              refine (same12_any _ _ (TL + TR) _ _ _ _ w15 (by omega) ((owA'.row.below hb15').mono hs15) oc15.row (fun i hi => by have h9 := HEQ1.out i hi; rw [← ZTL.out] at h9; exact h9)).mono ?_
              rintro e w16 ⟨rfl, hb16⟩
              have hb16' : Below w13.heap.size w13 w16 := hb15'.trans (hb16.mono hs15)
              have hs16 := hb16'.size
              clear hb16 oc15
              go_wp2_with fail
              have olD2 := olD'.keep (hb16'.block _ olD'.lt)
              have orD2 := orD.keep (hb16'.block _ orD.lt)
              refine (cat15_any ld 0 TL TL rd 0 TR TR (fun i => ((outs f c base HL).getD i (0, 0)).2) (fun i => ((outs f c base HR).getD i (0, 0)).2) w16 (by omega) (by omega) olD2.lt orD2.lt (fun k hk => by rw [Nat.zero_add]; exact olD2.cell hk) (fun k hk => by rw [Nat.zero_add]; exact orD2.cell hk)).mono ?_
              rintro e w17 ⟨p17, rfl, oc17, hb17⟩
              have hb17' : Below w13.heap.size w13 w17 := hb16'.trans (hb17.mono hs16)
              have hs17 := hb17'.size
              clear hb17
              go_wp2_with fail
              refine (same14_any _ _ (TL + TR) _ _ _ _ w17 (by omega) ((owD'.row.below hb17').mono hs17) oc17.row (fun i hi => by have h9 := HEQ2.out i hi; rw [← ZTL.out] at h9; exact h9)).mono ?_
              rintro e w18 ⟨rfl, hb18⟩
              go_wp2_with fail
              go_ret
              exact ⟨rfl, hbw13.trans ((hb17'.trans (hb18.mono hs17)).mono hbw13.size)⟩
            · obtain ⟨j1, j2, _⟩ := mem_hits (ER.out ▸ hjR)
              have hfj := (hfit.1 j (by omega) (by omega)).2
              have ej : decide ((j : Int) < 0) = false := by simp
              obtain ⟨wb, wo, rfl, hwB, hwc⟩ := hrv13.cells (by omega)
              have y1 := hwc i (by omega)
              have y2 := hwc j (by omega)
              obtain ⟨q0, q1⟩ := HF.out i
              obtain ⟨q2, q3⟩ := HF.out j
              have eW : bw = if key (f j) < key (f i) then (j : Int) else (i : Int) := by
                rw [BE.out, hbl, hbr]
                unfold better
                have e1 : (0 : Int) ≤ (j : Int) := Int.natCast_nonneg j
                have e2 : ¬ (i : Int) < 0 := by omega
                simp only [e1, e2, false_or, true_and, Int.toNat_natCast]
              have k0 : (0 : Int) ≤ (j : Int) := Int.natCast_nonneg j
              have k1 : (0 : Int) ≤ (i : Int) := Int.natCast_nonneg i
              have k2 : (j : Int) < (N : Int) := by omega
              have k3 : (i : Int) < (N : Int) := by omega
              clear hwc BLE BRE BE hiL hjR
              by_cases hk : key (f j) < key (f i)
              · rw [if_pos hk] at eW
                subst hbl hbr eW
                go_wp2_with fail
                go_quiet ((go_at_call 11; exact Calls.quiet_of_same (rangeKey_q _ _ (by assumption) (by assumption) (by assumption))))
                go_wp2_with fail
                refine (cat13_any la 0 TL TL ra 0 TR TR (fun i => ((outs f c base HL).getD i (0, 0)).1) (fun i => ((outs f c base HR).getD i (0, 0)).1) (w13.drewN nq) (by omega) (by omega) (show la < (w13.drewN nq).heap.size from olA'.lt) (show ra < (w13.drewN nq).heap.size from orA.lt) (fun k hk => by rw [Nat.zero_add]; exact olA'.cell hk) (fun k hk => by rw [Nat.zero_add]; exact orA.cell hk)).mono ?_
                rintro e w15 ⟨p15, rfl, oc15, hb15⟩
                have hb15' : Below w13.heap.size w13 w15 := ⟨hb15.os, hb15.tape, hb15.output, hb15.size, hb15.block⟩
                have hs15 := hb15'.size
                clear hb15
                go_wp2_with fail
                refine (same12_any _ _ (TL + TR) _ _ _ _ w15 (by omega) ((owA'.row.below hb15').mono hs15) oc15.row (fun i hi => by have h9 := HEQ1.out i hi; rw [← ZTL.out] at h9; exact h9)).mono ?_
                rintro e w16 ⟨rfl, hb16⟩
                have hb16' : Below w13.heap.size w13 w16 := hb15'.trans (hb16.mono hs15)
                have hs16 := hb16'.size
                clear hb16 oc15
                go_wp2_with fail
                have olD2 := olD'.keep (hb16'.block _ olD'.lt)
                have orD2 := orD.keep (hb16'.block _ orD.lt)
                refine (cat15_any ld 0 TL TL rd 0 TR TR (fun i => ((outs f c base HL).getD i (0, 0)).2) (fun i => ((outs f c base HR).getD i (0, 0)).2) w16 (by omega) (by omega) olD2.lt orD2.lt (fun k hk => by rw [Nat.zero_add]; exact olD2.cell hk) (fun k hk => by rw [Nat.zero_add]; exact orD2.cell hk)).mono ?_
                rintro e w17 ⟨p17, rfl, oc17, hb17⟩
                have hb17' : Below w13.heap.size w13 w17 := hb16'.trans (hb17.mono hs16)
                have hs17 := hb17'.size
                clear hb17
                go_wp2_with fail
                refine (same14_any _ _ (TL + TR) _ _ _ _ w17 (by omega) ((owD'.row.below hb17').mono hs17) oc17.row (fun i hi => by have h9 := HEQ2.out i hi; rw [← ZTL.out] at h9; exact h9)).mono ?_
                rintro e w18 ⟨rfl, hb18⟩
                go_wp2_with fail
                go_ret
                exact ⟨rfl, hbw13.trans ((hb17'.trans (hb18.mono hs17)).mono hbw13.size)⟩
              · rw [if_neg hk] at eW
                have hk' : decide (key (f j) < key (f i)) = false := decide_eq_false hk
                subst hbl hbr eW
                go_wp2_with fail
                go_quiet ((go_at_call 11; exact Calls.quiet_of_same (rangeKey_q _ _ (by assumption) (by assumption) (by assumption))))
                go_wp2_with fail
                refine (cat13_any la 0 TL TL ra 0 TR TR (fun i => ((outs f c base HL).getD i (0, 0)).1) (fun i => ((outs f c base HR).getD i (0, 0)).1) (w13.drewN nq) (by omega) (by omega) (show la < (w13.drewN nq).heap.size from olA'.lt) (show ra < (w13.drewN nq).heap.size from orA.lt) (fun k hk => by rw [Nat.zero_add]; exact olA'.cell hk) (fun k hk => by rw [Nat.zero_add]; exact orA.cell hk)).mono ?_
                rintro e w15 ⟨p15, rfl, oc15, hb15⟩
                have hb15' : Below w13.heap.size w13 w15 := ⟨hb15.os, hb15.tape, hb15.output, hb15.size, hb15.block⟩
                have hs15 := hb15'.size
                clear hb15
                go_wp2_with fail
                refine (same12_any _ _ (TL + TR) _ _ _ _ w15 (by omega) ((owA'.row.below hb15').mono hs15) oc15.row (fun i hi => by have h9 := HEQ1.out i hi; rw [← ZTL.out] at h9; exact h9)).mono ?_
                rintro e w16 ⟨rfl, hb16⟩
                have hb16' : Below w13.heap.size w13 w16 := hb15'.trans (hb16.mono hs15)
                have hs16 := hb16'.size
                clear hb16 oc15
                go_wp2_with fail
                have olD2 := olD'.keep (hb16'.block _ olD'.lt)
                have orD2 := orD.keep (hb16'.block _ orD.lt)
                refine (cat15_any ld 0 TL TL rd 0 TR TR (fun i => ((outs f c base HL).getD i (0, 0)).2) (fun i => ((outs f c base HR).getD i (0, 0)).2) w16 (by omega) (by omega) olD2.lt orD2.lt (fun k hk => by rw [Nat.zero_add]; exact olD2.cell hk) (fun k hk => by rw [Nat.zero_add]; exact orD2.cell hk)).mono ?_
                rintro e w17 ⟨p17, rfl, oc17, hb17⟩
                have hb17' : Below w13.heap.size w13 w17 := hb16'.trans (hb17.mono hs16)
                have hs17 := hb17'.size
                clear hb17
                go_wp2_with fail
                refine (same14_any _ _ (TL + TR) _ _ _ _ w17 (by omega) ((owD'.row.below hb17').mono hs17) oc17.row (fun i hi => by have h9 := HEQ2.out i hi; rw [← ZTL.out] at h9; exact h9)).mono ?_
                rintro e w18 ⟨rfl, hb18⟩
                go_wp2_with fail
                go_ret
                exact ⟨rfl, hbw13.trans ((hb17'.trans (hb18.mono hs17)).mono hbw13.size)⟩
end Go.Proofs.Qxb6615587a
