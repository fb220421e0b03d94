/-
  THE WALK of FnSpansAgreesWithLinearScan behind her first tests (seat b6615587a).
-/
import Derived.Test.Qxb6615587aScan
namespace Go.Proofs.Qxb6615587a
open Go.ChangeShapes Go.WideShapes Go.ChangeAt Go.RowKit
set_option linter.unusedVariables false

theorem Try.info45 : (Try.prog.info? 45).map (fun i => (i.zero, i.size, i.bytes)) = some (some (.int .u16 0), 1, 2) := by kernel_rfl
theorem Try.size34 : (Try.prog.info? 34).map (·.size) = some 1 := by kernel_rfl

set_option maxHeartbeats 8000000 in
set_option maxRecDepth 100000 in
theorem agrees_main (a0 a1 a6 : Option Addr) (N cap0 nc cap1 np cap6 b6 o6 : Nat) (f c s d : Nat → Int) (a t : Nat) (n base : Int) (uf : Bool) (w : World) (hf : ∀ i, 0 ≤ f i ∧ f i ≤ 4294967295) (hg : Good4 N nc np a t)
    (hnil0 : a0 = none → N = 0 ∧ cap0 = 0) (hnil1 : a1 = none → nc = 0) (hr0 : Row w w.heap.size .u32 a0 N f) (hr1 : Row w w.heap.size .u32 a1 nc c)
    (h6 : 0 < np → a6 = some ⟨b6, o6, none⟩ ∧ b6 < w.heap.size ∧ ∀ i, i < np → w.cell? ⟨b6, o6 + i * 2, none⟩ = some (.int .u64 (s i)) ∧ w.cell? ⟨b6, o6 + i * 2 + 1, none⟩ = some (.int .u32 (d i))) :
    Calls Try.prog 4 #[.slice a0 N cap0, .slice a1 nc cap1, .int .i64 a, .int .i64 t, .int .i64 n, .bool uf, .slice a6 np cap6, .int .u64 base] w fun e w' => e = .returned (.bool true) ∧ Below w.heap.size w w' := by
  obtain ⟨g1, g2, g3, g4, g5, g6, g7, g8⟩ := hg
  have g4' : 4 * (N : Int) + 4 * (nc : Int) + 16 * (np : Int) ≤ 1048576 := by omega
  have H6 : Hid (0 < np → a6 = some ⟨b6, o6, none⟩ ∧ b6 < w.heap.size ∧ ∀ i, i < np → w.cell? ⟨b6, o6 + i * 2, none⟩ = some (.int .u64 (s i)) ∧ w.cell? ⟨b6, o6 + i * 2 + 1, none⟩ = some (.int .u32 (d i))) := h6
  have HF : Hid (∀ i, 0 ≤ f i ∧ f i ≤ 4294967295) := hf
  have HN0 : Hid (a0 = none → N = 0 ∧ cap0 = 0) := hnil0
  clear h6 hf hnil0
  obtain ⟨j0, hj0, hjz0, hjz1, hjz2⟩ := info_parts Try.info23
  obtain ⟨l0, hl0, hlz0, hlz1, hlz2⟩ := info_parts Try.info34
  obtain ⟨m0, hm0, hmz0, hmz1, hmz2⟩ := info_parts Try.info45
  have hq := fun w x n c => run_neq_slice_nil_any (P := Try.prog) w 22 34 (some x) n c 0 0 Try.underlying22
  have hqn := fun w n c => run_neq_slice_nil_any (P := Try.prog) w 22 34 none n c 0 0 Try.underlying22
  go_enter Try.func4, Try.ntmps4
  go_wp2_with fail
  refine (bytes16_any a0 a1 a6 N cap0 nc cap1 np cap6 a t n base uf w (by unfold maxLen; omega) (by unfold maxLen; omega) (by unfold maxLen; omega)).mono ?_
  rintro e w' ⟨⟨b, rfl⟩, rfl⟩
  cases b
  · go_wp2_with fail
    go_ret
    exact ⟨rfl, Below.refl _ _⟩
  go_wp2_with fail
  refine (wordsFit_any a0 N cap0 f a t w.heap.size w HF.out (by omega) (by omega) g1 hr0).mono ?_
  rintro e w' ⟨⟨b, rfl, hfit0⟩, rfl⟩
  cases b
  · go_wp2_with fail
    go_ret
    exact ⟨rfl, Below.refl _ _⟩
  have hfit : Fit f a t := hfit0 rfl
  clear hfit0
  rcases a1 with _ | x
  case' none =>
    have hn1 := hnil1 rfl
    have hrc : Row w w.heap.size .u32 none nc c := hr1
    have hbc : Below w.heap.size w w := Below.refl _ _
    clear hnil1
    have HN1 : Hid (nc = 0) := hn1
    clear hn1 hr1
    go_wp2_with fail
    obtain ⟨wc, hwc⟩ : ∃ wc, wc = w := ⟨_, rfl⟩
    rw [show Calls Try.prog 7 #[.slice a0 N cap0] w = Calls Try.prog 7 #[.slice a0 N cap0] wc by rw [hwc]]
    rw [← hwc] at hrc
    have hbc : Below w.heap.size w wc := by rw [hwc]; exact Below.refl _ _
    clear hwc
  case' some =>
    clear hnil1
    go_wp2_with (at_make; refine wpList_make_full _ rfl _ _ 22 rfl w.heap.size 34 l0 (.int .u32 0) 1 Try.underlying22 hl0 hlz0 hlz1 .i64 .i64 _ _ nc rfl rfl rfl rfl (by rw [hlz2]; omega) (by unfold maxLen; omega) (Nat.le_refl _) ?_)
    intro w1 hown hgrow
    have hb := below_made hgrow
    have ho := Own.of_made1 hown
    clear hown hgrow
    obtain ⟨wc, hcp, how, hbc0⟩ := run_copy_mine (P := Try.prog) 22 34 Try.underlying22 Try.size34 w.heap.size nc cap1 (some x) .u32 34 _ c w.heap.size ho (hr1.below hb)
    have hbc := hbc0 _ _ hb (Nat.le_refl _)
    clear hbc0
    have hrc := how.row
    clear ho hb how hr1
    go_wp2_with fail
    clear hcp
  all_goals
    have hszc := hbc.size
    refine (copy_any a0 N cap0 f wc g1 HN0.out ((hr0.below hbc).mono hszc)).mono ?_
    rintro e w1 ⟨v, rfl, hrv, _, hb1⟩
    have hrc1 := (hrc.below hb1).mono hb1.size
    have hbw1 : Below w.heap.size w w1 := hbc.trans (hb1.mono hszc)
    clear hrc hb1 hbc hszc
    go_wp2_with (at_make; refine wpList_make_full _ rfl _ _ 27 rfl w1.heap.size 45 m0 (.int .u16 0) 1 Try.underlying27 hm0 hmz0 hmz1 .i64 .i64 _ _ N rfl rfl rfl rfl (by rw [hmz2]; omega) (by unfold maxLen; omega) (Nat.le_refl _) ?_)
    intro w2 hown hgrow
    have hb2 := below_made hgrow
    have ho2 := Own.of_made1 hown
    clear hown hgrow
    go_wp2_with fail
    refine (fill_any v N N w1.heap.size a t f _ w2 HF.out g1 (hrv.below hb2) ho2 (by omega) (by omega)).mono ?_
    rintro e w3 ⟨rfl, r, ho3, hrk0, _, hs3⟩
    have hb3 : Below w1.heap.size w1 w3 := hb2.trans (hs3.below (by have := hb2.size; omega) (fun k hk e => by omega))
    have hrk : RKA f r a t := RKA.of (by omega) hrk0
    have hrv3 := hrv.below hb3
    have hrc3 := hrc1.below hb3
    have hl13 := ho3.lt
    have hbw3 : Below w.heap.size w w3 := hbw1.trans (hb3.mono hbw1.size)
    clear ho2 hb2 hs3 hrk0 hrv hrc1 hb3
    go_wp2_with (at_make; refine wpList_make_full _ rfl _ _ 31 rfl w3.heap.size 23 j0 (.int .u64 0) 1 Try.underlying31 hj0 hjz0 hjz1 .i64 .i64 _ _ np rfl rfl rfl rfl (by rw [hjz2]; omega) (by unfold maxLen; omega) (Nat.le_refl _) ?_)
    intro w4 hown4 hgrow4
    have ho4 := Own.of_made1 hown4
    have hl4 := ho4.lt
    clear hown4
    go_wp2_with (at_make; refine wpList_make_full _ rfl _ _ 22 rfl w4.heap.size 34 l0 (.int .u32 0) 1 Try.underlying22 hl0 hlz0 hlz1 .i64 .i64 _ _ np rfl rfl rfl rfl (by rw [hlz2]; omega) (by unfold maxLen; omega) (Nat.le_refl _) ?_)
    intro w5 hown5 hgrow5
    have ho5 := Own.of_made1 hown5
    have hl5 := ho5.lt
    clear hown5
    go_wp2_with (at_make; refine wpList_make_own _ rfl _ _ 31 rfl 0 23 j0 (.int .u64 0) 1 Try.underlying31 hj0 hjz0 hjz1 .i64 .i64 _ np rfl rfl rfl (by rw [hjz2]; omega) (by unfold maxLen; omega) (Nat.zero_le _) ?_)
    intro w6 hown6 hgrow6
    have hl6 := ownsRow_lt hown6 w5.heap.size rfl
    go_wp2_with (at_make; refine wpList_make_own _ rfl _ _ 22 rfl 0 34 l0 (.int .u32 0) 1 Try.underlying22 hl0 hlz0 hlz1 .i64 .i64 _ np rfl rfl rfl (by rw [hlz2]; omega) (by unfold maxLen; omega) (Nat.zero_le _) ?_)
    intro w7 hown7 hgrow7
    have hl7 := ownsRow_lt hown7 w6.heap.size rfl
    have hpri := Pri.start (s := s) (d := d) ho4 ho5 hgrow5 hgrow6 hgrow7 hown6 hown7
    have hb37 : Below w3.heap.size w3 w7 := ((((Below.refl _ _).grown hgrow4 (Nat.le_refl _) (fun k e => by cases e)).grown hgrow5 (by omega) (fun k e => by cases e)).grown hgrow6 (by omega) (fun k e => by cases e)).grown hgrow7 (by omega) (fun k e => by cases e)
    clear ho4 ho5 hgrow4 hgrow5 hgrow6 hgrow7 hown6 hown7
    go_wp2_with fail
    go_loopw [22, 23, 24] (fun v22 v23 i wr => ∃ k : Nat, k ≤ np ∧ i = .int .i64 k ∧ v22 = .slice (some ⟨w5.heap.size, 0, none⟩) k np ∧ v23 = .slice (some ⟨w6.heap.size, 0, none⟩) k np ∧ Pri wr w3.heap.size w4.heap.size w5.heap.size w6.heap.size np k s d ∧ Below w3.heap.size w3 wr) (fun _ _ i _ => np - (intOf i).toNat)
    case atStart => exact ⟨0, Nat.zero_le _, rfl, rfl, rfl, hpri, hb37⟩
    case round =>
      clear hpri hb37
      obtain ⟨k, hk, rfl, rfl, rfl, hpri, hb3r⟩ := hrel
      have hszr := hb3r.size
      by_cases hlt : k < np
      · obtain ⟨rfl, hb6, hc6⟩ := H6.out (by omega)
        obtain ⟨hs6, hd6⟩ := hc6 k hlt
        have hbwr : Below w.heap.size w wr := hbw3.trans (hb3r.mono hbw3.size)
        have y1 : wr.cell? ⟨b6, o6 + k * 2, none⟩ = some (.int .u64 (s k)) := (hbwr.cell (p := ⟨b6, o6 + k * 2, none⟩) hb6).trans hs6
        have y2 : wr.cell? ⟨b6, o6 + k * 2 + 1, none⟩ = some (.int .u32 (d k)) := (hbwr.cell (p := ⟨b6, o6 + k * 2 + 1, none⟩) hb6).trans hd6
        have hb63 : b6 < w3.heap.size := Nat.lt_of_lt_of_le hb6 hbw3.size
        have y3 : (wr.setCell ⟨w3.heap.size, k, none⟩ (.int .u64 (s k))).cell? ⟨b6, o6 + k * 2 + 1, none⟩ = some (.int .u32 (d k)) := by rw [cell_set_other (by omega)]; exact y2
        have y4 : ((wr.setCell ⟨w3.heap.size, k, none⟩ (.int .u64 (s k))).setCell ⟨w4.heap.size, k, none⟩ (.int .u32 (d k))).cell? ⟨b6, o6 + k * 2, none⟩ = some (.int .u64 (s k)) := by rw [cell_set_other (by omega), cell_set_other (by omega)]; exact y1
        have y5 := hpri.a.cell hlt
        have y6 := hpri.a.free k
        have hob := hpri.b.other (a := ⟨w3.heap.size, k, none⟩) (by simp; omega) (.int .u64 (s k))
        have y7 := hob.cell hlt
        have y8 := hob.free k
        have hoc := hpri.c2 (by omega) (by omega) (.int .u64 (s k)) (.int .u32 (d k))
        clear hc6 hob
        go_wp2_with (at_builtin; refine wpList_append_fits _ rfl (.tmp 149) (.tmp 155) 31 rfl 0 23 j0 1 Try.underlying31 hj0 hjz1 w5.heap.size k np (vals .u64 s k) rfl (hoc.alloc _) ⟨wr.heap.size, 0, none⟩ 1 1 [.int .u64 (s k)] rfl rfl (cell_new_at _ _ _ _ (by simp)) (by simp [Value.oneCell']) (by omega) ?_)
        intro wA hownA hgrowA
        have hod := hpri.d2 (by omega) (by omega) (by omega) hgrowA
        have hszA := hgrowA.size
        simp at hszA
        have y9 : wA.cell? ⟨b6, o6 + k * 2 + 1, none⟩ = some (.int .u32 (d k)) := by
          rw [hgrowA.cell_far ⟨b6, o6 + k * 2 + 1, none⟩ (by simp; omega) (by simp; omega), World.cell?_alloc_past _ b6 _ (by simp; omega), cell_set_other (by omega)]; exact y3
        go_wp2_with (at_builtin; refine wpList_append_fits _ rfl (.tmp 157) (.tmp 163) 22 rfl 0 34 l0 1 Try.underlying22 hl0 hlz1 w6.heap.size k np (vals .u32 d k) rfl (hod.alloc _) ⟨wA.heap.size, 0, none⟩ 1 1 [.int .u32 (d k)] rfl rfl (cell_new_at _ _ _ _ rfl) (by simp [Value.oneCell']) (by omega) ?_)
        intro wB hownB hgrowB
        have hpri2 := hpri.step hlt (by omega) (by omega) (by omega) hgrowA hownA hgrowB hownB
        have hb3B := Pri.below hb3r hszr (Nat.le_refl _) (by omega) (by omega) (by omega) hgrowA hgrowB
        clear hownA hgrowA hownB hgrowB hpri hod hoc y1 y2 y3 y4 y5 y6 y7 y8 y9
        go_wp2_with fail
        go_roundw
        case rel => exact ⟨k + 1, by omega, by go_num, rfl, rfl, hpri2, hb3B⟩
        case measure => simp [intOf]; omega
      · obtain rfl : k = np := by omega
        have hrv8 := (hrv3.below (hb3r.mono (Nat.le_of_lt hl13))).mono (Nat.le_trans (Nat.le_of_lt hl13) hszr)
        have hrc8 := (hrc3.below (hb3r.mono (Nat.le_of_lt hl13))).mono (Nat.le_trans (Nat.le_of_lt hl13) hszr)
        have hrr8 := (ho3.row.below hb3r).mono hszr
        have hbw8 : Below w.heap.size w wr := hbw3.trans (hb3r.mono hbw3.size)
        go_wp2_with fail
        refine (new_any v (some ⟨w1.heap.size, 0, none⟩) _ N N nc _ f c r wr g2 hrv8 hrc8 hrr8).mono ?_
        rintro e w9 ⟨X, ca, rfl, hx9, hb9⟩
        have hoA := ((hpri.a.congr (f' := s) (fun i hi => by rw [if_pos hi])).keep (hb9.block _ hpri.a.lt))
        have hoB := ((hpri.b.congr (f' := d) (fun i hi => by rw [if_pos hi])).keep (hb9.block _ hpri.b.lt))
        go_wp2_with fail
        refine (zspans_any uf X N v ca (some ⟨w1.heap.size, 0, none⟩) nc k w3.heap.size 0 k w4.heap.size 0 k f c r s d base n a t w9 HF.out g1 g2 g3 hx9 (by omega) (by omega) (by omega) hfit hrk hoA.lt hoB.lt (fun i hi => by rw [Nat.zero_add]; exact hoA.cell hi) (fun i hi => by rw [Nat.zero_add]; exact hoB.cell hi)).mono ?_
        rintro e w10 ⟨v1, v2, rfl, hb10, hz1, hz2⟩
        have hb810 : Below wr.heap.size wr w10 := hb9.trans (hb10.mono hb9.size)
        have hsc := Scan.start f c base n a hpri hb810
        have hrv10 := (hrv3.below (hb3r.mono (Nat.le_of_lt hl13))).below (hb810.mono (by omega))
        have hrc10 := (hrc3.below (hb3r.mono (Nat.le_of_lt hl13))).below (hb810.mono (by omega))
        have hbw10 : Below w.heap.size w w10 := hbw8.trans (hb810.mono hbw8.size)
        have hlD8 : w6.heap.size < wr.heap.size := ownsRow_lt hpri.d w6.heap.size rfl
        have hszw3 := hbw3.size
        have hlD : w6.heap.size < w10.heap.size := ownsRow_lt hsc.o2 w6.heap.size rfl
        have hl9 : wr.heap.size ≤ w9.heap.size := hb9.size
        have HZ2 : Hid _ := hz2
        have HZ1 : Hid _ := hz1
        clear hz1 hz2 hoA hoB hpri hb9 hb10 hb810 hx9 hrv8 hrc8 hrr8 hbw8 hrv3 hrc3 ho3 hrk hb3r
        generalize hH : hits f n a t = H at *
        have HHH : Hid (hits f n a t = H) := hH
        clear hH
        go_wp2_with fail
        go_loopw [22, 23, 30, 31, 32, 33] (fun v22 v23 cnt bst bkv i wq => ∃ q L : Nat, ∃ be bk : Int, ∃ hs, a ≤ q ∧ q ≤ t ∧ i = .int .i64 q ∧ cnt = .int .i64 L ∧ bst = .int .i64 be ∧ bkv = .int .u32 bk ∧ LS f n a q hs L be bk ∧ Scan f c base n a q k s d w5.heap.size w6.heap.size w10 wq hs hs v22 v23) (fun _ _ _ _ _ i _ => t - (intOf i).toNat)
        case atStart => exact ⟨a, 0, -1, 0, [], Nat.le_refl _, by omega, rfl, rfl, rfl, rfl, LS.start f n a, hsc⟩
        case round =>
          obtain ⟨q, L, be, bk, hs, hq1, hq2, rfl, rfl, rfl, rfl, hls, hscan⟩ := hrel
          clear hsc
          obtain ⟨hls1, hls2, hls3⟩ := hls.bounds
          have HLS1 : Hid (hs.length = L) := hls1
          clear hls1
          have hszq := hscan.same.size
          by_cases hlt2 : q < t
          · try (exfalso; have h0 := HN1.out; omega)
            all_goals
              obtain ⟨wb, wo, rfl, hwB, hwc⟩ := hrv10.cells (by omega)
              have y1 : wr.cell? ⟨wb, wo + q, none⟩ = some (.int .u32 (f q)) := (hscan.same.cell (p := ⟨wb, wo + q, none⟩) (by simp; omega) (by simp; omega)).trans (hwc q (by omega))
              obtain ⟨q0, q1⟩ := HF.out q
              obtain ⟨q2, q3⟩ := hfit.1 q (by omega) (by omega)
              obtain ⟨q4, q5⟩ := key_bounds q0 q1 q2 q3
              have ha1 := and_lo (f q) q0 q1
              have HBK : Hid (bk = lkey f be) := hls.2.2.2
              clear hwc
              by_cases h1 : lo (f q) ≤ n
              · have h1' : f q % 65536 ≤ n := h1
                by_cases h2 : n ≤ hi (f q)
                · have h2' : n ≤ f q / 65536 := h2
                  have e3 := wrap_u64_key q4 q5
                  obtain ⟨cb, co, hca, hcB, hcc⟩ := hrc10.cells (by omega)
                  simp only [Option.some.injEq, Addr.mk.injEq] at hca
                  obtain ⟨rfl, rfl, _⟩ := hca
                  have hccq : w10.cell? ⟨w.heap.size, q, none⟩ = some (.int .u32 (c q)) := by have := hcc q (by omega); rwa [Nat.zero_add] at this
                  have hlen : hs.length ≤ 65536 := by rw [HLS1.out]; omega
                  clear hcc
                  by_cases hb0 : be < 0
                  · go_wp2_with (first | (go_at_call 11; refine (rangeKey_any _ _ q0 q1 q3).mono ?_; rintro e w' ⟨rfl, rfl⟩) | (at_builtin; refine wpList_append_lies _ rfl (.tmp 225) (.tmp 230) 31 rfl 0 23 j0 (.int .u64 0) 1 8 Try.underlying31 hj0 hjz0 hjz1 hjz2 rfl (by omega) u22 (k + hs.length) _ rfl (hscan.o1.alloc _) ⟨wr.heap.size, 0, none⟩ 1 1 [.int .u64 (bits .or .u64 base (key (f q)))] rfl rfl (cell_new_at _ _ _ _ rfl) (by simp [Value.oneCell']) (by omega) (by unfold maxLen; omega) (by omega) (Nat.zero_le _) (wr.heap.size + 1) (by simp) ?_))
                    intro gg cp wA hownA hgrowA hatA hltA
                    have hscA := hscan.app1 (i := q) hownA hgrowA hatA
                    have y3 : wA.cell? ⟨w.heap.size, q, none⟩ = some (.int .u32 (c q)) := (hscA.same.cell (p := ⟨w.heap.size, q, none⟩) (by simp; omega) (by simp; omega)).trans hccq
                    clear hownA hgrowA hatA hltA y1
                    go_wp2_with (at_builtin; refine wpList_append_lies _ rfl (.tmp 232) (.tmp 237) 22 rfl 0 34 l0 (.int .u32 0) 1 4 Try.underlying22 hl0 hlz0 hlz1 hlz2 rfl (by omega) u23 (k + hs.length) _ rfl (hscA.o2.alloc _) ⟨wA.heap.size, 0, none⟩ 1 1 [.int .u32 (c q)] rfl rfl (cell_new_at _ _ _ _ rfl) (by simp [Value.oneCell']) (by omega) (by unfold maxLen; omega) (by omega) (Nat.zero_le _) (wA.heap.size + 1) (by simp) ?_)
                    intro gg2 cp2 wB hownB hgrowB hatB hltB
                    have hscB := hscA.app2 (i := q) hownB hgrowB hatB
                    clear hownB hgrowB hatB hltB hscA hscan y3
                    go_wp2_with fail
                    go_roundw
                    case rel => exact ⟨q + 1, L + 1, _, _, hs ++ [q], by omega, by omega, by go_num, by go_num, rfl, congrArg (Value.int .u32) (lkey_nat f q).symm, hls.hit hq1 (hit_yes h1 h2) (q : Int) (by rw [if_pos (.inl hb0)]), hscB.again⟩
                    case measure => simp [intOf]; omega
                  · by_cases hb1 : key (f q) < bk
                    · go_wp2_with (first | (go_at_call 11; refine (rangeKey_any _ _ q0 q1 q3).mono ?_; rintro e w' ⟨rfl, rfl⟩) | (at_builtin; refine wpList_append_lies _ rfl (.tmp 225) (.tmp 230) 31 rfl 0 23 j0 (.int .u64 0) 1 8 Try.underlying31 hj0 hjz0 hjz1 hjz2 rfl (by omega) u22 (k + hs.length) _ rfl (hscan.o1.alloc _) ⟨wr.heap.size, 0, none⟩ 1 1 [.int .u64 (bits .or .u64 base (key (f q)))] rfl rfl (cell_new_at _ _ _ _ rfl) (by simp [Value.oneCell']) (by omega) (by unfold maxLen; omega) (by omega) (Nat.zero_le _) (wr.heap.size + 1) (by simp) ?_))
                      intro gg cp wA hownA hgrowA hatA hltA
                      have hscA := hscan.app1 (i := q) hownA hgrowA hatA
                      have y3 : wA.cell? ⟨w.heap.size, q, none⟩ = some (.int .u32 (c q)) := (hscA.same.cell (p := ⟨w.heap.size, q, none⟩) (by simp; omega) (by simp; omega)).trans hccq
                      clear hownA hgrowA hatA hltA y1
                      go_wp2_with (at_builtin; refine wpList_append_lies _ rfl (.tmp 232) (.tmp 237) 22 rfl 0 34 l0 (.int .u32 0) 1 4 Try.underlying22 hl0 hlz0 hlz1 hlz2 rfl (by omega) u23 (k + hs.length) _ rfl (hscA.o2.alloc _) ⟨wA.heap.size, 0, none⟩ 1 1 [.int .u32 (c q)] rfl rfl (cell_new_at _ _ _ _ rfl) (by simp [Value.oneCell']) (by omega) (by unfold maxLen; omega) (by omega) (Nat.zero_le _) (wA.heap.size + 1) (by simp) ?_)
                      intro gg2 cp2 wB hownB hgrowB hatB hltB
                      have hscB := hscA.app2 (i := q) hownB hgrowB hatB
                      clear hownB hgrowB hatB hltB hscA hscan y3
                      go_wp2_with fail
                      go_roundw
                      case rel => exact ⟨q + 1, L + 1, _, _, hs ++ [q], by omega, by omega, by go_num, by go_num, rfl, congrArg (Value.int .u32) (lkey_nat f q).symm, hls.hit hq1 (hit_yes h1 h2) (q : Int) (by rw [if_pos (.inr hb1)]), hscB.again⟩
                      case measure => simp [intOf]; omega
                    · go_wp2_with (first | (go_at_call 11; refine (rangeKey_any _ _ q0 q1 q3).mono ?_; rintro e w' ⟨rfl, rfl⟩) | (at_builtin; refine wpList_append_lies _ rfl (.tmp 225) (.tmp 230) 31 rfl 0 23 j0 (.int .u64 0) 1 8 Try.underlying31 hj0 hjz0 hjz1 hjz2 rfl (by omega) u22 (k + hs.length) _ rfl (hscan.o1.alloc _) ⟨wr.heap.size, 0, none⟩ 1 1 [.int .u64 (bits .or .u64 base (key (f q)))] rfl rfl (cell_new_at _ _ _ _ rfl) (by simp [Value.oneCell']) (by omega) (by unfold maxLen; omega) (by omega) (Nat.zero_le _) (wr.heap.size + 1) (by simp) ?_))
                      intro gg cp wA hownA hgrowA hatA hltA
                      have hscA := hscan.app1 (i := q) hownA hgrowA hatA
                      have y3 : wA.cell? ⟨w.heap.size, q, none⟩ = some (.int .u32 (c q)) := (hscA.same.cell (p := ⟨w.heap.size, q, none⟩) (by simp; omega) (by simp; omega)).trans hccq
                      clear hownA hgrowA hatA hltA y1
                      go_wp2_with (at_builtin; refine wpList_append_lies _ rfl (.tmp 232) (.tmp 237) 22 rfl 0 34 l0 (.int .u32 0) 1 4 Try.underlying22 hl0 hlz0 hlz1 hlz2 rfl (by omega) u23 (k + hs.length) _ rfl (hscA.o2.alloc _) ⟨wA.heap.size, 0, none⟩ 1 1 [.int .u32 (c q)] rfl rfl (cell_new_at _ _ _ _ rfl) (by simp [Value.oneCell']) (by omega) (by unfold maxLen; omega) (by omega) (Nat.zero_le _) (wA.heap.size + 1) (by simp) ?_)
                      intro gg2 cp2 wB hownB hgrowB hatB hltB
                      have hscB := hscA.app2 (i := q) hownB hgrowB hatB
                      clear hownB hgrowB hatB hltB hscA hscan y3
                      go_wp2_with fail
                      go_roundw
                      case rel => exact ⟨q + 1, L + 1, _, _, hs ++ [q], by omega, by omega, by go_num, by go_num, rfl, congrArg (Value.int .u32) HBK.out, hls.hit hq1 (hit_yes h1 h2) be (by rw [if_neg (by omega)]), hscB.again⟩
                      case measure => simp [intOf]; omega
                · have h2' : ¬ n ≤ f q / 65536 := h2
                  go_wp2_with fail
                  go_roundw
                  case rel => exact ⟨q + 1, L, be, bk, hs, by omega, by omega, by go_num, rfl, rfl, rfl, hls.miss hq1 (hit_hi (by omega)), hscan.again⟩
                  case measure => simp [intOf]; omega
              · have h1' : ¬ f q % 65536 ≤ n := h1
                go_wp2_with fail
                go_roundw
                case rel => exact ⟨q + 1, L, be, bk, hs, by omega, by omega, by go_num, rfl, rfl, rfl, hls.miss hq1 (hit_lo (by omega)), hscan.again⟩
                case measure => simp [intOf]; omega
          · have hqt : q = t := by omega
            have hsH : hs = H := by rw [← HHH.out, ← hqt]; exact hls.1
            have e1 : ((H.length : Int) != (L : Int)) = false := by rw [← hsH, HLS1.out]; simp
            have e2 : (bestOf f H != be) = false := by rw [hls.2.2.1, hsH]; simp
            have hbq : Below w.heap.size w wr := hbw10.trans (hscan.same.below (by omega) (fun j hj e => by omega))
            have HSH : Hid (hs = H) := hsH
            clear hqt hsH
            have hqe1 := fun w n c => Lib.run_eql_slice_nil (P := Try.prog) w 31 23 none n c 0 0 Try.underlying31
            have hqe2 := fun w n c => Lib.run_eql_slice_nil (P := Try.prog) w 22 34 none n c 0 0 Try.underlying22
            cases uf
            · obtain ⟨rfl, rfl⟩ := HZ1.out rfl
              go_wp2_with fail
              go_ret
              exact ⟨rfl, hbq⟩
            · obtain ⟨ga, gd, T, z1, z2, z3, rfl, rfl, p1, p2⟩ := HZ2.out rfl
              obtain ⟨ao1, cp1, rfl, row1⟩ := hscan.row1
              obtain ⟨ao2, cp2, rfl, row2⟩ := hscan.row2
              have hT : T = k + hs.length := by rw [z3, HSH.out]; simp [outs]
              have p1' := p1.same hscan.same (by omega)
              have p2' := p2.same hscan.same (by omega)
              have hlen : hs.length ≤ 65536 := by rw [HLS1.out]; omega
              subst hT
              clear z3 p1 p2 hscan hls
              go_wp2_with fail
              refine (same12_any _ _ (k + hs.length) _ _ _ _ wr (by omega) p1'.row row1 (fun i hi => by rw [HSH.out])).mono ?_
              rintro e w11 ⟨rfl, hb11⟩
              go_wp2_with fail
              refine (same14_any _ _ (k + hs.length) _ _ _ _ w11 (by omega) ((p2'.row.below hb11).mono hb11.size) ((row2.below hb11).mono hb11.size) (fun i hi => by rw [HSH.out])).mono ?_
              rintro e w12 ⟨rfl, hb12⟩
              go_wp2_with fail
              go_ret
              exact ⟨rfl, hbq.trans ((hb11.mono hbq.size).trans (hb12.mono (Nat.le_trans hbq.size hb11.size)))⟩
end Go.Proofs.Qxb6615587a
