/-
  THE WALK of FnLimitedTextReadScript (seat b6615636aD).
-/
import Derived.Test.Qxb6615636aDoorWalkG
namespace Go.Proofs.Qxb6615636aDoor
open Go.ChangeShapes Go.WideShapes Go.ChangeAt Go.RowKit
set_option linter.unusedVariables false

set_option maxRecDepth 100000 in
set_option maxHeartbeats 4000000 in
theorem script_main (a0' a : Option Addr) (len c0 n c : Nat) (left : Int) (g : Nat → Int) (pa : Nat → Option Addr) (m cp : Nat → Nat) (f : Nat → Nat → Int) (a0 a1 : Addr) (w : World) (hl : len ≤ 9223372036854775807) (hn : n ≤ 9223372036854775807) (hlw : -9223372036854775808 ≤ left ∧ left ≤ 9223372036854775807)
    (hs : Sent w w.heap.size a0 a1) (hnil0 : a0' = none → len = 0 ∧ c0 = 0) (hd : Row w w.heap.size .u8 a0' len g) (hnil : a = none → n = 0 ∧ c = 0) (hrow : BRow w w.heap.size a n pa m cp f) :
    Calls Tryd.prog 3 #[.slice a0' len c0, .int .i64 left, .slice a n c] w fun e w' => e = .returned (.bool true) ∧ Below w.heap.size w w' := by
  have HROW : Hid _ := hrow
  have HS : Hid _ := hs
  have HD : Hid _ := hd
  clear hrow hs hd
  go_enter Tryd.func3, Tryd.ntmps3
  go_wp2_with fail
  refine Calls.mono (fit6 a0' a len c0 n c left pa m cp f w hl hn HROW.out) ?_
  rintro e w1 ⟨b, rfl, hst, hfit⟩
  cases b with
  | false =>
    go_wp2_with fail
    go_ret
    exact ⟨rfl, hst.below _⟩
  | true =>
  obtain ⟨hl1, hn1, hm1⟩ := hfit rfl
  clear hfit
  have HM : Hid _ := hm1
  clear hm1
  by_cases hn2 : 65536 < n
  · go_wp2_with fail
    go_ret
    exact ⟨rfl, hst.below _⟩
  go_wp2_with fail
  go_loopw [7, 8] (fun s i wr => ∃ k t : Nat, k ≤ n ∧ t ≤ 1048576 + 65536 ∧ s = .int .i64 t ∧ i = .int .i64 k ∧ Still w wr) (fun s i _ => n - (intOf i).toNat)
  case atStart => exact ⟨0, len + n, Nat.zero_le _, by omega, by simp, rfl, hst⟩
  case round =>
    obtain ⟨k, t, hk, ht, rfl, rfl, hstr⟩ := hrel
    by_cases hlt : k < n
    · obtain ⟨b, off, rfl, hbw, hc⟩ := HROW.out.cells (by omega)
      have c1 : wr.cell? ⟨b, off + k, none⟩ = some (.slice (pa k) (m k) (cp k)) := (hstr.cell _).trans (hc k hlt)
      have hmk := HM.out k hlt
      clear hc
      by_cases q2 : 1048576 < t + m k
      · have q2' : (1048576 : Int) < (t : Int) + (m k : Int) := by omega
        go_wp2_with fail
        go_ret
        exact ⟨rfl, hstr.below _⟩
      have q2' : ¬ (1048576 : Int) < (t : Int) + (m k : Int) := by omega
      go_wp2_with fail
      go_roundw
      case rel => exact ⟨k + 1, t + m k, by omega, by omega, by simp, by go_num, hstr⟩
      case measure => simp [intOf]; omega
    · clear hst
      by_cases hleft : left < 0
      · go_wp2_with fail
        go_ret
        exact ⟨rfl, hstr.below _⟩
      by_cases hleft2 : left = 9223372036854775807
      · go_wp2_with fail
        go_ret
        exact ⟨rfl, hstr.below _⟩
      obtain ⟨L, rfl⟩ := Int.eq_ofNat_of_zero_le (show 0 ≤ left by omega)
      have hcl := clone_any a0' len c0 _ g wr (by omega) hnil0 (HD.out.below (hstr.below _))
      have HCL : Hid _ := hcl
      clear hcl
      go_wp2_with fail
      refine Calls.mono HCL.out ?_
      rintro e w2 ⟨da, rfl, hda, hb2⟩
      have hszr : wr.heap.size = w.heap.size := by rw [hstr.heap]
      have hb2' : Below w.heap.size w w2 := (hstr.below _).trans (hb2.mono (by omega))
      have hrow2 : BRow w2 w2.heap.size a n pa m cp f := by
        have h1 := HROW.out.below hb2'
        exact ⟨fun h => by
          obtain ⟨b, off, e1, e2, e3⟩ := h1.cells h
          exact ⟨b, off, e1, by have := hb2'.size; omega, e3⟩, fun i hi => (h1.rows i hi).mono hb2'.size, h1.nils, h1.lens⟩
      have HDA : Hid (Buf w2 w.heap.size da len g) := by rw [hszr] at hda; exact hda
      have hbf := bufs_any a n c pa m cp f w2 hnil (by omega) hrow2 HM.out
      have HBF : Hid _ := hbf
      clear hbf hrow2 hda hb2
      go_wp2_with fail
      refine Calls.mono HBF.out ?_
      rintro e w3 ⟨v, rfl, hv, hb3⟩
      have HV : Hid _ := hv
      clear hv
      go_wp2_with fail
      refine Calls.mono (newText da len len (L : Int) w3) ?_
      rintro e w4 ⟨rfl, rfl⟩
      obtain ⟨D, hinv⟩ := Inv3.start (left := L) HS.out HDA.out hb2' HV.out hb3
      generalize ((w3.alloc (.cells #[.slice da len len, .int .i64 0, .int .i64 (-1)] 52 (0, 0))).alloc (.cells #[.iface 39 (.pointer (some ⟨w3.heap.size, 0, none⟩)), .int .i64 (L : Int), .nilIface] 46 (0, 0))) = w4 at *
      generalize w2.heap.size = Q at *
      generalize w3.heap.size = R at *
      generalize hBe : w.heap.size = B at *
      have HBE : Hid (w.heap.size = B) := hBe
      clear hBe
      have HINV : Hid _ := hinv
      clear hinv HV HBF HDA HCL hb3 hb2' hszr
      go_wp2_with fail
      go_loopw [11, 12, 13] (fun s1 s2 i wq => ∃ (k pos : Nat) (st : Bool), k ≤ n ∧ pos ≤ len ∧ s1 = .int .i64 pos ∧ s2 = .bool st ∧ i = .int .i64 k ∧ (st = false → pos ≤ L) ∧ Inv3 w wq B D Q R n len L pos st da v g m a0 a1) (fun _ _ i _ => n - (intOf i).toNat)
      case atStart => exact ⟨0, 0, false, Nat.zero_le _, Nat.zero_le _, rfl, rfl, rfl, fun _ => Nat.zero_le _, HINV.out⟩
      case round =>
        clear HINV
        obtain ⟨k, pos, st, hk, hpos, rfl, rfl, rfl, hpl, hinv⟩ := hrel
        by_cases hlt : k < n
        · obtain ⟨o1, o2, o3⟩ := hinv.ord
          obtain ⟨rfl, hQR, V, hV, hVd⟩ : v = some ⟨Q, 0, none⟩ ∧ Q < R ∧ ∃ V, OwnV wr Q n 22 V ∧ ∀ j, j < n → ∃ a z, V j = .slice a (m j) (m j) ∧ BufIn wr Q R a (m j) z := by
            rcases hinv.bufs with e | e
            · omega
            · exact e
          obtain ⟨ap, z, hVk, hbin⟩ := hVd k hlt
          have c1 : wr.cell? ⟨Q, k, none⟩ = some (.slice ap (m k) (m k)) := by rw [hV.cell hlt, hVk]
          have hmk := HM.out k hlt
          clear hV hVd hVk
          have hcl := clone_any ap (m k) (m k) _ z wr (by omega) hbin.nil hbin.row
          have HCL : Hid _ := hcl
          have HINV : Hid _ := hinv
          have HBIN : Hid _ := hbin
          clear hcl hinv hbin
          go_wp2_with fail
          refine Calls.mono HCL.out ?_
          rintro e w1 ⟨vb, rfl, hvb, hb1⟩
          have hinv1 := HINV.out.below hb1
          have hbin1 := BufIn.below HBIN.out hb1
          have hsz1 := hb1.size
          have HVB : Hid _ := hvb
          have HINV1 : Hid _ := hinv1
          have HBIN1 : Hid _ := hbin1
          clear hvb hinv1 hbin1 HCL HINV HBIN
          generalize hmm : m k = mk at *
          clear hb1 c1
          cases st with
          | true =>
            go_wp2_with fail
            refine Calls.mono (zz_stopped (R + 1) R da len L pos B a0 a1 _ w1 HINV1.out.sent HINV1.out.txt) ?_
            rintro e w2 ⟨rfl, hst2⟩
            obtain ⟨⟨B1, hr1⟩, B2, hr2⟩ := (pair_of HBIN1.out HVB.out (by omega) (hst2.same (fun _ => False)) (fun _ e => e.elim) (BufIn.own HBIN1.out (hst2.same (fun _ => False)) (fun _ e => e.elim))).rows
            have heq := equal_any ap vb mk mk mk _ _ z z w2 (by omega) hr1 hr2 (fun _ _ => rfl)
            have HEQ : Hid _ := heq
            clear hr1 hr2 heq
            go_wp2_with fail
            refine Calls.mono HEQ.out ?_
            rintro e w3 ⟨rfl, hst3⟩
            go_wp2_with fail
            go_roundw
            case rel => exact ⟨k + 1, pos, true, by omega, hpos, rfl, rfl, by go_num, hpl, HINV1.out.still (hst2.trans hst3)⟩
            case measure => simp [intOf]; omega
          | false =>
          have hpl' := hpl rfl
          clear hpl
          by_cases hend : pos = len
          · obtain rfl : len = pos := hend.symm
            clear hend
            go_wp2_with fail
            refine Calls.mono (zz_end (R + 1) R da len L B a0 a1 ap mk w1 HINV1.out.sent (by omega) (by omega) hl1 (by omega) hmk HINV1.out.txt) ?_
            rintro e w2 ⟨rfl, htx, hsm⟩
            obtain ⟨⟨B1, hr1⟩, B2, hr2⟩ := (pair_of HBIN1.out HVB.out (by omega) hsm (fun _ e => by omega) (BufIn.own HBIN1.out hsm (fun _ e => by omega))).rows
            have heq := equal_any ap vb mk mk mk _ _ z z w2 (by omega) hr1 hr2 (fun _ _ => rfl)
            have HEQ : Hid _ := heq
            have hinv2 := HINV1.out.step hsm (fun k e => .inr (.inl e)) htx
            have HINV2 : Hid _ := hinv2
            clear hr1 hr2 heq hinv2 htx hsm
            go_wp2_with fail
            refine Calls.mono HEQ.out ?_
            rintro e w3 ⟨rfl, hst3⟩
            go_wp2_with fail
            go_roundw
            case rel => exact ⟨k + 1, len, false, by omega, hpos, rfl, rfl, by go_num, fun _ => hpl', HINV2.out.still hst3⟩
            case measure => simp [intOf]; omega
          have hlt2 : pos < len := by omega
          clear hend
          obtain ⟨rfl, hBD, hDQ, hOD⟩ : da = some ⟨D, 0, none⟩ ∧ B ≤ D ∧ D < Q ∧ Own w1 D len .u8 5 g := by
            rcases HINV1.out.data with e | e
            · omega
            · exact e
          have HOD : Hid (Own w1 D len .u8 5 g) := hOD
          clear hOD
          by_cases hpast : L < len ∧ L < mk + pos
          · obtain ⟨hp1, hp2⟩ := hpast
            obtain ⟨P, rfl, hP1, hP2, hPo⟩ : ∃ P, ap = some ⟨P, 0, none⟩ ∧ Q < P ∧ P < R ∧ Own w1 P mk .u8 5 z := by
              rcases HBIN1.out with e | e
              · omega
              · exact e
            go_wp2_with fail
            refine Calls.mono (zz_past (R + 1) R D len L pos P mk B a0 a1 z g w1 HINV1.out.sent (by omega) (by omega) (by omega) HINV1.out.txt HOD.out hPo hmk hlt2 hl1 (by omega) (by omega) (by omega) (by omega) (by omega) (by omega)) ?_
            rintro e w2 ⟨rfl, htx, hPo2, hsm⟩
            have hpr := pair_of HBIN1.out HVB.out (by omega) hsm (fun _ e => by omega) (fun P' e h0 => by cases e; exact hPo2)
            have hinv2 := HINV1.out.step hsm (fun k e => by
              rcases e with e | rfl | e
              · exact .inl e
              · exact .inr (.inr ⟨hP1, hP2, fun n' z' ho => by rw [Own.len_eq ho hPo]; exact ⟨_, hPo2⟩⟩)
              · exact .inr (.inl e)) htx
            have hD2 : Own w2 D len .u8 5 g := HOD.out.keep (hsm.block D HOD.out.lt (by omega))
            have HINV2 : Hid _ := hinv2
            have HPR : Hid _ := hpr
            have HD2 : Hid (Own w2 D len .u8 5 g) := hD2
            clear hinv2 htx hsm hPo hPo2 hpr hD2 HINV1 HBIN1 HVB HOD
            go_wp2_with fail
            go_loopw [22] (fun i wq => ∃ k2 : Nat, k2 ≤ mk ∧ i = .int .i64 k2 ∧ Still w2 wq) (fun i _ => mk - (intOf i).toNat)
            case atStart => exact ⟨0, Nat.zero_le _, rfl, Still.refl _⟩
            case round =>
              obtain ⟨k2, hk2, rfl, hst3⟩ := hrel
              by_cases hk3 : k2 < mk
              · obtain ⟨P', b, e1, rfl, x1, x2⟩ := HPR.out.cells (by omega)
                cases e1
                by_cases hk4 : k2 ≤ L - pos
                · have hk4' : (k2 : Int) ≤ (L : Int) - (pos : Int) := by omega
                  have y1 : wr.cell? ⟨P, k2, none⟩ = some (.int .u8 (g (pos + k2))) := by
                    have := (hst3.cell _).trans (x1 k2 hk3)
                    rwa [if_pos (by omega)] at this
                  have y2 : wr.cell? ⟨D, pos + k2, none⟩ = some (.int .u8 (g (pos + k2))) := (hst3.cell _).trans (HD2.out.cell (by omega))
                  clear x1 x2
                  go_wp2_with fail
                  go_quiet (fail)
                  go_wp2_with fail
                  go_roundw
                  case rel => exact ⟨k2 + 1, by omega, by go_num, hst3.trans ⟨rfl, rfl, rfl, rfl⟩⟩
                  case measure => simp [intOf]; omega
                · have hk4' : ¬ (k2 : Int) ≤ (L : Int) - (pos : Int) := by omega
                  have y1 : wr.cell? ⟨P, k2, none⟩ = some (.int .u8 (z k2)) := by
                    have := (hst3.cell _).trans (x1 k2 hk3)
                    rwa [if_neg (by omega)] at this
                  have y2 : wr.cell? ⟨b, k2, none⟩ = some (.int .u8 (z k2)) := (hst3.cell _).trans (x2 k2 hk3)
                  clear x1 x2
                  go_wp2_with fail
                  go_quiet (fail)
                  go_wp2_with fail
                  go_roundw
                  case rel => exact ⟨k2 + 1, by omega, by go_num, hst3.trans ⟨rfl, rfl, rfl, rfl⟩⟩
                  case measure => simp [intOf]; omega
              · go_wp2_with fail
                go_roundw
                case rel => exact ⟨k + 1, L, true, by omega, by omega, rfl, rfl, by go_num, (fun _ => Nat.le_refl _), HINV2.out.still hst3⟩
                case measure => simp [intOf]; omega
          · have hk1 : min (len - pos) mk ≤ L - pos := by omega
            have hbz : mk = 0 ∨ ∃ P, ap = some ⟨P, 0, none⟩ ∧ B ≤ P ∧ Own w1 P mk .u8 5 z ∧ R ≠ P ∧ D ≠ P ∧ R + 1 ≠ P := by
              rcases HBIN1.out with e | ⟨P, e1, e2, e3, e4⟩
              · exact .inl e
              · exact .inr ⟨P, e1, by omega, e4, by omega, by omega, by omega⟩
            have hzz := zz_some (R + 1) R D len L pos mk B ap a0 a1 z g w1 HINV1.out.sent (by omega) (by omega) HINV1.out.txt HOD.out hbz hmk hlt2 hl1 (by omega) (by omega) (by omega) hk1
            have HZZ : Hid _ := hzz
            clear hzz hbz
            have hS : ∀ k, (k = R ∨ (ap = some ⟨k, 0, none⟩ ∧ 0 < mk) ∨ k = R + 1) → k = R ∨ k = R + 1 ∨ (Q < k ∧ k < R ∧ ∃ z, Own w1 k mk .u8 5 z) := by
              intro k e
              rcases e with e | ⟨e, e0⟩ | e
              · exact .inl e
              · rcases HBIN1.out with h | ⟨P, e1, e2, e3, e4⟩
                · omega
                · rw [e1] at e
                  cases e
                  exact .inr (.inr ⟨e2, e3, _, e4⟩)
              · exact .inr (.inl e)
            have HSS : Hid _ := hS
            clear hS
            have hcs : (L < len ∧ mk < len - pos) ∨ (¬ L < len ∧ mk < len - pos) ∨ (¬ L < len ∧ ¬ mk < len - pos) := by omega
            clear hpast
            rcases hcs with ⟨hA, hC⟩ | ⟨hA, hC⟩ | ⟨hA, hC⟩
            all_goals
              (first | have hA1 : ¬ (L : Int) - (pos : Int) < (mk : Int) := by omega
                     | skip)
            all_goals
              (first | have hC1 : (mk : Int) < (len : Int) - (pos : Int) := by omega
                     | have hC1 : ¬ (mk : Int) < (len : Int) - (pos : Int) := by omega)
            all_goals
              go_wp2_with fail
              refine Calls.mono HZZ.out ?_
              rintro e w2 ⟨rfl, htx, hPo2, hsm⟩
              have hpr := pair_of HBIN1.out HVB.out (by omega) hsm (fun k e => by rcases HSS.out k e with e | e | ⟨_, e, _⟩ <;> omega) hPo2
              have hinv2 := HINV1.out.step hsm (fun k e => by
                rcases HSS.out k e with e1 | e1 | ⟨h1, h2, z', h3⟩
                · exact .inl e1
                · exact .inr (.inl e1)
                · refine .inr (.inr ⟨h1, h2, fun n' z'' ho => ?_⟩)
                  rw [Own.len_eq ho h3]
                  rcases e with e | ⟨e, e0⟩ | e
                  · omega
                  · exact ⟨_, hPo2 k e e0⟩
                  · omega) htx
              have hD2 : Own w2 D len .u8 5 g := HOD.out.keep (hsm.block D HOD.out.lt (fun e => by rcases HSS.out D e with e | e | ⟨e, _, _⟩ <;> omega))
              have HINV2 : Hid _ := hinv2
              have HPR : Hid _ := hpr
              have HD2 : Hid (Own w2 D len .u8 5 g) := hD2
              clear hinv2 htx hsm hPo2 hpr hD2 HINV1 HBIN1 HVB HOD HSS HZZ
              go_wp2_with fail
              go_loopw [24] (fun i wq => ∃ k2 : Nat, k2 ≤ mk ∧ i = .int .i64 k2 ∧ Still w2 wq) (fun i _ => mk - (intOf i).toNat)
              case atStart => exact ⟨0, Nat.zero_le _, rfl, Still.refl _⟩
              case round =>
                obtain ⟨k2, hk2, rfl, hst3⟩ := hrel
                by_cases hk3 : k2 < mk
                · obtain ⟨P, b, rfl, rfl, x1, x2⟩ := HPR.out.cells (by omega)
                  by_cases hk4 : k2 < min (len - pos) mk
                  · have hk4' : (k2 : Int) < (len : Int) - (pos : Int) := by omega
                    have hidx : (pos : Int) + (k2 : Int) < (len : Int) := by omega
                    have hidx2 : pos + k2 < len := by omega
                    clear hk1
                    have y1 : wr.cell? ⟨P, k2, none⟩ = some (.int .u8 (g (pos + k2))) := by
                      have := (hst3.cell _).trans (x1 k2 hk3)
                      rwa [if_pos hk4] at this
                    have y2 : wr.cell? ⟨D, pos + k2, none⟩ = some (.int .u8 (g (pos + k2))) := (hst3.cell _).trans (HD2.out.cell (by omega))
                    clear x1 x2
                    go_wp2_with fail
                    go_quiet (fail)
                    go_wp2_with fail
                    go_roundw
                    case rel => exact ⟨k2 + 1, by omega, by go_num, hst3.trans ⟨rfl, rfl, rfl, rfl⟩⟩
                    case measure => simp [intOf]; omega
                  · first
                    | (exfalso; omega)
                    | (have hk4' : ¬ (k2 : Int) < (len : Int) - (pos : Int) := by omega
                       have y1 : wr.cell? ⟨P, k2, none⟩ = some (.int .u8 (z k2)) := by
                         have := (hst3.cell _).trans (x1 k2 hk3)
                         rwa [if_neg hk4] at this
                       have y2 : wr.cell? ⟨b, k2, none⟩ = some (.int .u8 (z k2)) := (hst3.cell _).trans (x2 k2 hk3)
                       clear x1 x2
                       go_wp2_with fail
                       go_quiet (fail)
                       go_wp2_with fail
                       go_roundw
                       case rel => exact ⟨k2 + 1, by omega, by go_num, hst3.trans ⟨rfl, rfl, rfl, rfl⟩⟩
                       case measure => simp [intOf]; omega)
                · go_wp2_with fail
                  go_roundw
                  case rel => exact ⟨k + 1, pos + min (len - pos) mk, false, by omega, by omega, congrArg (Value.int .i64) (by omega), rfl, by go_num, (fun _ => by omega), HINV2.out.still hst3⟩
                  case measure => simp [intOf]; omega
        · go_wp2_with fail
          go_ret
          exact ⟨rfl, by rw [HBE.out]; exact hinv.bel⟩
end Go.Proofs.Qxb6615636aDoor
