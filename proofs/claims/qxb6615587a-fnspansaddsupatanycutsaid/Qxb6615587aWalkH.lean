/-
  THE WALK of (*subnetIndex).spans (seat b6615587a).
-/
import Derived.Test.Qxb6615587aWalkG
namespace Go.Proofs.Qxb6615587a
open Go.ChangeShapes Go.WideShapes Go.ChangeAt Go.RowKit
set_option linter.unusedVariables false

set_option maxHeartbeats 4000000 in
theorem spans_any (B X N : Nat) (wa ca ra : Option Addr) (nc : Nat) (fp : Option Nat) (f c r : Nat → Int) (base n : Int) (hf : ∀ i, 0 ≤ f i ∧ f i ≤ 4294967295) (hN : N ≤ 65536) (hnc : nc ≤ 65536) (m : Nat) :
    ∀ (a t : Nat) (v : Value) (items : List (Int × Int)) (w : World), t < a + m → Idx w B X wa ca ra N N nc f c r → a ≤ t → t ≤ N → t ≤ nc → Fit f a t → RKA f r a t → FInv B fp w v items → B ≤ w.heap.size → items.length + (t - a) ≤ 1000000 →
    Calls Try.prog 17 #[.pointer (some ⟨X, 0, none⟩), .int .i64 a, .int .i64 t, .int .i64 n, fval fp, .int .u64 base] w fun e w' => SpanPost B fp f c base n a t v items w e w' := by
  induction m with
  | zero =>
    intro a t v items w hm hx hat
    omega
  | succ m ih =>
    intro a t v items w hm hx hat htN htc hfit hrk hfi hB hit
    have IH : Hid _ := ih
    have HF : Hid (∀ i, 0 ≤ f i ∧ f i ≤ 4294967295) := hf
    clear ih hf
    go_enter Try.func17, Try.ntmps17
    go_wp2_with fail
    go_loopw [1] (fun fr wr => ∃ p : Nat, a ≤ p ∧ p ≤ t ∧ fr = .int .i64 p ∧ RKA f r p t ∧ ∃ cnt be v' its, SpanAt B fp f c base n X a p v items w wr cnt be v' its) (fun fr _ => t - (intOf fr).toNat)
    case atStart => exact ⟨a, Nat.le_refl _, hat, rfl, hrk, 0, -1, v, items, SpanAt.start f c base n X a hfi⟩
    case round =>
      obtain ⟨p, hp1, hp2, rfl, hrkp, cnt, be, v', its, hsp⟩ := hrel
      have hbel : Below B w wr := hsp.tch.below hfi hB
      have hxr := hx.below hbel
      obtain ⟨b1, b2, b3⟩ := hsp.bounds
      have hsz := hsp.tch.same.size
      have y1 := cell_of_one hsp.box
      have y2 := cell_of_one hsp.vcnt
      have y3 := cell_of_one hsp.vbst
      by_cases hs : p + 32 < t
      · obtain ⟨k1, k2, k3, k4⟩ := hrkp.part hs
        have K1 : Hid (∀ i, p ≤ i → i < t → hi (f i) ≤ r ((p + t) / 2)) := k1
        clear k1
        obtain ⟨rb, ro, hra, hrB, hrc⟩ := hxr.rr.cells (by omega)
        have y4 := hxr.cr
        rw [hra] at y4
        have y5 := hrc ((p + t) / 2) (by omega)
        clear hra hrc
        by_cases h1 : r ((p + t) / 2) < n
        · go_wp2_with fail
          go_quiet (fail)
          go_wp2_with fail
          go_ret2
          exact hsp.stop (by rw [hits_cut f n a p t hp1 hp2, hits_low K1.out h1]; simp) rfl rfl rfl rfl
        · go_wp2_with fail
          have er : ((p : Int) + (t : Int)) / 2 = (((p + t) / 2 : Nat) : Int) := by omega
          rw [er]
          clear er y2 y3 y4 y5
          refine (IH.out p ((p + t) / 2) v' its wr (by omega) hxr (by omega) (by omega) (by omega) (hfit.sub hp1 (by omega)) k3 hsp.inv (by omega) (by omega)).mono ?_
          rintro e w2 ⟨rfl, v2, hi2, ht2⟩
          obtain ⟨m1, m2, m3⟩ := hsp.mid hfi ht2
          have hbel2 : Below B w w2 := (hsp.tch.trans ht2).below hfi hB
          have hx2 := hx.below hbel2
          have z1 := cell_of_one m1
          have hl1 := hits_length f n p ((p + t) / 2)
          go_wp2_with fail
          refine (add_any (w.heap.size + 1) (w.heap.size + 1 + 1) w.heap.size B X N wa ca ra nc f c r cnt _ be _ w2 HF.out hx2 hN m2 m3 (by omega) z1 (by omega) (by omega) b1 (by omega) (by omega) (by omega) ?_ (okp_best (hfit.sub hp1 (by omega)) (by omega))).mono ?_
          · rw [hsp.hbe]; exact okp_best (hfit.sub (Nat.le_refl _) (by omega)) (by omega)
          rintro e w3 ⟨rfl, hadd⟩
          have hsp3 := hsp.add hfi ⟨hp1, by omega⟩ hi2 ht2 hadd
          clear hadd hi2 ht2 hsp m1 m2 m3 z1 y1 hx2 hbel2
          generalize cnt + ((hits f n p ((p + t) / 2)).length : Int) = cnt3 at *
          generalize better f be (bestOf f (hits f n p ((p + t) / 2))) = be3 at *
          generalize its ++ outs f c base (hits f n p ((p + t) / 2)) = its3 at *
          have hbel3 : Below B w w3 := hsp3.tch.below hfi hB
          have hx3 := hx.below hbel3
          obtain ⟨d1, d2, d3⟩ := hsp3.bounds
          have hsz3 := hsp3.tch.same.size
          have y1 := cell_of_one hsp3.box
          have y2 := cell_of_one hsp3.vcnt
          have y3 := cell_of_one hsp3.vbst
          obtain ⟨wb, wo, hwa, hwB, hwc⟩ := hx3.rw.cells (by omega)
          have y4 := hx3.cw
          rw [hwa] at y4
          have y5 := hwc ((p + t) / 2) (by omega)
          clear hwa hwc
          obtain ⟨q0, q1⟩ := HF.out ((p + t) / 2)
          by_cases h2 : n < lo (f ((p + t) / 2))
          · go_wp2_with (go_at_call 20; refine (lo_any _ _ q0 q1).mono ?_; rintro e w' ⟨rfl, rfl⟩)
            go_quiet (fail)
            go_wp2_with fail
            go_ret2
            exact hsp3.stop (by rw [hits_cut f n a ((p + t) / 2) t (by omega) (by omega), hits_high hfit (by omega) h2]; simp) rfl rfl rfl rfl
          · go_wp2_with (go_at_call 20; refine (lo_any _ _ q0 q1).mono ?_; rintro e w' ⟨rfl, rfl⟩)
            have er : ((p : Int) + (t : Int)) / 2 + 1 = (((p + t) / 2 + 1 : Nat) : Int) := by omega
            have er2 : ((p : Int) + (t : Int)) / 2 = (((p + t) / 2 : Nat) : Int) := by omega
            rw [er, er2]
            clear er er2 y1 y2 y3 y4 y5
            refine (leaf_any B X N wa ca ra nc fp f c r base n ((p + t) / 2) ((p + t) / 2 + 1) v2 its3 w3 HF.out hx3 hN hnc (by omega) (by omega) (by omega) (hfit.sub (by omega) (by omega)) hsp3.inv (by omega) (by omega)).mono ?_
            rintro e w4 ⟨rfl, v4, hi4, ht4⟩
            obtain ⟨m1, m2, m3⟩ := hsp3.mid hfi ht4
            have hbel4 : Below B w w4 := (hsp3.tch.trans ht4).below hfi hB
            have hx4 := hx.below hbel4
            have z1 := cell_of_one m1
            have hl4 := hits_length f n ((p + t) / 2) ((p + t) / 2 + 1)
            go_wp2_with fail
            refine (add_any (w.heap.size + 1) (w.heap.size + 1 + 1) w.heap.size B X N wa ca ra nc f c r cnt3 _ be3 _ w4 HF.out hx4 hN m2 m3 (by omega) z1 (by omega) (by omega) d1 (by omega) (by omega) (by omega) ?_ (okp_best (hfit.sub (by omega) (by omega)) (by omega))).mono ?_
            · rw [hsp3.hbe]; exact okp_best (hfit.sub (Nat.le_refl _) (by omega)) (by omega)
            rintro e w5 ⟨rfl, hadd⟩
            have hsp5 := hsp3.add hfi ⟨by omega, by omega⟩ hi4 ht4 hadd
            clear hadd hi4 ht4 hsp3 m1 m2 m3 z1 hx4 hbel4
            go_wp2_with fail
            go_roundw
            case rel => exact ⟨(p + t) / 2 + 1, by omega, by omega, by go_num, k4, _, _, _, _, hsp5⟩
            case measure => simp [intOf]; omega
      · clear y1 y2 y3
        have y1 := cell_of_one hsp.box
        go_wp2_with fail
        clear y1
        refine (leaf_any B X N wa ca ra nc fp f c r base n p t v' its wr HF.out hxr hN hnc hp2 htN htc (hfit.sub hp1 (Nat.le_refl _)) hsp.inv (by omega) (by omega)).mono ?_
        rintro e w4 ⟨rfl, v4, hi4, ht4⟩
        obtain ⟨m1, m2, m3⟩ := hsp.mid hfi ht4
        have hbel4 : Below B w w4 := (hsp.tch.trans ht4).below hfi hB
        have hx4 := hx.below hbel4
        have z1 := cell_of_one m1
        have hl4 := hits_length f n p t
        go_wp2_with fail
        refine (add_any (w.heap.size + 1) (w.heap.size + 1 + 1) w.heap.size B X N wa ca ra nc f c r cnt _ be _ w4 HF.out hx4 hN m2 m3 (by omega) z1 (by omega) (by omega) b1 (by omega) (by omega) (by omega) ?_ (okp_best (hfit.sub hp1 (Nat.le_refl _)) (by omega))).mono ?_
        · rw [hsp.hbe]; exact okp_best (hfit.sub (Nat.le_refl _) (by omega)) (by omega)
        rintro e w5 ⟨rfl, hadd⟩
        have hsp5 := hsp.add hfi ⟨hp1, hp2⟩ hi4 ht4 hadd
        clear hadd hi4 ht4 hsp m1 m2 m3 z1 hx4 hbel4
        have y2 := cell_of_one hsp5.vcnt
        have y3 := cell_of_one hsp5.vbst
        go_wp2_with fail
        go_quiet (fail)
        go_wp2_with fail
        go_ret2
        exact hsp5.stop rfl rfl rfl rfl rfl
end Go.Proofs.Qxb6615587a
