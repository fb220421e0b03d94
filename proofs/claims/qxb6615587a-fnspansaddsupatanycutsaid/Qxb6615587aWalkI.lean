/-
  THE WALK of ZZspans (seat b6615587a).
-/
import Derived.Test.Qxb6615587aWalkH
import Derived.Test.Qxb6615587aPairs
namespace Go.Proofs.Qxb6615587a
open Go.ChangeShapes Go.WideShapes Go.ChangeAt Go.RowKit
set_option linter.unusedVariables false

/-- What ZZspans gives where found is not used. -/
def ZNil (f : Nat → Int) (n : Int) (a t : Nat) (w : World) (e : Ending) (w' : World) : Prop :=
  e = .returned (.tuple #[.int .i64 ((hits f n a t).length : Int), .int .i64 (bestOf f (hits f n a t)), .slice none 0 0, .slice none 0 0]) ∧ Below w.heap.size w w'

theorem zspans_nil (X N : Nat) (wa ca ra sa da : Option Addr) (nc l1 c1 l2 c2 : Nat) (f c r : Nat → Int) (base n : Int) (a t : Nat) (w : World) (hf : ∀ i, 0 ≤ f i ∧ f i ≤ 4294967295) (hN : N ≤ 65536) (hnc : nc ≤ 65536)
    (hx : Idx w w.heap.size X wa ca ra N N nc f c r) (hat : a ≤ t) (htN : t ≤ N) (htc : t ≤ nc) (hfit : Fit f a t) (hrk : RKA f r a t) :
    Calls Try.prog 10 #[.pointer (some ⟨X, 0, none⟩), .int .i64 a, .int .i64 t, .int .i64 n, .bool false, .slice sa l1 c1, .slice da l2 c2, .int .u64 base] w fun e w' => ZNil f n a t w e w' := by
  go_enter Try.func10, Try.ntmps10
  go_wp2_with fail
  refine (spans_any w.heap.size X N wa ca ra nc none f c r base n hf hN hnc (t + 1) a t undef [] w (by omega) hx hat htN htc hfit hrk trivial (Nat.le_refl _) (by simp; omega)).mono ?_
  rintro e w1 ⟨rfl, v1, _, ht1⟩
  have hb : Below w.heap.size w w1 := ht1.below (items := []) trivial (Nat.le_refl _)
  clear ht1
  go_wp2_with fail
  refine bodyPost_ret (v := .tuple #[.int .i64 ((hits f n a t).length : Int), .int .i64 (bestOf f (hits f n a t)), .slice none 0 0, .slice none 0 0]) (by simp [results, Try.results10, go_sem]) rfl ?_
  exact ⟨rfl, hb⟩

/-- What ZZspans gives where found is used. -/
def ZPost (f c : Nat → Int) (base n : Int) (a t : Nat) (items : List (Int × Int)) (w : World) (e : Ending) (w' : World) : Prop :=
  ∃ ga gd T, w.heap.size ≤ ga ∧ w.heap.size ≤ gd ∧ T = (items ++ outs f c base (hits f n a t)).length ∧ e = .returned (.tuple #[.int .i64 ((hits f n a t).length : Int), .int .i64 (bestOf f (hits f n a t)), .slice (some ⟨ga, 0, none⟩) T T, .slice (some ⟨gd, 0, none⟩) T T]) ∧
    Own w' ga T .u64 23 (fun i => ((items ++ outs f c base (hits f n a t)).getD i (0, 0)).1) ∧ Own w' gd T .u32 34 (fun i => ((items ++ outs f c base (hits f n a t)).getD i (0, 0)).2) ∧ Below w.heap.size w w'

set_option maxHeartbeats 1000000 in
theorem zspans_some (X N : Nat) (wa ca ra : Option Addr) (nc np b1 o1 c1 b2 o2 c2 : Nat) (f c r s d : Nat → Int) (base n : Int) (a t : Nat) (w : World) (hf : ∀ i, 0 ≤ f i ∧ f i ≤ 4294967295) (hN : N ≤ 65536) (hnc : nc ≤ 65536) (hnp : np ≤ 65536)
    (hx : Idx w w.heap.size X wa ca ra N N nc f c r) (hat : a ≤ t) (htN : t ≤ N) (htc : t ≤ nc) (hfit : Fit f a t) (hrk : RKA f r a t) (hb1 : b1 < w.heap.size) (hb2 : b2 < w.heap.size) (hs : ∀ i, i < np → w.cell? ⟨b1, o1 + i, none⟩ = some (.int .u64 (s i))) (hd : ∀ i, i < np → w.cell? ⟨b2, o2 + i, none⟩ = some (.int .u32 (d i))) :
    Calls Try.prog 10 #[.pointer (some ⟨X, 0, none⟩), .int .i64 a, .int .i64 t, .int .i64 n, .bool true, .slice (some ⟨b1, o1, none⟩) np c1, .slice (some ⟨b2, o2, none⟩) np c2, .int .u64 base] w fun e w' => ZPost f c base n a t ((List.range np).map (fun i => (s i, d i))) w e w' := by
  obtain ⟨i0, hi0, hz0, hz1, hz2⟩ := info_parts Try.info64
  go_enter Try.func10, Try.ntmps10
  go_wp2_with (at_make; refine wpList_make_full _ rfl _ _ 62 rfl w.heap.size 64 i0 (.agg #[.int .u64 0, .int .u32 0]) 2 Try.underlying62 hi0 hz0 hz1 .i64 .i64 _ _ np rfl rfl rfl rfl (by rw [hz2]; omega) (by unfold maxLen; omega) (Nat.le_refl _) ?_)
  intro w1 hown hgrow
  have hb := below_made hgrow
  have hsz : w.heap.size < w1.heap.size := (hown.lt w.heap.size rfl).2
  have hpr := Pairs.of_made hown
  clear hown hgrow
  have HS : Hid (∀ i, i < np → w.cell? ⟨b1, o1 + i, none⟩ = some (.int .u64 (s i))) := hs
  have HD : Hid (∀ i, i < np → w.cell? ⟨b2, o2 + i, none⟩ = some (.int .u32 (d i))) := hd
  clear hs hd
  go_wp2_with fail
  go_loopw [47] (fun i wr => ∃ k : Nat, k ≤ np ∧ i = .int .i64 k ∧ wr.heap[w1.heap.size]? = some (.cells #[.slice (some ⟨w.heap.size, 0, none⟩) np np] 62 (0, 0)) ∧ Pairs wr w.heap.size np (fun j => if j < k then s j else 0) (fun j => if j < k then d j else 0) ∧ Below w.heap.size w wr) (fun i _ => np - (intOf i).toNat)
  case atStart => exact ⟨0, Nat.zero_le _, rfl, heap_new w1 _, (hpr.keep (Below.heap_alloc w1 _ _ hsz)).congr (fun i _ => by simp) (fun i _ => by simp), hb.alloc (by omega) _⟩
  case round =>
    obtain ⟨k, hk, rfl, hv, hp, hbel⟩ := hrel
    by_cases hlt : k < np
    · have y1 := cell_of_one hv
      have y2 : wr.cell? ⟨b1, o1 + k, none⟩ = some (.int .u64 (s k)) := (hbel.cell (p := ⟨b1, o1 + k, none⟩) hb1).trans (HS.out k hlt)
      have y3 : wr.cell? ⟨b2, o2 + k, none⟩ = some (.int .u32 (d k)) := (hbel.cell (p := ⟨b2, o2 + k, none⟩) hb2).trans (HD.out k hlt)
      obtain ⟨y4, y5⟩ := hp.cell hlt
      have y6 := hp.free (k * 2)
      have y7 := hp.free (k * 2 + 1)
      have l0 : (0 : Int) ≤ (k : Int) := Int.natCast_nonneg k
      have l1 : (k : Int) < (np : Int) := by omega
      go_wp2_with fail
      go_region
      go_wp2_with fail
      go_roundw
      case rel => exact ⟨k + 1, by omega, by go_num, pairs_step hp hv (by omega) hlt hbel rfl rfl rfl rfl⟩
      case measure => simp [intOf]; omega
    · have hFlt : w1.heap.size < wr.heap.size := lt_of_block hv
      have hkn : k = np := by omega
      have hp' : Pairs wr w.heap.size np s d := hp.congr (fun i hi => by rw [if_pos (by omega)]) (fun i hi => by rw [if_pos (by omega)])
      have hfi := hp'.finv (by unfold maxLen; omega) (Nat.le_of_lt hsz) hv
      go_wp2_with fail
      refine (spans_any w.heap.size X N wa ca ra nc (some w1.heap.size) f c r base n hf hN hnc (t + 1) a t _ _ wr (by omega) (hx.below hbel) hat htN htc hfit hrk hfi hbel.size (by simp; omega)).mono ?_
      rintro e w2 ⟨rfl, v2, hi2, ht2⟩
      have hb2' : Below w.heap.size w w2 := hbel.trans (ht2.below hfi hbel.size)
      have hl := hits_length f n a t
      obtain ⟨ao, vn, vc, rfl⟩ := hi2.shape
      obtain ⟨hvn, hcells⟩ := hi2.cells
      have y1 := cell_of_one hi2.2.1
      have hF2 := hi2.var_lt
      have hvl : vn ≤ 131072 := by rw [hvn]; simp [outs]; omega
      obtain ⟨s2, d2, hs2, hd2⟩ : ∃ s2 d2 : Nat → Int, (∀ i, s2 i = ((List.map (fun i => (s i, d i)) (List.range np) ++ outs f c base (hits f n a t)).getD i (0, 0)).1) ∧ ∀ i, d2 i = ((List.map (fun i => (s i, d i)) (List.range np) ++ outs f c base (hits f n a t)).getD i (0, 0)).2 := ⟨_, _, fun _ => rfl, fun _ => rfl⟩
      obtain ⟨g, hg⟩ : ∃ g, 0 < vn → ao = some ⟨g, 0, none⟩ ∧ g < w2.heap.size ∧ ∀ i, i < vn → w2.cell? ⟨g, i * 2, none⟩ = some (.int .u64 (s2 i)) ∧ w2.cell? ⟨g, i * 2 + 1, none⟩ = some (.int .u32 (d2 i)) := by
        rcases Nat.eq_zero_or_pos vn with h0 | h0
        · exact ⟨0, fun h => by omega⟩
        · obtain ⟨g, q1, q2, q3⟩ := hcells h0
          exact ⟨g, fun _ => ⟨q1, q2, fun i hi => by rw [hs2, hd2]; exact q3 i hi⟩⟩
      have HG : Hid (0 < vn → ao = some ⟨g, 0, none⟩ ∧ g < w2.heap.size ∧ ∀ i, i < vn → w2.cell? ⟨g, i * 2, none⟩ = some (.int .u64 (s2 i)) ∧ w2.cell? ⟨g, i * 2 + 1, none⟩ = some (.int .u32 (d2 i))) := hg
      have HVN : Hid (vn = (List.map (fun i => (s i, d i)) (List.range np) ++ outs f c base (hits f n a t)).length) := hvn
      have HS2 : Hid (∀ i, s2 i = ((List.map (fun i => (s i, d i)) (List.range np) ++ outs f c base (hits f n a t)).getD i (0, 0)).1) := hs2
      have HD2 : Hid (∀ i, d2 i = ((List.map (fun i => (s i, d i)) (List.range np) ++ outs f c base (hits f n a t)).getD i (0, 0)).2) := hd2
      clear hg hvn hs2 hd2 hcells hi2 ht2 hfi hp hp' hv hkn
      obtain ⟨j0, hj0, hjz0, hjz1, hjz2⟩ := info_parts Try.info23
      obtain ⟨l0, hl0, hlz0, hlz1, hlz2⟩ := info_parts Try.info34
      go_wp2_with (at_make; refine wpList_make_full _ rfl _ _ 31 rfl w2.heap.size 23 j0 (.int .u64 0) 1 Try.underlying31 hj0 hjz0 hjz1 .i64 .i64 _ _ vn rfl rfl rfl rfl (by rw [hjz2]; omega) (by unfold maxLen; omega) (Nat.le_refl _) ?_)
      intro w3 hown3 hgrow3
      have hb3 := below_made hgrow3
      have ho3 := Own.of_made1 hown3
      have hlt3 := ho3.lt
      have y3 : w3.cell? ⟨w1.heap.size, 0, none⟩ = some (.slice ao vn vc) := (hb3.cell (p := ⟨w1.heap.size, 0, none⟩) hF2).trans y1
      clear hown3 hgrow3
      go_wp2_with (at_make; refine wpList_make_full _ rfl _ _ 22 rfl w3.heap.size 34 l0 (.int .u32 0) 1 Try.underlying22 hl0 hlz0 hlz1 .i64 .i64 _ _ vn rfl rfl rfl rfl (by rw [hlz2]; omega) (by unfold maxLen; omega) (Nat.le_refl _) ?_)
      intro w4 hown4 hgrow4
      have hb4 := below_made hgrow4
      have ho4 := Own.of_made1 hown4
      have ho3' := ho3.keep (hb4.block _ hlt3)
      have hb24 := hb3.trans (hb4.mono (Nat.le_of_lt hlt3))
      have y4 : w4.cell? ⟨w1.heap.size, 0, none⟩ = some (.slice ao vn vc) := (hb24.cell (p := ⟨w1.heap.size, 0, none⟩) hF2).trans y1
      clear hown4 hgrow4
      go_wp2_with fail
      go_loopw [80] (fun i wq => ∃ q : Nat, q ≤ vn ∧ i = .int .i64 q ∧ Own wq w2.heap.size vn .u64 23 (fun j => if j < q then s2 j else 0) ∧ Own wq w3.heap.size vn .u32 34 (fun j => if j < q then d2 j else 0) ∧ Below w2.heap.size w2 wq) (fun i _ => vn - (intOf i).toNat)
      case atStart => exact ⟨0, Nat.zero_le _, rfl, ho3'.congr (fun i _ => by simp), ho4.congr (fun i _ => by simp), hb24⟩
      case round =>
        obtain ⟨q, hq, rfl, hoA, hoB, hbel2⟩ := hrel
        by_cases hlt2 : q < vn
        · obtain ⟨hao, hgl, hgc⟩ := HG.out (by omega)
          obtain ⟨g1, g2⟩ := hgc q hlt2
          have z1 : wr.cell? ⟨w1.heap.size, 0, none⟩ = some (.slice (some ⟨g, 0, none⟩) vn vc) := by rw [← hao]; exact (hbel2.cell (p := ⟨w1.heap.size, 0, none⟩) hF2).trans y1
          have z2 : wr.cell? ⟨g, q * 2, none⟩ = some (.int .u64 (s2 q)) := (hbel2.cell (p := ⟨g, q * 2, none⟩) hgl).trans g1
          have z3 : wr.cell? ⟨g, q * 2 + 1, none⟩ = some (.int .u32 (d2 q)) := (hbel2.cell (p := ⟨g, q * 2 + 1, none⟩) hgl).trans g2
          have z4 := hoA.cell hlt2
          have z5 := hoA.free q
          have z6 : (wr.setCell ⟨w2.heap.size, q, none⟩ (.int .u64 (s2 q))).cell? ⟨w1.heap.size, 0, none⟩ = some (.slice (some ⟨g, 0, none⟩) vn vc) := by rw [cell_set_other (by omega)]; exact z1
          have z7 : (wr.setCell ⟨w2.heap.size, q, none⟩ (.int .u64 (s2 q))).cell? ⟨g, q * 2 + 1, none⟩ = some (.int .u32 (d2 q)) := by rw [cell_set_other (by omega)]; exact z3
          have hoB' := hoB.other (a := ⟨w2.heap.size, q, none⟩) (by simp; omega) (.int .u64 (s2 q))
          have z8 := hoB'.cell hlt2
          have z9 := hoB'.free q
          clear hao hgc g1 g2 y1 y3 y4
          go_wp2_with fail
          go_roundw
          case rel => exact ⟨q + 1, by omega, by go_num, (hoA.step hlt2).other (by simp; omega) _, hoB'.step hlt2, (hbel2.setCell (p := ⟨w2.heap.size, q, none⟩) (Nat.le_refl _) _).setCell (p := ⟨w3.heap.size, q, none⟩) (Nat.le_of_lt hlt3) _⟩
          case measure => simp [intOf]; omega
        · go_wp2_with fail
          have hqn : q = vn := by omega
          subst hqn
          refine bodyPost_ret (v := .tuple #[.int .i64 ((hits f n a t).length : Int), .int .i64 (bestOf f (hits f n a t)), .slice (some ⟨w2.heap.size, 0, none⟩) q q, .slice (some ⟨w3.heap.size, 0, none⟩) q q]) (by simp [results, Try.results10, go_sem]) rfl ?_
          exact ⟨_, _, q, hb2'.size, Nat.le_trans hb2'.size (Nat.le_of_lt hlt3), HVN.out, rfl, hoA.congr (fun i hi => by rw [if_pos hi, HS2.out]), hoB.congr (fun i hi => by rw [if_pos hi, HD2.out]), hb2'.trans (hbel2.mono hb2'.size)⟩
end Go.Proofs.Qxb6615587a
