/-
  THE WALK of FnSkipByteOrderMarkTakesOffOneMark, the law itself (seat b6615636aD).
-/
import Derived.Test.Qxb6615636aDoorWalkT
namespace Go.Proofs.Qxb6615636aDoor
open Go.ChangeShapes Go.WideShapes Go.ChangeAt Go.RowKit
set_option linter.unusedVariables false

theorem rs_of {w : World} {X U R D len : Nat} {da : Option Addr} {g : Nat → Int} (h : ∃ q, ((bom len g ∧ q = 3) ∨ (¬ bom len g ∧ q = 0)) ∧ BSt w X U R D len da g q (min len 4096) (min len 4096)) :
    ∃ q, ((bom len g ∧ q = 3) ∨ (¬ bom len g ∧ q = 0)) ∧ RS w X U R D len da g q ∧ q ≤ len := by
  obtain ⟨q, hq, hb⟩ := h
  have : q ≤ len ∧ q ≤ min len 4096 := by
    rcases hq with ⟨h1, rfl⟩ | ⟨_, rfl⟩
    · have := h1.1; omega
    · omega
  exact ⟨q, hq, ⟨q, _, _, hb, this.2, by omega, by omega, by omega, by omega⟩, this.1⟩

theorem RS.lts {w : World} {X U R D len q : Nat} {da : Option Addr} {g : Nat → Int} (h : RS w X U R D len da g q) : X < w.heap.size ∧ U < w.heap.size ∧ R < w.heap.size := by
  obtain ⟨r, wp, pos, ⟨⟨_, _, h1⟩, ⟨_, h2⟩, ⟨_, h3, _⟩, _⟩, _⟩ := h
  exact ⟨lt_of_block h1, h3.lt, lt_of_block h2⟩
theorem row_part {w : World} {D len o K : Nat} {g : Nat → Int} (h : Own w D len .u8 5 g) (hK : o + K ≤ len) : Row w w.heap.size .u8 (some ⟨D, o, none⟩) K (fun i => g (o + i)) := ⟨fun _ => ⟨D, o, rfl, h.lt, fun i hi => h.cell (by omega)⟩⟩
theorem row_data {w : World} {D len : Nat} {da : Option Addr} {g : Nat → Int} (h : len = 0 ∨ (da = some ⟨D, 0, none⟩ ∧ Own w D len .u8 5 g)) : Row w w.heap.size .u8 da len g :=
  ⟨fun h0 => by
    rcases h with e | ⟨rfl, e⟩
    · omega
    · exact ⟨D, 0, rfl, e.lt, fun i hi => by rw [Nat.zero_add]; exact e.cell hi⟩⟩

set_option maxRecDepth 100000 in
set_option maxHeartbeats 8000000 in
theorem bom_main (a' : Option Addr) (len c0 : Nat) (g : Nat → Int) (a0 a1 : Addr) (w : World) (hl : len ≤ 9223372036854775807) (hs : Sent w w.heap.size a0 a1) (hnil0 : a' = none → len = 0 ∧ c0 = 0) (hd : Row w w.heap.size .u8 a' len g) (hg : ∀ i, i < len → 0 ≤ g i ∧ g i ≤ 255) :
    Calls Tryd.prog 5 #[.slice a' len c0] w fun e w' => e = .returned (.bool true) ∧ Below w.heap.size w w' := by
  obtain ⟨i0, hi, hz0, hz1, hz2⟩ := info_parts Tryd.info5
  have HS : Hid _ := hs
  have HD : Hid _ := hd
  have HG : Hid _ := hg
  clear hs hd hg
  go_enter Tryd.func5, Tryd.ntmps5
  go_wp2_with fail
  refine Calls.mono (fit14 a' len c0 w hl) ?_
  rintro e w1 ⟨b, rfl, hst, hfit⟩
  cases b with
  | false =>
    go_wp2_with fail
    go_ret
    exact ⟨rfl, hst.below _⟩
  | true =>
  have hfit := hfit rfl
  have hcl := clone_any a' len c0 _ g w1 (by omega) hnil0 (HD.out.below (hst.below _))
  have HCL : Hid _ := hcl
  clear hcl
  go_wp2_with fail
  refine Calls.mono HCL.out ?_
  rintro e w2 ⟨da, rfl, hda, hb2⟩
  have hszr : w1.heap.size = w.heap.size := by rw [hst.heap]
  have hb2' : Below w.heap.size w w2 := (hst.below _).trans (hb2.mono (by omega))
  rw [hszr] at hda
  obtain ⟨D, hD1, hD2⟩ : ∃ D, D < w2.heap.size ∧ (len = 0 ∨ (da = some ⟨D, 0, none⟩ ∧ Own w2 D len .u8 5 g)) := by
    rcases hda with e | ⟨D, e1, e2, e3⟩
    · exact ⟨0, by have := HS.out.pos; have := hb2'.size; omega, .inl e⟩
    · exact ⟨D, e3.lt, .inr ⟨e1, e3⟩⟩
  have HD2 : Hid (len = 0 ∨ (da = some ⟨D, 0, none⟩ ∧ Own w2 D len .u8 5 g)) := hD2
  have hdn : da = none → len = 0 ∧ len = 0 := by
    intro e
    rcases hD2 with h | ⟨h, _⟩
    · exact ⟨h, h⟩
    · rw [e] at h; simp at h
  have HDN : Hid _ := hdn
  clear hda hb2 hD2 hst HCL HD hdn
  obtain ⟨B, hBe⟩ : ∃ B, w.heap.size = B := ⟨_, rfl⟩
  rw [hBe] at HS hb2'
  have HBE : Hid (w.heap.size = B) := hBe
  have hB2 := hb2'.size
  rw [hBe] at hB2
  clear hszr hBe
  go_wp2_with (at_make; refine wpList_make_own _ rfl _ _ 22 rfl w2.heap.size 5 i0 (.int .u8 0) 1 Tryd.underlying22 hi hz0 hz1 .i64 .i64 _ (len + 3) rfl rfl (by omega) (by rw [hz2]; omega) (by unfold maxLen; omega) (Nat.le_refl _) ?_)
  intro w3 hown3 hgrow3
  have hb3 := below_made hgrow3
  clear hgrow3
  go_wp2_with (at_builtin; refine wpList_append_fits _ rfl _ _ 22 rfl w2.heap.size 5 i0 1 Tryd.underlying22 hi hz1 w2.heap.size 0 (len + 3) [] rfl (hown3.alloc _) ⟨w3.heap.size, 0, none⟩ 3 3 [.int .u8 239, .int .u8 187, .int .u8 191] rfl rfl (World.news_of_block (cs := #[.int .u8 239, .int .u8 187, .int .u8 191]) (t := 5) (fr := (0, 0)) (heap_alloc_new w3 _)) (by simp [Value.oneCell']) (by omega) ?_)
  intro w4 hown4 hgrow4
  have hown4' : w4.ownsRow w2.heap.size 5 1 (.slice (some ⟨w2.heap.size, 0, none⟩) 3 (len + 3)) 3 [.int .u8 239, .int .u8 187, .int .u8 191] := hown4
  have hb4 : Below w2.heap.size w2 w4 := (hb3.alloc hb3.size _).grown hgrow4 (by have := hb3.size; simp; omega) (fun q e => by simp at e; omega)
  have hc4 : ∀ ad, da = some ad → ∀ j u, (vals .u8 g len)[j]? = some u → w4.cell? (ad.add j) = some u := by
    intro ad e
    rcases HD2.out with h | ⟨h1, h2⟩
    · subst h
      intro j u h
      simp [vals] at h
    · rw [h1] at e
      cases e
      exact news_of_own (h2.keep (hb4.block D hD1)) (Nat.le_refl _) (fun _ _ => rfl)
  have HC4 : Hid _ := hc4
  have HO4 : Hid _ := hown4'
  clear hown4 hgrow4 hown4' hc4 hown3 hb3
  go_wp2_with (at_builtin; refine wpList_append_fits_any _ rfl _ _ 22 rfl w2.heap.size 5 i0 1 Tryd.underlying22 hi hz1 w2.heap.size 3 (len + 3) [.int .u8 239, .int .u8 187, .int .u8 191] rfl HO4.out da len len (vals .u8 g len) rfl (by rw [vals_length]; omega) HDN.out HC4.out (vals_oneCell _ _ _) (by omega) ?_)
  intro w5 hown5 hgrow5
  have hmv := marked_vals g len
  simp only [List.cons_append, List.nil_append] at hmv
  rw [hmv, Nat.add_comm 3 len] at hown5
  rw [Nat.add_comm 3 len]
  have hK5 : Own w5 w2.heap.size (len + 3) .u8 5 (marked g) := Own.of_owns hown5 (fun i hi => vals_at .u8 _ _ i hi)
  have hb5 : Below w2.heap.size w2 w5 := hb4.grown hgrow5 hb4.size (fun q e => by simp at e; omega)
  have HK5 : Hid (Own w5 w2.heap.size (len + 3) .u8 5 (marked g)) := hK5
  clear hown5 hgrow5 hb4 HC4 HO4 hK5
  go_wp2_with (at_make; refine wpList_make_full _ rfl _ _ 22 rfl w5.heap.size 5 i0 (.int .u8 0) 1 Tryd.underlying22 hi hz0 hz1 .i64 .i64 _ _ 512 rfl rfl rfl rfl (by rw [hz2]; omega) (by unfold maxLen; omega) (Nat.le_refl _) ?_)
  intro w6 hown6 hgrow6
  have hb6 := below_made hgrow6
  have hP6 : Own w6 w5.heap.size 512 .u8 5 (fun _ => 0) := Own.of_made1 hown6
  have hKN : w2.heap.size < w5.heap.size := HK5.out.lt
  have hPN := hP6.lt
  have hK6 : Own w6 w2.heap.size (len + 3) .u8 5 (marked g) := HK5.out.keep (hb6.block _ hKN)
  have hbel6 : Below B w w6 := hb2'.trans ((hb5.mono hB2).trans (hb6.mono (by omega)))
  have hkeep6 : Keep5 w w6 B D w5.heap.size len da g a0 a1 := ⟨hbel6, HS.out.below hbel6, by omega, by
    rcases HD2.out with h | ⟨h1, h2⟩
    · exact .inl h
    · exact .inr ⟨h1, (h2.keep (hb5.block D hD1)).keep (hb6.block D (by omega))⟩, ⟨_, hP6⟩⟩
  clear hown6 hgrow6 hb6 hP6 hb5 HK5 hbel6 HD2 hb2'
  generalize w2.heap.size = K at *
  generalize w5.heap.size = P at *
  have hz6 := zskip K (len + 3) (some ⟨K, 0, none⟩) (marked g) B a0 a1 w6 hkeep6.sent (by omega) hK6.lt (.inr ⟨rfl, hK6⟩) (by omega) (marked_range HG.out)
  have HZ6 : Hid _ := hz6
  have HKP : Hid (Keep5 w w6 B D P len da g a0 a1) := hkeep6
  have HK6 : Hid (Own w6 K (len + 3) .u8 5 (marked g)) := hK6
  clear hz6 hkeep6 hK6
  obtain ⟨N, hN⟩ : ∃ N, w6.heap.size = N := ⟨_, rfl⟩
  rw [hN] at hPN
  have HN6 : Hid (w6.heap.size = N) := hN
  unfold ZSkip at HZ6
  rw [hN] at HZ6
  clear hN
  go_wp2_with fail
  refine Calls.mono HZ6.out ?_
  rintro e w7 ⟨rfl, hb7, hq7⟩
  obtain ⟨q, hq, hrs, hql⟩ := rs_of hq7
  obtain rfl : q = 3 := by
    rcases hq with ⟨_, h⟩ | ⟨h, _⟩
    · exact h
    · exact absurd (marked_bom g len) h
  obtain ⟨l1, l2, l3⟩ := hrs.lts
  obtain ⟨z6, hz6⟩ := HKP.out.buf
  have hsz6 := HN6.out
  have hb7' : Below w6.heap.size w6 w7 := by rw [hsz6]; exact hb7
  have hP7 : Own w7 P 512 .u8 5 z6 := hz6.keep (hb7.block P hPN)
  have hkp7 : Keep5 w w7 B D P len da g a0 a1 := HKP.out.same (by omega) (S := fun _ => False) (Same.of_below hb7') (fun k e => e.elim) ⟨_, hP7⟩
  have hrb := readBuffered_any B (N + 1) (N + 2) N K P (len + 3) 3 (some ⟨K, 0, none⟩) a0 a1 (marked g) z6 w7 hkp7.sent (by omega) (by omega) (by omega) (by omega) ⟨⟨by omega, by omega, by omega, by omega, by omega, by omega⟩, by omega, by omega, by omega, by omega⟩ hrs hP7 (by omega) l1 l2 l3 (.inr (by omega)) hql
  have HRB : Hid _ := hrb
  have HKP7 : Hid (Keep5 w w7 B D P len da g a0 a1) := hkp7
  have hDN : D < N := by omega
  have hN7 : N < w7.heap.size := l3
  clear hrb hkp7 hq hq7 hrs hb7 hb7' hP7 hz6 HZ6 HKP HK6 hsz6 l1 l2 l3 hql HN6
  go_wp2_with fail
  refine Calls.mono HRB.out ?_
  rintro e w8 ⟨ga, gc, he, hrow8, hbuf8, hs8⟩
  rw [Nat.add_sub_cancel] at he hrow8
  subst he
  have hkp8 : Keep5 w w8 B D P len da g a0 a1 := HKP7.out.same (by omega) hs8 (fun k e => ⟨by omega, .inr (by omega)⟩) hbuf8
  have heq := equal_any ga da len gc len _ _ (fun i => marked g (3 + i)) g w8 (by omega) hrow8 (row_data hkp8.data) (fun i _ => marked_after g i)
  have HEQ : Hid _ := heq
  have HKP8 : Hid (Keep5 w w8 B D P len da g a0 a1) := hkp8
  have hN8 : N < w8.heap.size := by have := hs8.size; omega
  clear heq hkp8 hs8 hrow8 hbuf8 HRB HKP7 hN7
  go_wp2_with fail
  refine Calls.mono HEQ.out ?_
  rintro e w9 ⟨rfl, hst9⟩
  have hkp9 : Keep5 w w9 B D P len da g a0 a1 := HKP8.out.same (by omega) (S := fun _ => False) (hst9.same _) (fun k e => e.elim) (by obtain ⟨z, hz⟩ := HKP8.out.buf; exact ⟨z, hz.keep (hst9.blk P)⟩)
  have hN9 : N < w9.heap.size := by rw [hst9.heap]; exact hN8
  have hz9 := zskip D len da g B a0 a1 w9 hkp9.sent (by omega) hkp9.dlt hkp9.data (by omega) HG.out
  have HZ9 : Hid _ := hz9
  have HKP9 : Hid (Keep5 w w9 B D P len da g a0 a1) := hkp9
  clear hz9 hkp9 hst9 HKP8 HEQ hN8
  obtain ⟨M, hM⟩ : ∃ M, w9.heap.size = M := ⟨_, rfl⟩
  rw [hM] at hN9
  have HM9 : Hid (w9.heap.size = M) := hM
  unfold ZSkip at HZ9
  rw [hM] at HZ9
  clear hM
  go_wp2_with fail
  refine Calls.mono HZ9.out ?_
  rintro e w10 ⟨rfl, hb10, hq10⟩
  obtain ⟨q, hq, hrs, hql⟩ := rs_of hq10
  obtain ⟨l1, l2, l3⟩ := hrs.lts
  obtain ⟨z9, hz9⟩ := HKP9.out.buf
  have hsz9 := HM9.out
  have hb10' : Below w9.heap.size w9 w10 := by rw [hsz9]; exact hb10
  have hP10 : Own w10 P 512 .u8 5 z9 := hz9.keep (hb10.block P (by omega))
  have hkp10 : Keep5 w w10 B D P len da g a0 a1 := HKP9.out.same (by omega) (S := fun _ => False) (Same.of_below hb10') (fun k e => e.elim) ⟨_, hP10⟩
  have hrb := readBuffered_any B (M + 1) (M + 2) M D P len q da a0 a1 g z9 w10 hkp10.sent (by omega) (by omega) (by omega) (by omega) ⟨⟨by omega, by omega, by omega, by omega, by omega, by omega⟩, by omega, by omega, by omega, by omega⟩ hrs hP10 (by omega) l1 l2 l3 (.inr (by omega)) hql
  have HRB : Hid _ := hrb
  have HKP10 : Hid (Keep5 w w10 B D P len da g a0 a1) := hkp10
  have HQ : Hid _ := hq
  clear hrb hkp10 hq10 hrs hb10 hb10' hP10 hz9 HZ9 HKP9 hsz9 l1 l2 HM9 hq
  go_wp2_with fail
  refine Calls.mono HRB.out ?_
  rintro e w11 ⟨ga2, gc2, rfl, hrow11, hbuf11, hs11⟩
  have hkp11 : Keep5 w w11 B D P len da g a0 a1 := HKP10.out.same (by omega) hs11 (fun k e => ⟨by omega, .inr (by omega)⟩) hbuf11
  have HKP11 : Hid (Keep5 w w11 B D P len da g a0 a1) := hkp11
  clear hkp11 hs11 hbuf11 HRB HKP10 l3
  rcases HQ.out with ⟨hbm, rfl⟩ | ⟨hbm, rfl⟩
  · obtain ⟨h3, hg0, hg1, hg2⟩ := hbm
    obtain ⟨m, rfl⟩ : ∃ m, len = m + 3 := ⟨len - 3, by omega⟩
    obtain ⟨rfl, hOD⟩ : da = some ⟨D, 0, none⟩ ∧ Own w11 D (m + 3) .u8 5 g := by
      rcases HKP11.out.data with e | e
      · omega
      · exact e
    have e33 : m + 3 - 3 = m := by omega
    rw [e33] at hrow11 ⊢
    clear e33
    have hdf := equal_diff ga2 (some ⟨D, 0, none⟩) m (m + 3) gc2 (m + 3) w11 (by omega) (by omega) (by omega)
    have HDF : Hid _ := hdf
    have HOD : Hid (Own w11 D (m + 3) .u8 5 g) := hOD
    have HROW : Hid _ := hrow11
    have HG0 : Hid (g 0 = 239) := hg0
    have HG1 : Hid (g 1 = 187) := hg1
    have HG2 : Hid (g 2 = 191) := hg2
    clear hdf hOD hrow11 hg0 hg1 hg2 HDN HQ
    go_wp2_with fail
    refine Calls.mono HDF.out ?_
    rintro e w12 ⟨rfl, hst12⟩
    have d0 : w12.cell? ⟨D, 0, none⟩ = some (.int .u8 239) := by rw [hst12.cell, HOD.out.cell (by omega), HG0.out]
    have d1 : w12.cell? ⟨D, 1, none⟩ = some (.int .u8 187) := by rw [hst12.cell, HOD.out.cell (by omega), HG1.out]
    have d2 : w12.cell? ⟨D, 2, none⟩ = some (.int .u8 191) := by rw [hst12.cell, HOD.out.cell (by omega), HG2.out]
    have HBEL : Hid (Below B w w12) := HKP11.out.bel.trans (hst12.below _)
    have HOD12 : Hid (Own w12 D (m + 3) .u8 5 g) := HOD.out.keep (hst12.blk D)
    have HROW12 : Hid (Row w12 w11.heap.size .u8 ga2 m (fun i => g (3 + i))) := HROW.out.below (hst12.below _)
    clear HOD HROW HDF hst12 HKP11
    rcases Nat.eq_zero_or_pos m with rfl | hm0
    · go_wp2_with fail
      refine Calls.mono (equal_none _ _ _ _ w12) ?_
      rintro e w13 ⟨rfl, hst13⟩
      go_wp2_with fail
      go_ret
      exact ⟨rfl, by rw [HBE.out]; exact HBEL.out.trans (hst13.below _)⟩
    · have hm1 : ¬ m = 0 := by omega
      go_wp2_with fail
      refine Calls.mono (equal_any (some ⟨D, 3, none⟩) ga2 m _ gc2 _ _ (fun i => g (3 + i)) (fun i => g (3 + i)) w12 (by omega) (row_part HOD12.out (by omega)) HROW12.out (fun _ _ => rfl)) ?_
      rintro e w13 ⟨rfl, hst13⟩
      go_wp2_with fail
      go_ret
      exact ⟨rfl, by rw [HBE.out]; exact HBEL.out.trans (hst13.below _)⟩
  · have heq := equal_any ga2 da (len - 0) gc2 len _ _ (fun i => g (0 + i)) g w11 (by omega) hrow11 (row_data HKP11.out.data) (fun i _ => by rw [Nat.zero_add])
    have HEQ : Hid _ := heq
    clear heq hrow11
    go_wp2_with fail
    refine Calls.mono HEQ.out ?_
    rintro e w12 ⟨rfl, hst12⟩
    go_wp2_with fail
    go_ret
    exact ⟨rfl, by rw [HBE.out]; exact HKP11.out.bel.trans (hst12.below _)⟩
end Go.Proofs.Qxb6615636aDoor
