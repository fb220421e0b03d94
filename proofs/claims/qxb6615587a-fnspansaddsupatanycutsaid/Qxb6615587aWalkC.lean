/-
  THE WALKS of zzFillReach and ZZnewSubnetIndex (seat b6615587a).
-/
import Derived.Test.Qxb6615587aWalkB
namespace Go.Proofs.Qxb6615587a
open Go.ChangeShapes Go.WideShapes Go.ChangeAt Go.RowKit
set_option linter.unusedVariables false

/-- What zzFillReach leaves. -/
def FillPost (f r : Nat → Int) (g n m a t : Nat) (w w' : World) : Prop :=
  ∃ r', Own w' g n .u16 45 r' ∧ RK f r' m a t ∧ (∀ i, i < a ∨ t ≤ i → r' i = r i) ∧ Same (· = g) w w'

theorem fill_short (ao : Option Addr) (len cap g n m a t : Nat) (f r : Nat → Int) (w : World) (h : t ≤ a + 32) (hat : a ≤ t) (htn : t ≤ n) (hn : n ≤ 65536) (ho : Own w g n .u16 45 r) :
    Calls Try.prog 8 #[.slice ao len cap, .slice (some ⟨g, 0, none⟩) n n, .int .i64 a, .int .i64 t] w fun e w' => e = .returned (.tuple #[]) ∧ FillPost f r g n m a t w w' := by
  go_enter Try.func8, Try.ntmps8
  go_wp2_with fail
  refine bodyPost_ret (results_none rfl _ _ _) rfl ?_
  refine ⟨rfl, r, ho, ?_, fun _ _ => rfl, Same.refl _ _⟩
  cases m with
  | zero => trivial
  | succ m => exact .inl h

set_option maxHeartbeats 1000000 in
theorem fill_long (b off len cap g n : Nat) (f : Nat → Int) (hf : ∀ i, 0 ≤ f i ∧ f i ≤ 4294967295) (hn : n ≤ 65536) (hnl : n ≤ len) (hbg : b ≠ g) (m : Nat) : ∀ (a t : Nat) (r : Nat → Int) (w : World), t ≤ a + m → a ≤ t → t ≤ n → b < w.heap.size → Own w g n .u16 45 r →
    (∀ i, i < n → w.cell? ⟨b, off + i, none⟩ = some (.int .u32 (f i))) →
    Calls Try.prog 8 #[.slice (some ⟨b, off, none⟩) len cap, .slice (some ⟨g, 0, none⟩) n n, .int .i64 a, .int .i64 t] w fun e w' => e = .returned (.tuple #[]) ∧ FillPost f r g n m a t w w' := by
  induction m with
  | zero => intro a t r w h1 h2 h3 _ ho _; exact fill_short _ _ _ _ _ _ _ _ _ _ _ (by omega) h2 h3 hn ho
  | succ m ih =>
    intro a t r w h1 h2 h3 hbw ho hc
    by_cases hs : t ≤ a + 32
    · exact fill_short _ _ _ _ _ _ _ _ _ _ _ hs h2 h3 hn ho
    · have hs' : (32 : Int) < (t : Int) - (a : Int) := by omega
      have IH := ih
      have IHH : Hid _ := IH
      clear IH ih
      go_enter Try.func8, Try.ntmps8
      go_wp2_with fail
      go_loop [9, 10] (fun top i => ∃ k : Nat, a ≤ k ∧ k ≤ t ∧ i = .int .i64 k ∧ ∃ T : Int, top = .int .u16 T ∧ 0 ≤ T ∧ T ≤ 65535 ∧ ∀ j, a ≤ j → j < k → hi (f j) ≤ T) (fun _ i => t - (intOf i).toNat)
      case atStart => exact ⟨a, Nat.le_refl _, h2, rfl, 0, rfl, by omega, by omega, fun j x y => by omega⟩
      case round =>
        obtain ⟨k, hk1, hk2, rfl, T, rfl, hT0, hT1, hT⟩ := hrel
        by_cases hlt : k < t
        · have c1 := hc k (by omega)
          obtain ⟨q0, q1⟩ := hf k
          have HT : Hid (∀ j, a ≤ j → j < k → hi (f j) ≤ T) := hT
          clear hT hc
          go_wp2_with fail
          · go_round
            case rel => exact ⟨k + 1, by omega, by omega, by go_num, _, rfl, by omega, by omega, fun j x y => by
              by_cases e : j = k
              · subst e; exact Int.le_refl _
              · have := HT.out j x (by omega); omega⟩
            case measure => simp [intOf]; omega
          · go_round
            case rel => exact ⟨k + 1, by omega, by omega, by go_num, _, rfl, by omega, by omega, fun j x y => by
              by_cases e : j = k
              · subst e; assumption
              · exact HT.out j x (by omega)⟩
            case measure => simp [intOf]; omega
        · have hrn : (a + t) / 2 < n := by omega
          have c2 := ho.cell hrn
          have c3 := ho.free ((a + t) / 2)
          have HT : Hid (∀ j, a ≤ j → j < k → hi (f j) ≤ T) := hT
          have HC : Hid (∀ i, i < n → w.cell? ⟨b, off + i, none⟩ = some (.int .u32 (f i))) := hc
          clear hT hc
          go_wp2_with fail
          have er : ((a : Int) + (t : Int)) / 2 = (((a + t) / 2 : Nat) : Int) := by omega
          rw [er]
          clear er c2 c3
          have hset := ho.set hrn T
          have hc1 : ∀ i, i < n → (w.setCell ⟨g, (a + t) / 2, none⟩ (.int .u16 T)).cell? ⟨b, off + i, none⟩ = some (.int .u32 (f i)) := fun i hi => by
            rw [cell_set_other hbg]; exact HC.out i hi
          have hs1 : Same (· = g) w (w.setCell ⟨g, (a + t) / 2, none⟩ (.int .u16 T)) := Same.set_at w g _ _
          have hsz1 : b < (w.setCell ⟨g, (a + t) / 2, none⟩ (.int .u16 T)).heap.size := by simpa using hbw
          generalize w.setCell ⟨g, (a + t) / 2, none⟩ (.int .u16 T) = w1 at *
          refine (IHH.out a ((a + t) / 2) _ w1 (by omega) (by omega) (by omega) hsz1 hset hc1).mono ?_
          rintro e w2 ⟨rfl, r2, ho2, hrk2, hout2, hs2⟩
          have hc2 : ∀ i, i < n → w2.cell? ⟨b, off + i, none⟩ = some (.int .u32 (f i)) := fun i hi => (hs2.cell (p := ⟨b, off + i, none⟩) hsz1 hbg).trans (hc1 i hi)
          have hsz2 : b < w2.heap.size := Nat.lt_of_lt_of_le hsz1 hs2.size
          have HC2 : Hid (∀ i, i < n → w2.cell? ⟨b, off + i, none⟩ = some (.int .u32 (f i))) := hc2
          have HO2 : Hid (∀ i, i < a ∨ (a + t) / 2 ≤ i → r2 i = if i = (a + t) / 2 then T else r i) := hout2
          clear hc1 hc2 hout2
          go_wp2_with fail
          have er2 : ((a : Int) + (t : Int)) / 2 + 1 = (((a + t) / 2 + 1 : Nat) : Int) := by omega
          rw [er2]
          clear er2
          refine (IHH.out ((a + t) / 2 + 1) t _ w2 (by omega) (by omega) (by omega) hsz2 ho2 HC2.out).mono ?_
          rintro e w3 ⟨rfl, r3, ho3, hrk3, hout3, hs3⟩
          have HO3 : Hid _ := hout3
          clear hout3
          go_wp2_with fail
          go_end0
          refine ⟨rfl, r3, ho3, .inr ?_, ?_, (hs1.trans hs2 (fun _ _ h => h)).trans hs3 (fun _ _ h => h)⟩
          · have e1 : r3 ((a + t) / 2) = T := by
              rw [HO3.out _ (.inl (by omega)), HO2.out _ (.inr (Nat.le_refl _)), if_pos rfl]
            refine ⟨fun i x y => ?_, ?_, ?_, hrk3⟩
            · rw [e1]; exact HT.out i x (by omega)
            · rw [e1]; exact ⟨hT0, hT1⟩
            · exact hrk2.congr _ _ _ (fun i x y => (HO3.out i (.inl (by omega))).symm)
          · intro i hi
            rw [HO3.out i (by omega), HO2.out i (by omega), if_neg (by omega)]

theorem fill_any (ao : Option Addr) (len cap g a t : Nat) (f r : Nat → Int) (w : World) (hf : ∀ i, 0 ≤ f i ∧ f i ≤ 4294967295) (hn : len ≤ 65536) (hr : Row w g .u32 ao len f) (ho : Own w g len .u16 45 r) (hat : a ≤ t) (htn : t ≤ len) :
    Calls Try.prog 8 #[.slice ao len cap, .slice (some ⟨g, 0, none⟩) len len, .int .i64 a, .int .i64 t] w fun e w' => e = .returned (.tuple #[]) ∧ FillPost f r g len len a t w w' := by
  rcases Nat.eq_zero_or_pos len with h0 | h0
  · exact fill_short _ _ _ _ _ _ _ _ _ _ _ (by omega) hat htn hn ho
  · obtain ⟨b, off, rfl, hB, hc⟩ := hr.cells h0
    exact fill_long b off len cap g len f hf hn (Nat.le_refl _) (by omega) len a t r w (by omega) hat htn (by have := ho.lt; omega) ho hc

theorem Try.info47 : (Try.prog.info? 47).map (fun i => (i.zero, i.size, i.bytes)) = some (some (.int .u32 0), 1, 4) := by kernel_rfl

/-- A subnetIndex at block X, its words, codes and reach: all below block B. -/
structure Idx (w : World) (B X : Nat) (wa ca ra : Option Addr) (n wcap nc : Nat) (f c r : Nat → Int) : Prop where
  lt : X < B
  cw : w.cell? ⟨X, 14, none⟩ = some (.slice wa n wcap)
  cc : w.cell? ⟨X, 15, none⟩ = some (.slice ca nc nc)
  cr : w.cell? ⟨X, 16, none⟩ = some (.slice ra n n)
  rw : Row w B .u32 wa n f
  rc : Row w B .u32 ca nc c
  rr : Row w B .u16 ra n r

theorem Idx.below {w w' : World} {B X : Nat} {wa ca ra : Option Addr} {n wcap nc : Nat} {f c r : Nat → Int} (h : Idx w B X wa ca ra n wcap nc f c r) (hb : Below B w w') : Idx w' B X wa ca ra n wcap nc f c r :=
  ⟨h.lt, (hb.cell (p := ⟨X, 14, none⟩) h.lt).trans h.cw, (hb.cell (p := ⟨X, 15, none⟩) h.lt).trans h.cc, (hb.cell (p := ⟨X, 16, none⟩) h.lt).trans h.cr, h.rw.below hb, h.rc.below hb, h.rr.below hb⟩
theorem Idx.mono {w : World} {B B' X : Nat} {wa ca ra : Option Addr} {n wcap nc : Nat} {f c r : Nat → Int} (h : Idx w B X wa ca ra n wcap nc f c r) (hb : B ≤ B') : Idx w B' X wa ca ra n wcap nc f c r :=
  ⟨Nat.lt_of_lt_of_le h.lt hb, h.cw, h.cc, h.cr, h.rw.mono hb, h.rc.mono hb, h.rr.mono hb⟩

/-- What ZZnewSubnetIndex gives. -/
def NewPost (w : World) (wa ra : Option Addr) (n wcap nc : Nat) (f c r : Nat → Int) (e : Ending) (w' : World) : Prop :=
  ∃ X ca, e = .returned (.pointer (some ⟨X, 0, none⟩)) ∧ Idx w' w'.heap.size X wa ca ra n wcap nc f c r ∧ Below w.heap.size w w'

theorem new_end {w wr : World} {wa ra : Option Addr} {n wcap nc S : Nat} {f c r : Nat → Int} {C : Array Value} (h14 : C[14]? = some (.slice wa n wcap)) (h15 : C[15]? = some (.slice (some ⟨S, 0, none⟩) nc nc)) (h16 : C[16]? = some (.slice ra n n))
    (hc : nc = 0 ∨ Own wr S nc .u32 47 c) (hbel : Below w.heap.size w wr) (hw : Row w w.heap.size .u32 wa n f) (hr : Row w w.heap.size .u16 ra n r) :
    NewPost w wa ra n wcap nc f c r (.returned (.pointer (some ⟨wr.heap.size, 0, none⟩))) (wr.alloc (.cells C 59)) := by
  have hb1 : Below wr.heap.size wr (wr.alloc (.cells C 59)) := (Below.refl _ _).alloc (Nat.le_refl _) _
  have hb2 : Below w.heap.size w (wr.alloc (.cells C 59)) := hbel.alloc hbel.size _
  have hsz : (wr.alloc (.cells C 59)).heap.size = wr.heap.size + 1 := World.size_alloc _ _
  refine ⟨wr.heap.size, some ⟨S, 0, none⟩, rfl, ⟨by omega, ?_, ?_, ?_, (hw.below hb2).mono (by have := hbel.size; omega), ?_, (hr.below hb2).mono (by have := hbel.size; omega)⟩, hb2⟩
  · rw [World.cell?_alloc_at C 59 wr.heap.size 14 rfl]; exact h14
  · rw [World.cell?_alloc_at C 59 wr.heap.size 15 rfl]; exact h15
  · rw [World.cell?_alloc_at C 59 wr.heap.size 16 rfl]; exact h16
  · rcases hc with h0 | hc
    · exact ⟨fun h => by omega⟩
    · exact (hc.row.below hb1).mono (by omega)

theorem new_zero (wa ra ca : Option Addr) (n wcap ccap : Nat) (f c r : Nat → Int) (w : World) (hw : Row w w.heap.size .u32 wa n f) (hr : Row w w.heap.size .u16 ra n r) :
    Calls Try.prog 9 #[.slice wa n wcap, .slice ca 0 ccap, .slice ra n n] w fun e w' => NewPost w wa ra n wcap 0 f c r e w' := by
  obtain ⟨i0, hi, hz0, hz1, hz2⟩ := info_parts Try.info47
  go_enter Try.func9, Try.ntmps9
  go_wp2_with (at_make; refine wpList_make_full _ rfl _ _ 46 rfl w.heap.size 47 i0 (.int .u32 0) 1 Try.underlying46 hi hz0 hz1 .i64 .i64 _ _ 0 rfl rfl rfl rfl (by rw [hz2]; omega) (by unfold maxLen; omega) (Nat.le_refl _) ?_)
  intro w1 hown hgrow
  have hb := below_made hgrow
  clear hown hgrow
  go_wp2
  refine wp_loop_rounds 1 ?_
  rw [rounds_succ]
  go_wp2
  go_ret
  exact new_end rfl rfl rfl (.inl rfl) hb hw hr

set_option maxHeartbeats 400000 in
theorem new_some (wa ra : Option Addr) (n wcap b off nc ccap : Nat) (f c r : Nat → Int) (w : World) (hn : nc ≤ 65536) (hbw : b < w.heap.size) (hw : Row w w.heap.size .u32 wa n f) (hr : Row w w.heap.size .u16 ra n r)
    (hc : ∀ i, i < nc → w.cell? ⟨b, off + i, none⟩ = some (.int .u32 (c i))) :
    Calls Try.prog 9 #[.slice wa n wcap, .slice (some ⟨b, off, none⟩) nc ccap, .slice ra n n] w fun e w' => NewPost w wa ra n wcap nc f c r e w' := by
  obtain ⟨i0, hi, hz0, hz1, hz2⟩ := info_parts Try.info47
  go_enter Try.func9, Try.ntmps9
  go_wp2_with (at_make; refine wpList_make_full _ rfl _ _ 46 rfl w.heap.size 47 i0 (.int .u32 0) 1 Try.underlying46 hi hz0 hz1 .i64 .i64 _ _ nc rfl rfl rfl rfl (by rw [hz2]; omega) (by unfold maxLen; omega) (Nat.le_refl _) ?_)
  intro w1 hown hgrow
  have hb := below_made hgrow
  have ho := Own.of_made1 hown
  clear hown hgrow
  go_wp2
  go_loopw [14] (fun i wr => ∃ k : Nat, k ≤ nc ∧ i = .int .i64 k ∧ Own wr w.heap.size nc .u32 47 (fun j => if j < k then c j else 0) ∧ Below w.heap.size w wr) (fun i _ => nc - (intOf i).toNat)
  case atStart => exact ⟨0, Nat.zero_le _, rfl, ho.congr (fun i _ => by simp), hb⟩
  case round =>
    obtain ⟨k, hk, rfl, hor, hbel⟩ := hrel
    by_cases hlt : k < nc
    · have c1 : wr.cell? ⟨b, off + k, none⟩ = some (.int .u32 (c k)) := (hbel.cell (p := ⟨b, off + k, none⟩) hbw).trans (hc k hlt)
      have c2 := hor.cell hlt
      have c3 := hor.free k
      clear hb ho hc
      go_wp2
      go_roundw
      case rel => exact ⟨k + 1, by omega, by go_num, (hor.set hlt (c k)).congr (fun i hi => by by_cases e : i = k <;> simp [e]; by_cases e2 : i < k <;> simp [e2] <;> omega), hbel.setCell (Nat.le_refl _) _⟩
      case measure => simp [intOf]; omega
    · go_wp2
      go_ret
      exact new_end rfl rfl rfl (.inr (hor.congr (fun i hi => by rw [if_pos (by omega)]))) hbel hw hr

theorem new_any (wa ra ca : Option Addr) (n wcap nc ccap : Nat) (f c r : Nat → Int) (w : World) (hn : nc ≤ 65536) (hw : Row w w.heap.size .u32 wa n f) (hc : Row w w.heap.size .u32 ca nc c) (hr : Row w w.heap.size .u16 ra n r) :
    Calls Try.prog 9 #[.slice wa n wcap, .slice ca nc ccap, .slice ra n n] w fun e w' => NewPost w wa ra n wcap nc f c r e w' := by
  rcases Nat.eq_zero_or_pos nc with h0 | h0
  · subst h0
    exact new_zero wa ra ca n wcap ccap f c r w hw hr
  · obtain ⟨b, off, rfl, hB, hcc⟩ := hc.cells h0
    exact new_some wa ra n wcap b off nc ccap f c r w hn hB hw hr hcc
end Go.Proofs.Qxb6615587a
