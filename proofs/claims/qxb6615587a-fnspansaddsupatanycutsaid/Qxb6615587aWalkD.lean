/-
  THE WALK of (*subnetIndex).leaf (seat b6615587a).
-/
import Derived.Test.Qxb6615587aWalkC
import Derived.Test.Qxb6615587aFound
import Derived.Deep.RegionLaw
import Derived.Deep.DrawnRows
namespace Go.Proofs.Qxb6615587a
open Go.ChangeShapes Go.WideShapes Go.ChangeAt Go.RowKit
set_option linter.unusedVariables false

theorem Try.info64 : (Try.prog.info? 64).map (fun i => (i.zero, i.size, i.bytes)) = some (some (.agg #[.int .u64 0, .int .u32 0]), 2, 16) := by kernel_rfl

/-- What is appended for the places hs. -/
def outs (f c : Nat → Int) (base : Int) (hs : List Nat) : List (Int × Int) := hs.map (fun i => (bits .or .u64 base (key (f i)), c i))
/-- The key that leaf keeps beside its best place. -/
def bkey (f : Nat → Int) (b : Int) : Int := if b < 0 then 4294967295 else key (f b.toNat)

/-- The pointer 'found' as a value. -/
def fval (fp : Option Nat) : Value := .pointer (fp.map (fun F => ⟨F, 0, none⟩))

/-- What leaf and spans give. -/
def SpanPost (B : Nat) (fp : Option Nat) (f c : Nat → Int) (base n : Int) (a t : Nat) (v : Value) (items : List (Int × Int)) (w : World) (e : Ending) (w' : World) : Prop :=
  e = .returned (.tuple #[.int .i64 ((hits f n a t).length : Int), .int .i64 (bestOf f (hits f n a t))]) ∧
  ∃ v', FInv B fp w' v' (items ++ outs f c base (hits f n a t)) ∧ Touch fp w w' v v'

/-- Where leaf stands behind k rounds. -/
def Link (f c : Nat → Int) (base n : Int) (a k : Nat) (items : List (Int × Int)) (cN : Nat) (be bk : Int) (its : List (Int × Int)) : Prop :=
  cN = (hits f n a (a + k)).length ∧ be = bestOf f (hits f n a (a + k)) ∧ bk = bkey f be ∧ its = items ++ outs f c base (hits f n a (a + k))

theorem Link.start (f c : Nat → Int) (base n : Int) (a : Nat) (items : List (Int × Int)) : Link f c base n a 0 items 0 (-1) 4294967295 items := by
  have e : hits f n a (a + 0) = [] := hits_self f n a
  unfold Link
  rw [e]
  exact ⟨rfl, rfl, rfl, by simp [outs]⟩

theorem Link.bounds {f c : Nat → Int} {base n : Int} {a k : Nat} {items : List (Int × Int)} {cN : Nat} {be bk : Int} {its : List (Int × Int)} (h : Link f c base n a k items cN be bk its) : cN ≤ k ∧ -1 ≤ be ∧ its.length ≤ items.length + k := by
  obtain ⟨h1, h2, h3, h4⟩ := h
  have := hits_length f n a (a + k)
  refine ⟨by omega, by rw [h2]; exact bestOf_ge f _, ?_⟩
  rw [h4]
  simp [outs]
  omega

theorem Link.miss {f c : Nat → Int} {base n : Int} {a k : Nat} {items : List (Int × Int)} {cN : Nat} {be bk : Int} {its : List (Int × Int)} (h : Link f c base n a k items cN be bk its) (hm : hit f n (a + k) = false) : Link f c base n a (k + 1) items cN be bk its := by
  unfold Link at *
  have e : hits f n a (a + (k + 1)) = hits f n a (a + k) := by
    have := hits_succ f n a (a + k) (by omega)
    rw [hm] at this
    simpa [Nat.add_assoc] using this
  rw [e]
  exact h

theorem Link.hit {f c : Nat → Int} {base n : Int} {a k : Nat} {items : List (Int × Int)} {cN : Nat} {be bk : Int} {its : List (Int × Int)} (h : Link f c base n a k items cN be bk its) (hm : hit f n (a + k) = true)
    (hk : key (f (a + k)) < 4294967295) (be' : Int) (hbe : be' = if key (f (a + k)) < bk then ((a + k : Nat) : Int) else be) :
    Link f c base n a (k + 1) items (cN + 1) be' (bkey f be') (its ++ [(bits .or .u64 base (key (f (a + k))), c (a + k))]) := by
  unfold Link at *
  obtain ⟨h1, h2, h3, h4⟩ := h
  have e : hits f n a (a + (k + 1)) = hits f n a (a + k) ++ [a + k] := by
    have := hits_succ f n a (a + k) (by omega)
    rw [hm] at this
    simpa [Nat.add_assoc] using this
  rw [e]
  refine ⟨by simp [h1], ?_, rfl, ?_⟩
  · rw [bestOf_snoc, ← h2, hbe]
    unfold better
    rw [h3]
    unfold bkey
    by_cases hb : be < 0
    · simp [hb, hk]
      omega
    · have e2 : ((a + k : Nat) : Int).toNat = a + k := Int.toNat_natCast _
      rw [e2]
      have e3 : (0 : Int) ≤ ((a + k : Nat) : Int) := Int.natCast_nonneg _
      simp only [e3, hb, if_false, false_or, true_and]
  · rw [h4]
    simp [outs]

theorem Link.stop {B : Nat} {fp : Option Nat} {f c : Nat → Int} {base n : Int} {a k t : Nat} {v v' : Value} {items : List (Int × Int)} {cN : Nat} {be bk : Int} {its : List (Int × Int)} {w wr : World} (h : Link f c base n a k items cN be bk its) (he : hits f n a t = hits f n a (a + k))
    (hi : FInv B fp wr v' its) (ht : Touch fp w wr v v') : SpanPost B fp f c base n a t v items w (.returned (.tuple #[.int .i64 (cN : Int), .int .i64 be])) wr := by
  obtain ⟨h1, h2, h3, h4⟩ := h
  unfold SpanPost
  rw [he, h1, h2]
  exact ⟨rfl, v', h4 ▸ hi, ht⟩

theorem bkey_nat (f : Nat → Int) (i : Nat) : bkey f ((i : Nat) : Int) = key (f i) := by
  unfold bkey
  rw [if_neg (by omega), Int.toNat_natCast]

/-- One round that hits, found not nil. -/
theorem leaf_hit {B F gg cap : Nat} {f c : Nat → Int} {base n : Int} {a k : Nat} {v v' : Value} {items its : List (Int × Int)} {cN : Nat} {be bk : Int} {w wr w1 w2 : World} {o : Obj} (hlink : Link f c base n a k items cN be bk its)
    (hinv : FInv B (some F) wr v' its) (htch : Touch (some F) w wr v v') (hm : hit f n (a + k) = true) (hk : key (f (a + k)) < 4294967295) (be' : Int) (hbe : be' = if key (f (a + k)) < bk then ((a + k : Nat) : Int) else be)
    (hown : w1.ownsRow B 64 2 (.slice (some ⟨gg, 0, none⟩) (its.length + 1) cap) (its.length + 1) (flat its ++ [.int .u64 (bits .or .u64 base (key (f (a + k)))), .int .u32 (c (a + k))])) (hgrow : (wr.alloc o).drew.grownBy w1 v'.ownBlock)
    (hat : v'.ownBlock = some gg ∨ gg = wr.heap.size + 1) (hw2 : w2.heap = (w1.setCell ⟨F, 0, none⟩ (.slice (some ⟨gg, 0, none⟩) (its.length + 1) cap)).heap) (ho : w2.os = w1.os) (ht : w2.tape = w1.tape) (hu : w2.output = w1.output) :
    Link f c base n a (k + 1) items (cN + 1) be' (bkey f be') (its ++ [(bits .or .u64 base (key (f (a + k))), c (a + k))]) ∧
    FInv B (some F) w2 (.slice (some ⟨gg, 0, none⟩) (its.length + 1) cap) (its ++ [(bits .or .u64 base (key (f (a + k))), c (a + k))]) ∧ Touch (some F) w w2 v (.slice (some ⟨gg, 0, none⟩) (its.length + 1) cap) := by
  have hb : Below wr.heap.size wr (wr.alloc o).drew := ((Below.refl _ _).alloc (Nat.le_refl _) _).drew
  obtain ⟨p1, p2⟩ := found_step hinv hb (by simp) hown hgrow hat hw2 ho ht hu
  exact ⟨hlink.hit hm hk be' hbe, p1, htch.trans p2⟩

set_option maxHeartbeats 4000000 in
theorem leaf_some (B X b off N : Nat) (cb co : Nat) (ra : Option Addr) (nc F : Nat) (f c r : Nat → Int) (base n : Int) (a t : Nat) (v : Value) (items : List (Int × Int)) (w : World) (hf : ∀ i, 0 ≤ f i ∧ f i ≤ 4294967295)
    (hx : Idx w B X (some ⟨b, off, none⟩) (some ⟨cb, co, none⟩) ra N N nc f c r) (hbB : b < B) (hcB : cb < B) (hcc : ∀ i, i < nc → w.cell? ⟨cb, co + i, none⟩ = some (.int .u32 (c i))) (hwc : ∀ i, i < N → w.cell? ⟨b, off + i, none⟩ = some (.int .u32 (f i)))
    (hN : N ≤ 65536) (hnc : nc ≤ 65536) (hat : a < t) (htN : t ≤ N) (htc : t ≤ nc) (hfit : Fit f a t) (hfi : FInv B (some F) w v items) (hB : B ≤ w.heap.size) (hit : items.length ≤ 1000000) :
    Calls Try.prog 21 #[.pointer (some ⟨X, 0, none⟩), .int .i64 a, .int .i64 t, .int .i64 n, .pointer (some ⟨F, 0, none⟩), .int .u64 base] w fun e w' => SpanPost B (some F) f c base n a t v items w e w' := by
  obtain ⟨i0, hi0, hz0, hz1, hz2⟩ := info_parts Try.info64
  have hcw := hx.cw
  have hcx := hx.cc
  have hXB := hx.lt
  have HW : Hid (∀ i, i < N → w.cell? ⟨b, off + i, none⟩ = some (.int .u32 (f i))) := hwc
  have HCC : Hid (∀ i, i < nc → w.cell? ⟨cb, co + i, none⟩ = some (.int .u32 (c i))) := hcc
  clear hwc hcc
  go_enter Try.func21, Try.ntmps21
  go_wp2_with fail
  go_loopw [14, 15, 16, 29] (fun cnt bst bkv i wr => ∃ k cN : Nat, ∃ be bk : Int, ∃ v' its, k ≤ t - a ∧ i = .int .i64 k ∧ cnt = .int .i64 cN ∧ bst = .int .i64 be ∧ bkv = .int .u32 bk ∧
      Link f c base n a k items cN be bk its ∧ FInv B (some F) wr v' its ∧ Touch (some F) w wr v v') (fun _ _ _ i _ => t - a - (intOf i).toNat)
  case atStart => exact ⟨0, 0, -1, 4294967295, v, items, Nat.zero_le _, rfl, rfl, rfl, rfl, Link.start f c base n a items, hfi, Touch.refl _ _ _⟩
  case round =>
    obtain ⟨k, cN, be, bk, v', its, hk, rfl, rfl, rfl, rfl, hlink, hinv, htch⟩ := hrel
    obtain ⟨lb1, lb2, lb3⟩ := hlink.bounds
    by_cases hlt : k < t - a
    · have hbel := htch.below hfi hB
      have c1 : wr.cell? ⟨b, off + a + k, none⟩ = some (.int .u32 (f (a + k))) := by
        rw [Nat.add_assoc]; exact (hbel.cell (p := ⟨b, off + (a + k), none⟩) hbB).trans (HW.out (a + k) (by omega))
      obtain ⟨q0, q1⟩ := hf (a + k)
      obtain ⟨q2, q3⟩ := hfit.1 (a + k) (by omega) (by omega)
      obtain ⟨q4, q5⟩ := key_bounds q0 q1 q2 q3
      clear hf
      by_cases h1 : n < lo (f (a + k))
      · go_wp2_with (go_at_call 20; refine (lo_any _ _ q0 q1).mono ?_; rintro e w' ⟨rfl, rfl⟩)
        go_ret2
        exact hlink.stop (by rw [hits_cut f n a (a + k) t (by omega) (by omega), hits_high hfit (by omega) h1]; simp) hinv htch
      · by_cases h2 : n ≤ hi (f (a + k))
        · have hbk : bk = bkey f be := hlink.2.2.1
          have HBK : Hid (bk = bkey f be) := hbk
          clear hbk
          obtain ⟨ao, vn, vc, rfl⟩ := hinv.shape
          have hvar := cell_of_one hinv.2.1
          have hfree := free_of_one hinv.2.1
          have hFlt := hinv.var_lt
          have hap := hinv.apart
          have hfa : ∀ o, (wr.alloc o).frozen? ⟨F, 0, none⟩ = false := fun o => by rw [World.frozen?_alloc_past o F 0 hFlt]; exact hfree
          have hown := hinv.2.2
          have hapX : (Value.slice ao vn vc).ownBlock ≠ some X := fun e => by have := hinv.own_lt X e; omega
          have hapC : (Value.slice ao vn vc).ownBlock ≠ some cb := fun e => by have := hinv.own_lt cb e; omega
          have hFB := hinv.1
          have hsz := htch.same.size
          have c2 : wr.cell? ⟨X, 15, none⟩ = some (.slice (some ⟨cb, co, none⟩) nc nc) := (hbel.cell (p := ⟨X, 15, none⟩) hXB).trans hcx
          have c3 : wr.cell? ⟨cb, co + (a + k), none⟩ = some (.int .u32 (c (a + k))) := (hbel.cell (p := ⟨cb, co + (a + k), none⟩) hcB).trans (HCC.out (a + k) (by omega))
          have k0 : (0 : Int) ≤ (a : Int) + (k : Int) := by omega
          have k1 : (a : Int) + (k : Int) < (nc : Int) := by omega
          have e1 := wrap_sum a k (by omega)
          have e2 := toNat_sum a k
          have e3 := wrap_u64_key q4 q5
          by_cases h3 : key (f (a + k)) < bk
          · go_wp2_with (first | (go_at_call 20; refine (lo_any _ _ q0 q1).mono ?_; rintro e w' ⟨rfl, rfl⟩) | (go_at_call 22; refine (hi_any _ _ q0 q1).mono ?_; rintro e w' ⟨rfl, rfl⟩) | (go_at_call 19; refine (key_any _ _ q0 q1 q3).mono ?_; rintro e w' ⟨rfl, rfl⟩))
            go_region_law ((refine step_append_lies _ (by rfl) _ _ _ (by rfl) B 64 i0 _ 2 16 Try.underlying62 hi0 hz0 hz1 hz2 rfl (by omega) (.slice ao vn vc) its.length (flat its) (by rfl) ((hown.alloc _).drew) ⟨wr.heap.size, 0, none⟩ 1 1 [.int .u64 (bits .or .u64 base (key (f (a + k)))), .int .u32 (c (a + k))] (by rfl) (by rfl) (World.news_of_block (cs := #[.int .u64 (bits .or .u64 base (key (f (a + k)))), .int .u32 (c (a + k))]) (t := 64) (fr := (0, 0)) (heap_alloc_new wr _)) (by simp [Value.oneCell']) (by omega) (by unfold maxLen; omega) (by omega) (by simp; omega) (wr.heap.size + 1) (by simp) ?_; intro gg cap w1 hown1 hgrow hat1 hlt1; have hg1 := (hgrow.cell_far ⟨F, 0, none⟩ (by simp; omega) (Ne.symm hap)).trans ((World.cell?_alloc_past _ F 0 hFlt).trans hvar); have hg2 := (hgrow.frozen_far ⟨F, 0, none⟩ (by simp; omega) (Ne.symm hap)).trans (hfa _)))
            all_goals
              go_wp2_with fail
              go_roundw
              case rel => exact ⟨k + 1, cN + 1, _, _, _, _, by omega, by go_num, by go_num, rfl, congrArg (Value.int .u32) (bkey_nat f (a + k)).symm, leaf_hit hlink hinv htch (hit_yes (by omega) h2) q5 ((a + k : Nat) : Int) (by rw [if_pos h3]) hown1 hgrow hat1 rfl rfl rfl rfl⟩
              case measure => simp [intOf]; omega
          · go_wp2_with (first | (go_at_call 20; refine (lo_any _ _ q0 q1).mono ?_; rintro e w' ⟨rfl, rfl⟩) | (go_at_call 22; refine (hi_any _ _ q0 q1).mono ?_; rintro e w' ⟨rfl, rfl⟩) | (go_at_call 19; refine (key_any _ _ q0 q1 q3).mono ?_; rintro e w' ⟨rfl, rfl⟩))
            go_region_law ((refine step_append_lies _ (by rfl) _ _ _ (by rfl) B 64 i0 _ 2 16 Try.underlying62 hi0 hz0 hz1 hz2 rfl (by omega) (.slice ao vn vc) its.length (flat its) (by rfl) ((hown.alloc _).drew) ⟨wr.heap.size, 0, none⟩ 1 1 [.int .u64 (bits .or .u64 base (key (f (a + k)))), .int .u32 (c (a + k))] (by rfl) (by rfl) (World.news_of_block (cs := #[.int .u64 (bits .or .u64 base (key (f (a + k)))), .int .u32 (c (a + k))]) (t := 64) (fr := (0, 0)) (heap_alloc_new wr _)) (by simp [Value.oneCell']) (by omega) (by unfold maxLen; omega) (by omega) (by simp; omega) (wr.heap.size + 1) (by simp) ?_; intro gg cap w1 hown1 hgrow hat1 hlt1; have hg1 := (hgrow.cell_far ⟨F, 0, none⟩ (by simp; omega) (Ne.symm hap)).trans ((World.cell?_alloc_past _ F 0 hFlt).trans hvar); have hg2 := (hgrow.frozen_far ⟨F, 0, none⟩ (by simp; omega) (Ne.symm hap)).trans (hfa _)))
            all_goals
              go_wp2_with fail
              go_roundw
              case rel => exact ⟨k + 1, cN + 1, _, _, _, _, by omega, by go_num, by go_num, rfl, congrArg (Value.int .u32) HBK.out, leaf_hit hlink hinv htch (hit_yes (by omega) h2) q5 be (by rw [if_neg (by omega)]) hown1 hgrow hat1 rfl rfl rfl rfl⟩
              case measure => simp [intOf]; omega
        · go_wp2_with (first | (go_at_call 20; refine (lo_any _ _ q0 q1).mono ?_; rintro e w' ⟨rfl, rfl⟩) | (go_at_call 22; refine (hi_any _ _ q0 q1).mono ?_; rintro e w' ⟨rfl, rfl⟩))
          go_roundw
          case rel => exact ⟨k + 1, cN, be, bk, v', its, by omega, by go_num, rfl, rfl, rfl, hlink.miss (hit_hi (by omega)), hinv, htch⟩
          case measure => simp [intOf]; omega
    · go_wp2_with fail
      go_ret2
      exact hlink.stop (by rw [show a + k = t by omega]) hinv htch

/-- One round that hits, found nil. -/
theorem leaf_hit_nil {B : Nat} {f c : Nat → Int} {base n : Int} {a k : Nat} {v v' : Value} {items its : List (Int × Int)} {cN : Nat} {be bk : Int} {w wr : World} (hlink : Link f c base n a k items cN be bk its)
    (htch : Touch none w wr v v') (hm : hit f n (a + k) = true) (hk : key (f (a + k)) < 4294967295) (be' : Int) (hbe : be' = if key (f (a + k)) < bk then ((a + k : Nat) : Int) else be) :
    Link f c base n a (k + 1) items (cN + 1) be' (bkey f be') (its ++ [(bits .or .u64 base (key (f (a + k))), c (a + k))]) ∧
    FInv B none wr v' (its ++ [(bits .or .u64 base (key (f (a + k))), c (a + k))]) ∧ Touch none w wr v v' := ⟨hlink.hit hm hk be' hbe, trivial, htch⟩

set_option maxHeartbeats 2000000 in
theorem leaf_nil (B X b off N : Nat) (ca ra : Option Addr) (nc : Nat) (f c r : Nat → Int) (base n : Int) (a t : Nat) (v : Value) (items : List (Int × Int)) (w : World) (hf : ∀ i, 0 ≤ f i ∧ f i ≤ 4294967295)
    (hx : Idx w B X (some ⟨b, off, none⟩) ca ra N N nc f c r) (hbB : b < B) (hwc : ∀ i, i < N → w.cell? ⟨b, off + i, none⟩ = some (.int .u32 (f i)))
    (hN : N ≤ 65536) (hat : a < t) (htN : t ≤ N) (hfit : Fit f a t) (hB : B ≤ w.heap.size) :
    Calls Try.prog 21 #[.pointer (some ⟨X, 0, none⟩), .int .i64 a, .int .i64 t, .int .i64 n, .pointer none, .int .u64 base] w fun e w' => SpanPost B none f c base n a t v items w e w' := by
  have hcw := hx.cw
  have hXB := hx.lt
  have HW : Hid (∀ i, i < N → w.cell? ⟨b, off + i, none⟩ = some (.int .u32 (f i))) := hwc
  clear hwc
  go_enter Try.func21, Try.ntmps21
  go_wp2_with fail
  go_loopw [14, 15, 16, 29] (fun cnt bst bkv i wr => ∃ k cN : Nat, ∃ be bk : Int, ∃ v' its, k ≤ t - a ∧ i = .int .i64 k ∧ cnt = .int .i64 cN ∧ bst = .int .i64 be ∧ bkv = .int .u32 bk ∧
      Link f c base n a k items cN be bk its ∧ FInv B none wr v' its ∧ Touch none w wr v v') (fun _ _ _ i _ => t - a - (intOf i).toNat)
  case atStart => exact ⟨0, 0, -1, 4294967295, v, items, Nat.zero_le _, rfl, rfl, rfl, rfl, Link.start f c base n a items, trivial, Touch.refl _ _ _⟩
  case round =>
    obtain ⟨k, cN, be, bk, v', its, hk, rfl, rfl, rfl, rfl, hlink, hinv, htch⟩ := hrel
    obtain ⟨lb1, lb2, lb3⟩ := hlink.bounds
    by_cases hlt : k < t - a
    · have hbel := htch.below (B := B) (items := []) trivial hB
      have c1 : wr.cell? ⟨b, off + a + k, none⟩ = some (.int .u32 (f (a + k))) := by
        rw [Nat.add_assoc]; exact (hbel.cell (p := ⟨b, off + (a + k), none⟩) hbB).trans (HW.out (a + k) (by omega))
      obtain ⟨q0, q1⟩ := hf (a + k)
      obtain ⟨q2, q3⟩ := hfit.1 (a + k) (by omega) (by omega)
      obtain ⟨q4, q5⟩ := key_bounds q0 q1 q2 q3
      clear hf
      by_cases h1 : n < lo (f (a + k))
      · go_wp2_with (go_at_call 20; refine (lo_any _ _ q0 q1).mono ?_; rintro e w' ⟨rfl, rfl⟩)
        go_ret2
        exact hlink.stop (by rw [hits_cut f n a (a + k) t (by omega) (by omega), hits_high hfit (by omega) h1]; simp) hinv htch
      · by_cases h2 : n ≤ hi (f (a + k))
        · have HBK : Hid (bk = bkey f be) := hlink.2.2.1
          by_cases h3 : key (f (a + k)) < bk
          · go_wp2_with (first | (go_at_call 20; refine (lo_any _ _ q0 q1).mono ?_; rintro e w' ⟨rfl, rfl⟩) | (go_at_call 22; refine (hi_any _ _ q0 q1).mono ?_; rintro e w' ⟨rfl, rfl⟩) | (go_at_call 19; refine (key_any _ _ q0 q1 q3).mono ?_; rintro e w' ⟨rfl, rfl⟩))
            go_roundw
            case rel => exact ⟨k + 1, cN + 1, _, _, v', _, by omega, by go_num, by go_num, rfl, congrArg (Value.int .u32) (bkey_nat f (a + k)).symm, leaf_hit_nil hlink htch (hit_yes (by omega) h2) q5 ((a + k : Nat) : Int) (by rw [if_pos h3])⟩
            case measure => simp [intOf]; omega
          · go_wp2_with (first | (go_at_call 20; refine (lo_any _ _ q0 q1).mono ?_; rintro e w' ⟨rfl, rfl⟩) | (go_at_call 22; refine (hi_any _ _ q0 q1).mono ?_; rintro e w' ⟨rfl, rfl⟩) | (go_at_call 19; refine (key_any _ _ q0 q1 q3).mono ?_; rintro e w' ⟨rfl, rfl⟩))
            go_roundw
            case rel => exact ⟨k + 1, cN + 1, _, _, v', _, by omega, by go_num, by go_num, rfl, congrArg (Value.int .u32) HBK.out, leaf_hit_nil hlink htch (hit_yes (by omega) h2) q5 be (by rw [if_neg (by omega)])⟩
            case measure => simp [intOf]; omega
        · go_wp2_with (first | (go_at_call 20; refine (lo_any _ _ q0 q1).mono ?_; rintro e w' ⟨rfl, rfl⟩) | (go_at_call 22; refine (hi_any _ _ q0 q1).mono ?_; rintro e w' ⟨rfl, rfl⟩))
          go_roundw
          case rel => exact ⟨k + 1, cN, be, bk, v', its, by omega, by go_num, rfl, rfl, rfl, hlink.miss (hit_hi (by omega)), hinv, htch⟩
          case measure => simp [intOf]; omega
    · go_wp2_with fail
      go_ret2
      exact hlink.stop (by rw [show a + k = t by omega]) hinv htch

end Go.Proofs.Qxb6615587a
