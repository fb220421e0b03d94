/-
  THE WALKS of zzCatU64, zzCatU32 (seat b6615587a).
-/
import Derived.Test.Qxb6615587aWalkI
namespace Go.Proofs.Qxb6615587a
open Go.ChangeShapes Go.WideShapes Go.ChangeAt Go.RowKit
set_option linter.unusedVariables false

/-- The first k values of a function, as cells. -/
def vals (k : IntKind) (f : Nat → Int) (n : Nat) : List Value := (List.range n).map (fun i => .int k (f i))
theorem vals_succ (k : IntKind) (f : Nat → Int) (n : Nat) : vals k f (n + 1) = vals k f n ++ [.int k (f n)] := by simp [vals, List.range_succ]
theorem vals_length (k : IntKind) (f : Nat → Int) (n : Nat) : (vals k f n).length = n := by simp [vals]
theorem vals_at (k : IntKind) (f : Nat → Int) (n i : Nat) (h : i < n) : (vals k f n)[i]? = some (.int k (f i)) := by simp [vals, h]

/-- What zzCat gives: the first la of f, then those of g. -/
def cat (f g : Nat → Int) (la : Nat) (i : Nat) : Int := if i < la then f i else g (i - la)
def CatPost (k : IntKind) (t : TypeId) (f g : Nat → Int) (la lb : Nat) (w : World) (e : Ending) (w' : World) : Prop :=
  ∃ q, e = .returned (.slice (some ⟨q, 0, none⟩) (la + lb) (la + lb)) ∧ Own w' q (la + lb) k t (cat f g la) ∧ Below w.heap.size w w'

theorem cat_end {k : IntKind} {t : TypeId} {f g : Nat → Int} {la lb : Nat} {w w' : World} {q : Nat} (h : w'.ownsRow w.heap.size t 1 (.slice (some ⟨q, 0, none⟩) (la + lb) (la + lb)) (la + lb) (vals k (cat f g la) (la + lb))) (hb : Below w.heap.size w w') :
    CatPost k t f g la lb w (.returned (.slice (some ⟨q, 0, none⟩) (la + lb) (la + lb))) w' := ⟨q, rfl, Own.of_owns h (fun i hi => vals_at k _ _ i hi), hb⟩

set_option maxHeartbeats 1000000 in
theorem cat13_any (b1 o1 la c1 b2 o2 lb c2 : Nat) (f g : Nat → Int) (w : World) (ha : la ≤ 131072) (hb : lb ≤ 131072) (hb1 : b1 < w.heap.size) (hb2 : b2 < w.heap.size) (h1 : ∀ i, i < la → w.cell? ⟨b1, o1 + i, none⟩ = some (.int .u64 (f i))) (h2 : ∀ i, i < lb → w.cell? ⟨b2, o2 + i, none⟩ = some (.int .u64 (g i))) :
    Calls Try.prog 13 #[.slice (some ⟨b1, o1, none⟩) la c1, .slice (some ⟨b2, o2, none⟩) lb c2] w fun e w' => CatPost .u64 23 f g la lb w e w' := by
  obtain ⟨j0, hj0, hjz0, hjz1, hjz2⟩ := info_parts Try.info23
  have H1 : Hid (∀ i, i < la → w.cell? ⟨b1, o1 + i, none⟩ = some (.int .u64 (f i))) := h1
  have H2 : Hid (∀ i, i < lb → w.cell? ⟨b2, o2 + i, none⟩ = some (.int .u64 (g i))) := h2
  clear h1 h2
  go_enter Try.func13, Try.ntmps13
  go_wp2_with (at_make; refine wpList_make_own _ rfl _ _ 31 rfl w.heap.size 23 j0 (.int .u64 0) 1 Try.underlying31 hj0 hjz0 hjz1 .i64 .i64 _ (la + lb) rfl rfl (by omega) (by rw [hjz2]; omega) (by unfold maxLen; omega) (Nat.le_refl _) ?_)
  intro w1 hown1 hgrow1
  have hbel1 := below_made hgrow1
  clear hgrow1
  go_wp2_with fail
  go_loopw [5, 6] (fun v i wr => ∃ k : Nat, k ≤ la ∧ i = .int .i64 k ∧ v = .slice (some ⟨w.heap.size, 0, none⟩) k (la + lb) ∧ wr.ownsRow w.heap.size 23 1 (.slice (some ⟨w.heap.size, 0, none⟩) k (la + lb)) k (vals .u64 (cat f g la) k) ∧ Below w.heap.size w wr) (fun _ i _ => la - (intOf i).toNat)
  case atStart => exact ⟨0, Nat.zero_le _, rfl, rfl, hown1, hbel1⟩
  case round =>
    obtain ⟨k, hk, rfl, rfl, hown, hbel⟩ := hrel
    clear hown1 hbel1
    have hsz := hbel.size
    by_cases hlt : k < la
    · have y1 : wr.cell? ⟨b1, o1 + k, none⟩ = some (.int .u64 (f k)) := (hbel.cell (p := ⟨b1, o1 + k, none⟩) hb1).trans (H1.out k hlt)
      go_wp2_with (at_builtin; refine wpList_append_fits _ rfl _ _ 31 rfl w.heap.size 23 j0 1 Try.underlying31 hj0 hjz1 w.heap.size k (la + lb) (vals .u64 (cat f g la) k) rfl (hown.alloc _) ⟨wr.heap.size, 0, none⟩ 1 1 [.int .u64 (f k)] rfl rfl (cell_one_new _ _ _) (by simp [Value.oneCell']) (by omega) ?_)
      intro w2 hown2 hgrow2
      have hbel2 : Below w.heap.size w w2 := (hbel.alloc hsz _).grown hgrow2 (by simp; omega) (fun q e => by simp at e; omega)
      have e1 : vals .u64 (cat f g la) k ++ [.int .u64 (f k)] = vals .u64 (cat f g la) (k + 1) := by rw [vals_succ]; simp [cat, hlt]
      rw [e1] at hown2
      clear e1 hgrow2 hown
      go_wp2_with fail
      go_roundw
      case rel => exact ⟨k + 1, by omega, by go_num, rfl, hown2, hbel2⟩
      case measure => simp [intOf]; omega
    · have hkn : k = la := by omega
      have HK : Hid (k = la) := hkn
      clear hkn
      go_wp2_with fail
      go_loopw [5, 7] (fun v i wr => ∃ q : Nat, q ≤ lb ∧ i = .int .i64 q ∧ v = .slice (some ⟨w.heap.size, 0, none⟩) (k + q) (la + lb) ∧ wr.ownsRow w.heap.size 23 1 (.slice (some ⟨w.heap.size, 0, none⟩) (k + q) (la + lb)) (k + q) (vals .u64 (cat f g la) (k + q)) ∧ Below w.heap.size w wr) (fun _ i _ => lb - (intOf i).toNat)
      case atStart => exact ⟨0, Nat.zero_le _, rfl, rfl, hown, hbel⟩
      case round =>
        clear hown hbel hsz
        obtain ⟨q, hq, rfl, rfl, hown, hbel⟩ := hrel
        have hsz := hbel.size
        by_cases hlt2 : q < lb
        · have y1 : wr.cell? ⟨b2, o2 + q, none⟩ = some (.int .u64 (g q)) := (hbel.cell (p := ⟨b2, o2 + q, none⟩) hb2).trans (H2.out q hlt2)
          go_wp2_with (at_builtin; refine wpList_append_fits _ rfl _ _ 31 rfl w.heap.size 23 j0 1 Try.underlying31 hj0 hjz1 w.heap.size (k + q) (la + lb) (vals .u64 (cat f g la) (k + q)) rfl (hown.alloc _) ⟨wr.heap.size, 0, none⟩ 1 1 [.int .u64 (g q)] rfl rfl (cell_one_new _ _ _) (by simp [Value.oneCell']) (by omega) ?_)
          intro w2 hown2 hgrow2
          have hbel2 : Below w.heap.size w w2 := (hbel.alloc hsz _).grown hgrow2 (by simp; omega) (fun q e => by simp at e; omega)
          have e1 : vals .u64 (cat f g la) (k + q) ++ [.int .u64 (g q)] = vals .u64 (cat f g la) (k + q + 1) := by
            rw [vals_succ]
            have e2 : cat f g la (k + q) = g q := by unfold cat; rw [if_neg (by omega), HK.out]; congr 1; omega
            rw [e2]
          rw [e1] at hown2
          clear e1 hgrow2 hown
          go_wp2_with fail
          go_roundw
          case rel => exact ⟨q + 1, by omega, by go_num, rfl, hown2, hbel2⟩
          case measure => simp [intOf]; omega
        · go_wp2_with fail
          go_ret
          have e3 : k + q = la + lb := by have := HK.out; omega
          rw [e3] at hown
          exact (congrArg (fun z => Ending.returned (.slice (some ⟨w.heap.size, 0, none⟩) z (la + lb))) e3) ▸ cat_end hown hbel
set_option maxHeartbeats 1000000 in
theorem cat15_any (b1 o1 la c1 b2 o2 lb c2 : Nat) (f g : Nat → Int) (w : World) (ha : la ≤ 131072) (hb : lb ≤ 131072) (hb1 : b1 < w.heap.size) (hb2 : b2 < w.heap.size) (h1 : ∀ i, i < la → w.cell? ⟨b1, o1 + i, none⟩ = some (.int .u32 (f i))) (h2 : ∀ i, i < lb → w.cell? ⟨b2, o2 + i, none⟩ = some (.int .u32 (g i))) :
    Calls Try.prog 15 #[.slice (some ⟨b1, o1, none⟩) la c1, .slice (some ⟨b2, o2, none⟩) lb c2] w fun e w' => CatPost .u32 34 f g la lb w e w' := by
  obtain ⟨j0, hj0, hjz0, hjz1, hjz2⟩ := info_parts Try.info34
  have H1 : Hid (∀ i, i < la → w.cell? ⟨b1, o1 + i, none⟩ = some (.int .u32 (f i))) := h1
  have H2 : Hid (∀ i, i < lb → w.cell? ⟨b2, o2 + i, none⟩ = some (.int .u32 (g i))) := h2
  clear h1 h2
  go_enter Try.func15, Try.ntmps15
  go_wp2_with (at_make; refine wpList_make_own _ rfl _ _ 22 rfl w.heap.size 34 j0 (.int .u32 0) 1 Try.underlying22 hj0 hjz0 hjz1 .i64 .i64 _ (la + lb) rfl rfl (by omega) (by rw [hjz2]; omega) (by unfold maxLen; omega) (Nat.le_refl _) ?_)
  intro w1 hown1 hgrow1
  have hbel1 := below_made hgrow1
  clear hgrow1
  go_wp2_with fail
  go_loopw [5, 6] (fun v i wr => ∃ k : Nat, k ≤ la ∧ i = .int .i64 k ∧ v = .slice (some ⟨w.heap.size, 0, none⟩) k (la + lb) ∧ wr.ownsRow w.heap.size 34 1 (.slice (some ⟨w.heap.size, 0, none⟩) k (la + lb)) k (vals .u32 (cat f g la) k) ∧ Below w.heap.size w wr) (fun _ i _ => la - (intOf i).toNat)
  case atStart => exact ⟨0, Nat.zero_le _, rfl, rfl, hown1, hbel1⟩
  case round =>
    obtain ⟨k, hk, rfl, rfl, hown, hbel⟩ := hrel
    clear hown1 hbel1
    have hsz := hbel.size
    by_cases hlt : k < la
    · have y1 : wr.cell? ⟨b1, o1 + k, none⟩ = some (.int .u32 (f k)) := (hbel.cell (p := ⟨b1, o1 + k, none⟩) hb1).trans (H1.out k hlt)
      go_wp2_with (at_builtin; refine wpList_append_fits _ rfl _ _ 22 rfl w.heap.size 34 j0 1 Try.underlying22 hj0 hjz1 w.heap.size k (la + lb) (vals .u32 (cat f g la) k) rfl (hown.alloc _) ⟨wr.heap.size, 0, none⟩ 1 1 [.int .u32 (f k)] rfl rfl (cell_one_new _ _ _) (by simp [Value.oneCell']) (by omega) ?_)
      intro w2 hown2 hgrow2
      have hbel2 : Below w.heap.size w w2 := (hbel.alloc hsz _).grown hgrow2 (by simp; omega) (fun q e => by simp at e; omega)
      have e1 : vals .u32 (cat f g la) k ++ [.int .u32 (f k)] = vals .u32 (cat f g la) (k + 1) := by rw [vals_succ]; simp [cat, hlt]
      rw [e1] at hown2
      clear e1 hgrow2 hown
      go_wp2_with fail
      go_roundw
      case rel => exact ⟨k + 1, by omega, by go_num, rfl, hown2, hbel2⟩
      case measure => simp [intOf]; omega
    · have hkn : k = la := by omega
      have HK : Hid (k = la) := hkn
      clear hkn
      go_wp2_with fail
      go_loopw [5, 7] (fun v i wr => ∃ q : Nat, q ≤ lb ∧ i = .int .i64 q ∧ v = .slice (some ⟨w.heap.size, 0, none⟩) (k + q) (la + lb) ∧ wr.ownsRow w.heap.size 34 1 (.slice (some ⟨w.heap.size, 0, none⟩) (k + q) (la + lb)) (k + q) (vals .u32 (cat f g la) (k + q)) ∧ Below w.heap.size w wr) (fun _ i _ => lb - (intOf i).toNat)
      case atStart => exact ⟨0, Nat.zero_le _, rfl, rfl, hown, hbel⟩
      case round =>
        clear hown hbel hsz
        obtain ⟨q, hq, rfl, rfl, hown, hbel⟩ := hrel
        have hsz := hbel.size
        by_cases hlt2 : q < lb
        · have y1 : wr.cell? ⟨b2, o2 + q, none⟩ = some (.int .u32 (g q)) := (hbel.cell (p := ⟨b2, o2 + q, none⟩) hb2).trans (H2.out q hlt2)
          go_wp2_with (at_builtin; refine wpList_append_fits _ rfl _ _ 22 rfl w.heap.size 34 j0 1 Try.underlying22 hj0 hjz1 w.heap.size (k + q) (la + lb) (vals .u32 (cat f g la) (k + q)) rfl (hown.alloc _) ⟨wr.heap.size, 0, none⟩ 1 1 [.int .u32 (g q)] rfl rfl (cell_one_new _ _ _) (by simp [Value.oneCell']) (by omega) ?_)
          intro w2 hown2 hgrow2
          have hbel2 : Below w.heap.size w w2 := (hbel.alloc hsz _).grown hgrow2 (by simp; omega) (fun q e => by simp at e; omega)
          have e1 : vals .u32 (cat f g la) (k + q) ++ [.int .u32 (g q)] = vals .u32 (cat f g la) (k + q + 1) := by
            rw [vals_succ]
            have e2 : cat f g la (k + q) = g q := by unfold cat; rw [if_neg (by omega), HK.out]; congr 1; omega
            rw [e2]
          rw [e1] at hown2
          clear e1 hgrow2 hown
          go_wp2_with fail
          go_roundw
          case rel => exact ⟨q + 1, by omega, by go_num, rfl, hown2, hbel2⟩
          case measure => simp [intOf]; omega
        · go_wp2_with fail
          go_ret
          have e3 : k + q = la + lb := by have := HK.out; omega
          rw [e3] at hown
          exact (congrArg (fun z => Ending.returned (.slice (some ⟨w.heap.size, 0, none⟩) z (la + lb))) e3) ▸ cat_end hown hbel
end Go.Proofs.Qxb6615587a
