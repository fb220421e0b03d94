/-
  THE WALKS of zzSameU64, zzSameU32, zzCopyWords, zzCatU64, zzCatU32 (seat b6615587a).
-/
import Derived.Test.Qxb6615587aWalkA
namespace Go.Proofs.Qxb6615587a
open Go.ChangeShapes Go.WideShapes Go.ChangeAt Go.RowKit

theorem same12_none (a b : Option Addr) (ca cb : Nat) (w : World) :
    Calls Try.prog 12 #[.slice a 0 ca, .slice b 0 cb] w fun e w' => e = .returned (.bool true) ∧ Below w.heap.size w w' := by
  go_enter Try.func12, Try.ntmps12
  go_wp2
  refine wp_loop_rounds 1 ?_
  rw [rounds_succ]
  go_wp2
  go_ret
  exact ⟨rfl, Below.refl _ _⟩
set_option maxHeartbeats 400000 in
theorem same12_some (a1 o1 a2 o2 n ca cb : Nat) (f g : Nat → Int) (w : World) (hn : n ≤ 9223372036854775807) (hb1 : a1 < w.heap.size) (hb2 : a2 < w.heap.size)
    (h1 : ∀ i, i < n → w.cell? ⟨a1, o1 + i, none⟩ = some (.int .u64 (f i))) (h2 : ∀ i, i < n → w.cell? ⟨a2, o2 + i, none⟩ = some (.int .u64 (g i))) (he : ∀ i, i < n → f i = g i) :
    Calls Try.prog 12 #[.slice (some ⟨a1, o1, none⟩) n ca, .slice (some ⟨a2, o2, none⟩) n cb] w fun e w' => e = .returned (.bool true) ∧ Below w.heap.size w w' := by
  have HE : Hid (∀ i, i < n → f i = g i) := he
  clear he
  go_enter Try.func12, Try.ntmps12
  go_wp2
  go_loopw [5] (fun i wr => ∃ k : Nat, k ≤ n ∧ i = .int .i64 k ∧ Below w.heap.size w wr) (fun i _ => n - (intOf i).toNat)
  case atStart => exact ⟨0, Nat.zero_le _, rfl, Below.refl _ _⟩
  case round =>
    obtain ⟨k, hk, rfl, hbel⟩ := hrel
    by_cases hlt : k < n
    · have c1 : wr.cell? ⟨a1, o1 + k, none⟩ = some (.int .u64 (f k)) := (hbel.cell (p := ⟨a1, o1 + k, none⟩) hb1).trans (h1 k hlt)
      have c2 : wr.cell? ⟨a2, o2 + k, none⟩ = some (.int .u64 (f k)) := (hbel.cell (p := ⟨a2, o2 + k, none⟩) hb2).trans (by rw [h2 k hlt, HE.out k hlt])
      clear h1 h2
      go_wp2
      go_quiet (fail)
      go_wp2
      go_roundw
      case rel => exact ⟨k + 1, by omega, by go_num, hbel.trans ⟨rfl, rfl, rfl, Nat.le_refl _, fun _ _ => rfl⟩⟩
      case measure => simp [intOf]; omega
    · go_wp2
      go_ret
      exact ⟨rfl, hbel⟩
theorem same12_any (a b : Option Addr) (n ca cb : Nat) (f g : Nat → Int) (w : World) (hn : n ≤ 9223372036854775807) (h1 : Row w w.heap.size .u64 a n f) (h2 : Row w w.heap.size .u64 b n g) (he : ∀ i, i < n → f i = g i) :
    Calls Try.prog 12 #[.slice a n ca, .slice b n cb] w fun e w' => e = .returned (.bool true) ∧ Below w.heap.size w w' := by
  rcases Nat.eq_zero_or_pos n with h0 | h0
  · subst h0
    exact same12_none a b ca cb w
  · obtain ⟨b1, o1, rfl, hb1, c1⟩ := h1.cells h0
    obtain ⟨b2, o2, rfl, hb2, c2⟩ := h2.cells h0
    exact same12_some b1 o1 b2 o2 n ca cb f g w hn hb1 hb2 c1 c2 he
theorem same14_none (a b : Option Addr) (ca cb : Nat) (w : World) :
    Calls Try.prog 14 #[.slice a 0 ca, .slice b 0 cb] w fun e w' => e = .returned (.bool true) ∧ Below w.heap.size w w' := by
  go_enter Try.func14, Try.ntmps14
  go_wp2
  refine wp_loop_rounds 1 ?_
  rw [rounds_succ]
  go_wp2
  go_ret
  exact ⟨rfl, Below.refl _ _⟩
set_option maxHeartbeats 400000 in
theorem same14_some (a1 o1 a2 o2 n ca cb : Nat) (f g : Nat → Int) (w : World) (hn : n ≤ 9223372036854775807) (hb1 : a1 < w.heap.size) (hb2 : a2 < w.heap.size)
    (h1 : ∀ i, i < n → w.cell? ⟨a1, o1 + i, none⟩ = some (.int .u32 (f i))) (h2 : ∀ i, i < n → w.cell? ⟨a2, o2 + i, none⟩ = some (.int .u32 (g i))) (he : ∀ i, i < n → f i = g i) :
    Calls Try.prog 14 #[.slice (some ⟨a1, o1, none⟩) n ca, .slice (some ⟨a2, o2, none⟩) n cb] w fun e w' => e = .returned (.bool true) ∧ Below w.heap.size w w' := by
  have HE : Hid (∀ i, i < n → f i = g i) := he
  clear he
  go_enter Try.func14, Try.ntmps14
  go_wp2
  go_loopw [5] (fun i wr => ∃ k : Nat, k ≤ n ∧ i = .int .i64 k ∧ Below w.heap.size w wr) (fun i _ => n - (intOf i).toNat)
  case atStart => exact ⟨0, Nat.zero_le _, rfl, Below.refl _ _⟩
  case round =>
    obtain ⟨k, hk, rfl, hbel⟩ := hrel
    by_cases hlt : k < n
    · have c1 : wr.cell? ⟨a1, o1 + k, none⟩ = some (.int .u32 (f k)) := (hbel.cell (p := ⟨a1, o1 + k, none⟩) hb1).trans (h1 k hlt)
      have c2 : wr.cell? ⟨a2, o2 + k, none⟩ = some (.int .u32 (f k)) := (hbel.cell (p := ⟨a2, o2 + k, none⟩) hb2).trans (by rw [h2 k hlt, HE.out k hlt])
      clear h1 h2
      go_wp2
      go_quiet (fail)
      go_wp2
      go_roundw
      case rel => exact ⟨k + 1, by omega, by go_num, hbel.trans ⟨rfl, rfl, rfl, Nat.le_refl _, fun _ _ => rfl⟩⟩
      case measure => simp [intOf]; omega
    · go_wp2
      go_ret
      exact ⟨rfl, hbel⟩
theorem same14_any (a b : Option Addr) (n ca cb : Nat) (f g : Nat → Int) (w : World) (hn : n ≤ 9223372036854775807) (h1 : Row w w.heap.size .u32 a n f) (h2 : Row w w.heap.size .u32 b n g) (he : ∀ i, i < n → f i = g i) :
    Calls Try.prog 14 #[.slice a n ca, .slice b n cb] w fun e w' => e = .returned (.bool true) ∧ Below w.heap.size w w' := by
  rcases Nat.eq_zero_or_pos n with h0 | h0
  · subst h0
    exact same14_none a b ca cb w
  · obtain ⟨b1, o1, rfl, hb1, c1⟩ := h1.cells h0
    obtain ⟨b2, o2, rfl, hb2, c2⟩ := h2.cells h0
    exact same14_some b1 o1 b2 o2 n ca cb f g w hn hb1 hb2 c1 c2 he

theorem Try.info34 : (Try.prog.info? 34).map (fun i => (i.zero, i.size, i.bytes)) = some (some (.int .u32 0), 1, 4) := by kernel_rfl
theorem Try.info23 : (Try.prog.info? 23).map (fun i => (i.zero, i.size, i.bytes)) = some (some (.int .u64 0), 1, 8) := by kernel_rfl

/-- What zzCopyWords gives. -/
def CopyPost (w : World) (a : Option Addr) (n : Nat) (f : Nat → Int) (e : Ending) (w' : World) : Prop :=
  ∃ v, e = .returned (.slice v n n) ∧ Row w' w'.heap.size .u32 v n f ∧ (a = none → v = none) ∧ Below w.heap.size w w'

theorem copy_nil (w : World) (f : Nat → Int) : Calls Try.prog 7 #[.slice none 0 0] w fun e w' => CopyPost w none 0 f e w' := by
  have hq := fun w n c => Lib.run_eql_slice_nil (P := Try.prog) w 22 34 none n c 0 0 Try.underlying22
  go_enter Try.func7, Try.ntmps7
  go_wp2
  go_ret
  exact ⟨none, rfl, ⟨fun h => by omega⟩, fun _ => rfl, Below.refl _ _⟩

theorem copy_zero (x : Addr) (c : Nat) (f : Nat → Int) (w : World) : Calls Try.prog 7 #[.slice (some x) 0 c] w fun e w' => CopyPost w (some x) 0 f e w' := by
  have hq := fun w n c => Lib.run_eql_slice_nil (P := Try.prog) w 22 34 (some x) n c 0 0 Try.underlying22
  obtain ⟨i0, hi, hz0, hz1, hz2⟩ := info_parts Try.info34
  go_enter Try.func7, Try.ntmps7
  go_wp2_with (at_make; refine wpList_make_full _ rfl _ _ 22 rfl w.heap.size 34 i0 (.int .u32 0) 1 Try.underlying22 hi hz0 hz1 .i64 .i64 _ _ 0 rfl rfl rfl rfl (by rw [hz2]; omega) (by unfold maxLen; omega) (Nat.le_refl _) ?_)
  intro w1 hown hgrow
  have hb := below_made hgrow
  clear hown hgrow
  go_wp2
  refine wp_loop_rounds 1 ?_
  rw [rounds_succ]
  go_wp2
  go_ret
  exact ⟨_, rfl, ⟨fun h => by omega⟩, fun h => by simp at h, hb⟩

set_option maxHeartbeats 400000 in
theorem copy_some (b off n c : Nat) (f : Nat → Int) (w : World) (hn : n ≤ 65536) (hbw : b < w.heap.size) (hc : ∀ i, i < n → w.cell? ⟨b, off + i, none⟩ = some (.int .u32 (f i))) :
    Calls Try.prog 7 #[.slice (some ⟨b, off, none⟩) n c] w fun e w' => CopyPost w (some ⟨b, off, none⟩) n f e w' := by
  have hq := fun w n c => Lib.run_eql_slice_nil (P := Try.prog) w 22 34 (some ⟨b, off, none⟩) n c 0 0 Try.underlying22
  obtain ⟨i0, hi, hz0, hz1, hz2⟩ := info_parts Try.info34
  go_enter Try.func7, Try.ntmps7
  go_wp2_with (at_make; refine wpList_make_full _ rfl _ _ 22 rfl w.heap.size 34 i0 (.int .u32 0) 1 Try.underlying22 hi hz0 hz1 .i64 .i64 _ _ n rfl rfl rfl rfl (by rw [hz2]; omega) (by unfold maxLen; omega) (Nat.le_refl _) ?_)
  intro w1 hown hgrow
  have hb := below_made hgrow
  have ho := Own.of_made1 hown
  clear hown hgrow
  go_wp2
  go_loopw [4] (fun i wr => ∃ k : Nat, k ≤ n ∧ i = .int .i64 k ∧ Own wr w.heap.size n .u32 34 (fun j => if j < k then f j else 0) ∧ Below w.heap.size w wr) (fun i _ => n - (intOf i).toNat)
  case atStart => exact ⟨0, Nat.zero_le _, rfl, ho.congr (fun i _ => by simp), hb⟩
  case round =>
    obtain ⟨k, hk, rfl, hor, hbel⟩ := hrel
    by_cases hlt : k < n
    · have c1 : wr.cell? ⟨b, off + k, none⟩ = some (.int .u32 (f k)) := (hbel.cell (p := ⟨b, off + k, none⟩) hbw).trans (hc k hlt)
      have c2 := hor.cell hlt
      have c3 := hor.free k
      clear hb ho hc
      go_wp2
      go_roundw
      case rel => exact ⟨k + 1, by omega, by go_num, (hor.set hlt (f k)).congr (fun i hi => by by_cases e : i = k <;> simp [e]; by_cases e2 : i < k <;> simp [e2] <;> omega), hbel.setCell (Nat.le_refl _) _⟩
      case measure => simp [intOf]; omega
    · go_wp2
      go_ret
      have hkn : k = n := by omega
      subst hkn
      exact ⟨_, rfl, (hor.congr (fun i hi => by simp [hi])).row, fun h => by simp at h, hbel⟩

theorem copy_any (a : Option Addr) (n c : Nat) (f : Nat → Int) (w : World) (hn : n ≤ 65536) (hnil : a = none → n = 0 ∧ c = 0) (hr : Row w w.heap.size .u32 a n f) : Calls Try.prog 7 #[.slice a n c] w fun e w' => CopyPost w a n f e w' := by
  cases a with
  | none => obtain ⟨rfl, rfl⟩ := hnil rfl; exact copy_nil w f
  | some x =>
    rcases Nat.eq_zero_or_pos n with h0 | h0
    · subst h0; exact copy_zero x c f w
    · obtain ⟨b, off, hx, hB, hc⟩ := hr.cells h0
      cases hx
      exact copy_some b off n c f w hn hB hc
end Go.Proofs.Qxb6615587a
