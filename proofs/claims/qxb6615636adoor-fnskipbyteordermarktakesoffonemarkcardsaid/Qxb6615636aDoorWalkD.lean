/-
  THE WALKS of cloneBytes and equalBytes (seat b6615636aD).
-/
import Derived.Test.Qxb6615636aDoorWalkC
namespace Go.Proofs.Qxb6615636aDoor
open Go.ChangeShapes Go.WideShapes Go.ChangeAt Go.RowKit
set_option linter.unusedVariables false

theorem equal_none (a b : Option Addr) (ca cb : Nat) (w : World) :
    Calls Tryd.prog 11 #[.slice a 0 ca, .slice b 0 cb] w fun e w' => e = .returned (.bool true) ∧ Still w w' := by
  go_enter Tryd.func11, Tryd.ntmps11
  go_wp2
  refine wp_loop_rounds 1 ?_
  rw [rounds_succ]
  go_wp2
  go_ret
  exact ⟨rfl, Still.refl _⟩

theorem Still.trans {a b c : World} (h : Still a b) (k : Still b c) : Still a c := ⟨k.heap.trans h.heap, k.os.trans h.os, k.tape.trans h.tape, k.output.trans h.output⟩
theorem Still.cell {a b : World} (h : Still a b) (p : Addr) : b.cell? p = a.cell? p := World.cell?_of_block (by rw [h.heap])
theorem Still.drewN (a : World) (n : Nat) : Still a (a.drewN n) := ⟨rfl, rfl, rfl, rfl⟩

set_option maxHeartbeats 400000 in
theorem equal_some (a1 o1 a2 o2 n ca cb : Nat) (f g : Nat → Int) (w : World) (hn : n ≤ 9223372036854775807)
    (h1 : ∀ i, i < n → w.cell? ⟨a1, o1 + i, none⟩ = some (.int .u8 (f i))) (h2 : ∀ i, i < n → w.cell? ⟨a2, o2 + i, none⟩ = some (.int .u8 (g i))) (he : ∀ i, i < n → f i = g i) :
    Calls Tryd.prog 11 #[.slice (some ⟨a1, o1, none⟩) n ca, .slice (some ⟨a2, o2, none⟩) n cb] w fun e w' => e = .returned (.bool true) ∧ Still w w' := by
  have HE : Hid (∀ i, i < n → f i = g i) := he
  clear he
  go_enter Tryd.func11, Tryd.ntmps11
  go_wp2
  go_loopw [5] (fun i wr => ∃ k : Nat, k ≤ n ∧ i = .int .i64 k ∧ Still w wr) (fun i _ => n - (intOf i).toNat)
  case atStart => exact ⟨0, Nat.zero_le _, rfl, Still.refl _⟩
  case round =>
    obtain ⟨k, hk, rfl, hbel⟩ := hrel
    by_cases hlt : k < n
    · have c1 : wr.cell? ⟨a1, o1 + k, none⟩ = some (.int .u8 (f k)) := (hbel.cell _).trans (h1 k hlt)
      have c2 : wr.cell? ⟨a2, o2 + k, none⟩ = some (.int .u8 (f k)) := (hbel.cell _).trans (by rw [h2 k hlt, HE.out k hlt])
      clear h1 h2
      go_wp2
      go_quiet (fail)
      go_wp2
      go_roundw
      case rel => exact ⟨k + 1, by omega, by go_num, hbel.trans ⟨rfl, rfl, rfl, rfl⟩⟩
      case measure => simp [intOf]; omega
    · go_wp2
      go_ret
      exact ⟨rfl, hbel⟩
theorem equal_any (a b : Option Addr) (n ca cb B C : Nat) (f g : Nat → Int) (w : World) (hn : n ≤ 9223372036854775807) (h1 : Row w B .u8 a n f) (h2 : Row w C .u8 b n g) (he : ∀ i, i < n → f i = g i) :
    Calls Tryd.prog 11 #[.slice a n ca, .slice b n cb] w fun e w' => e = .returned (.bool true) ∧ Still w w' := by
  rcases Nat.eq_zero_or_pos n with h0 | h0
  · subst h0
    exact equal_none a b ca cb w
  · obtain ⟨b1, o1, rfl, hb1, c1⟩ := h1.cells h0
    obtain ⟨b2, o2, rfl, hb2, c2⟩ := h2.cells h0
    exact equal_some b1 o1 b2 o2 n ca cb f g w hn c1 c2 he

theorem Tryd.info5 : (Tryd.prog.info? 5).map (fun i => (i.zero, i.size, i.bytes)) = some (some (.int .u8 0), 1, 1) := by kernel_rfl

/-- A slice of n bytes that the call has made itself, at or behind block B (or an empty one). -/
def Buf (w : World) (B : Nat) (a : Option Addr) (n : Nat) (f : Nat → Int) : Prop := n = 0 ∨ ∃ g, a = some ⟨g, 0, none⟩ ∧ B ≤ g ∧ Own w g n .u8 5 f

theorem Buf.row {w : World} {B : Nat} {a : Option Addr} {n : Nat} {f : Nat → Int} (h : Buf w B a n f) : Row w w.heap.size .u8 a n f :=
  ⟨fun hl => by
    rcases h with h | ⟨g, rfl, _, ho⟩
    · omega
    · exact ho.row.cells hl⟩

/-- What cloneBytes gives. -/
def ClonePost (w : World) (n : Nat) (f : Nat → Int) (e : Ending) (w' : World) : Prop :=
  ∃ v, e = .returned (.slice v n n) ∧ Buf w' w.heap.size v n f ∧ Below w.heap.size w w'

theorem clone_nil (w : World) (f : Nat → Int) : Calls Tryd.prog 7 #[.slice none 0 0] w fun e w' => ClonePost w 0 f e w' := by
  have hq := fun w n c => Lib.run_eql_slice_nil (P := Tryd.prog) w 22 5 none n c 0 0 Tryd.underlying22
  go_enter Tryd.func7, Tryd.ntmps7
  go_wp2
  go_ret
  exact ⟨none, rfl, .inl rfl, Below.refl _ _⟩

theorem clone_zero (x : Addr) (c : Nat) (f : Nat → Int) (w : World) : Calls Tryd.prog 7 #[.slice (some x) 0 c] w fun e w' => ClonePost w 0 f e w' := by
  have hq := fun w n c => Lib.run_eql_slice_nil (P := Tryd.prog) w 22 5 (some x) n c 0 0 Tryd.underlying22
  obtain ⟨i0, hi, hz0, hz1, hz2⟩ := info_parts Tryd.info5
  go_enter Tryd.func7, Tryd.ntmps7
  go_wp2_with (at_make; refine wpList_make_full _ rfl _ _ 22 rfl w.heap.size 5 i0 (.int .u8 0) 1 Tryd.underlying22 hi hz0 hz1 .i64 .i64 _ _ 0 rfl rfl rfl rfl (by rw [hz2]; omega) (by unfold maxLen; omega) (Nat.le_refl _) ?_)
  intro w1 hown hgrow
  have hb := below_made hgrow
  clear hown hgrow
  go_wp2
  refine wp_loop_rounds 1 ?_
  rw [rounds_succ]
  go_wp2
  go_ret
  exact ⟨_, rfl, .inl rfl, hb⟩

set_option maxHeartbeats 400000 in
theorem clone_some (b off n c : Nat) (f : Nat → Int) (w : World) (hn : n ≤ 1048579) (hbw : b < w.heap.size) (hc : ∀ i, i < n → w.cell? ⟨b, off + i, none⟩ = some (.int .u8 (f i))) :
    Calls Tryd.prog 7 #[.slice (some ⟨b, off, none⟩) n c] w fun e w' => ClonePost w n f e w' := by
  have hq := fun w n c => Lib.run_eql_slice_nil (P := Tryd.prog) w 22 5 (some ⟨b, off, none⟩) n c 0 0 Tryd.underlying22
  obtain ⟨i0, hi, hz0, hz1, hz2⟩ := info_parts Tryd.info5
  go_enter Tryd.func7, Tryd.ntmps7
  go_wp2_with (at_make; refine wpList_make_full _ rfl _ _ 22 rfl w.heap.size 5 i0 (.int .u8 0) 1 Tryd.underlying22 hi hz0 hz1 .i64 .i64 _ _ n rfl rfl rfl rfl (by rw [hz2]; omega) (by unfold maxLen; omega) (Nat.le_refl _) ?_)
  intro w1 hown hgrow
  have hb := below_made hgrow
  have ho := Own.of_made1 hown
  clear hown hgrow
  go_wp2
  go_loopw [4] (fun i wr => ∃ k : Nat, k ≤ n ∧ i = .int .i64 k ∧ Own wr w.heap.size n .u8 5 (fun j => if j < k then f j else 0) ∧ Below w.heap.size w wr) (fun i _ => n - (intOf i).toNat)
  case atStart => exact ⟨0, Nat.zero_le _, rfl, ho.congr (fun i _ => by simp), hb⟩
  case round =>
    obtain ⟨k, hk, rfl, hor, hbel⟩ := hrel
    by_cases hlt : k < n
    · have c1 : wr.cell? ⟨b, off + k, none⟩ = some (.int .u8 (f k)) := (hbel.cell (p := ⟨b, off + k, none⟩) hbw).trans (hc k hlt)
      have c2 := hor.cell hlt
      have c3 := hor.free k
      clear hb ho hc
      go_wp2
      go_roundw
      case rel => exact ⟨k + 1, by omega, by go_num, hor.step hlt, hbel.setCell (Nat.le_refl _) _⟩
      case measure => simp [intOf]; omega
    · go_wp2
      go_ret
      have hkn : k = n := by omega
      subst hkn
      exact ⟨_, rfl, .inr ⟨_, rfl, Nat.le_refl _, hor.congr (fun i hi => by simp [hi])⟩, hbel⟩

theorem clone_any (a : Option Addr) (n c B : Nat) (f : Nat → Int) (w : World) (hn : n ≤ 1048579) (hnil : a = none → n = 0 ∧ c = 0) (hr : Row w B .u8 a n f) : Calls Tryd.prog 7 #[.slice a n c] w fun e w' => ClonePost w n f e w' := by
  cases a with
  | none => obtain ⟨rfl, rfl⟩ := hnil rfl; exact clone_nil w f
  | some x =>
    rcases Nat.eq_zero_or_pos n with h0 | h0
    · subst h0; exact clone_zero x c f w
    · obtain ⟨b, off, hx, hB, hc⟩ := hr.cells h0
      cases hx
      exact clone_some b off n c f w hn (lt_of_cell (hc 0 h0)) hc
end Go.Proofs.Qxb6615636aDoor
