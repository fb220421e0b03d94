/-
  THE WALKS of bufio.NewReader, .reset, .readErr, .Buffered (seat b6615636aD).
-/
import Derived.Test.Qxb6615636aDoorWalkE
import Derived.Deep.RegionHeld3
namespace Go.Proofs.Qxb6615636aDoor
open Go.ChangeShapes Go.WideShapes Go.ChangeAt Go.RowKit
set_option linter.unusedVariables false

/-- A bufio.Reader over a bytes.Reader: its seven cells. -/
def XAt (w : World) (X U R r wp : Nat) (err : Value) (lb lr : Int) : Prop :=
  w.heap[X]? = some (.cells #[.slice (some ⟨U, 0, none⟩) 4096 4096, .iface 39 (.pointer (some ⟨R, 0, none⟩)), .int .i64 r, .int .i64 wp, err, .int .i64 lb, .int .i64 lr] 58 (0, 0))

theorem readErr_any (X U R r wp : Nat) (err : Value) (lb lr : Int) (w : World) (h : XAt w X U R r wp err lb lr) :
    Calls Tryd.prog 27 #[.pointer (some ⟨X, 0, none⟩)] w fun e w' => e = .returned err ∧ w' = w.setCell ⟨X, 4, none⟩ .nilIface := by
  have c4 : w.cell? ⟨X, 4, none⟩ = some err := cell_blk h 4
  have f4 := free_blk h 4
  clear h
  go_enter Tryd.func27, Tryd.ntmps27
  go_wp2_with fail
  go_ret
  exact ⟨rfl, rfl⟩

theorem buffered_any (X U R r wp : Nat) (err : Value) (lb lr : Int) (w : World) (h : XAt w X U R r wp err lb lr) (hr : r ≤ wp) (hw : wp ≤ 4096) :
    Calls Tryd.prog 28 #[.pointer (some ⟨X, 0, none⟩)] w fun e w' => e = .returned (.int .i64 ((wp - r : Nat) : Int)) ∧ Still w w' := by
  have c2 : w.cell? ⟨X, 2, none⟩ = some (.int .i64 r) := cell_blk h 2
  have c3 : w.cell? ⟨X, 3, none⟩ = some (.int .i64 wp) := cell_blk h 3
  clear h
  go_enter Tryd.func28, Tryd.ntmps28
  go_wp2_with fail
  go_quiet (fail)
  go_wp2_with fail
  go_ret
  exact ⟨congrArg (fun z => Ending.returned (.int .i64 z)) (by omega), rfl, rfl, rfl, rfl⟩

set_option maxHeartbeats 2000000 in
theorem reset_any (X U R : Nat) (v0 v1 v2 v3 v4 v5 v6 : Value) (w : World) (h : w.heap[X]? = some (.cells #[v0, v1, v2, v3, v4, v5, v6] 58 (0, 0))) :
    Calls Tryd.prog 29 #[.pointer (some ⟨X, 0, none⟩), .slice (some ⟨U, 0, none⟩) 4096 4096, .iface 39 (.pointer (some ⟨R, 0, none⟩))] w fun e w' => e = .returned (.tuple #[]) ∧ XAt w' X U R 0 0 .nilIface (-1) (-1) ∧ Same (· = X) w w' := by
  have c0 : w.cell? ⟨X, 0, none⟩ = some v0 := cell_blk h 0
  have c1 : w.cell? ⟨X, 1, none⟩ = some v1 := cell_blk h 1
  have c2 : w.cell? ⟨X, 2, none⟩ = some v2 := cell_blk h 2
  have c3 : w.cell? ⟨X, 3, none⟩ = some v3 := cell_blk h 3
  have c4 : w.cell? ⟨X, 4, none⟩ = some v4 := cell_blk h 4
  have c5 : w.cell? ⟨X, 5, none⟩ = some v5 := cell_blk h 5
  have c6 : w.cell? ⟨X, 6, none⟩ = some v6 := cell_blk h 6
  have f := fun i => free_blk h i
  have HH : Hid (w.heap[X]? = some (.cells #[v0, v1, v2, v3, v4, v5, v6] 58 (0, 0))) := h
  clear h
  go_enter Tryd.func29, Tryd.ntmps29
  go_wp2_with fail
  refine bodyPost_end (results_none rfl _ _ _) rfl ?_
  refine ⟨rfl, set_blk (set_blk (set_blk (set_blk (set_blk (set_blk (set_blk HH.out 0 _) 1 _) 2 _) 3 _) 4 _) 5 _) 6 _, ?_⟩
  exact ((((((((Same.refl (· = X) w).setCell (S := (· = X)) (p := ⟨X, 0, none⟩) (fun _ => rfl) _).setCell (S := (· = X)) (p := ⟨X, 1, none⟩) (fun _ => rfl) _).setCell (S := (· = X)) (p := ⟨X, 2, none⟩) (fun _ => rfl) _).setCell (S := (· = X)) (p := ⟨X, 3, none⟩) (fun _ => rfl) _).setCell (S := (· = X)) (p := ⟨X, 4, none⟩) (fun _ => rfl) _).setCell (S := (· = X)) (p := ⟨X, 5, none⟩) (fun _ => rfl) _).setCell (S := (· = X)) (p := ⟨X, 6, none⟩) (fun _ => rfl) _)

/-- A new bufio.Reader. -/
def NewPost (R : Nat) (w : World) (e : Ending) (w' : World) : Prop :=
  e = .returned (.pointer (some ⟨w.heap.size, 0, none⟩)) ∧ XAt w' w.heap.size (w.heap.size + 1) R 0 0 .nilIface (-1) (-1) ∧ Own w' (w.heap.size + 1) 4096 .u8 5 (fun _ => 0) ∧ Below w.heap.size w w'

theorem assert36 (v : Value) (w : World) : (Instr.typeAssert (.iface 39 v) 42 36 true).run Tryd.prog w = .ok (.tuple #[.pointer none, .bool false]) w := by kernel_rfl

set_option maxHeartbeats 2000000 in
theorem newSize (R : Nat) (w : World) : Calls Tryd.prog 25 #[.iface 39 (.pointer (some ⟨R, 0, none⟩)), .int .i64 4096] w fun e w' => NewPost R w e w' := by
  obtain ⟨i0, hi, hz0, hz1, hz2⟩ := info_parts Tryd.info5
  have hta := assert36
  go_enter Tryd.func25, Tryd.ntmps25
  go_wp2_with (at_make; refine wpList_make_full _ rfl _ _ 22 rfl (w.heap.size + 1) 5 i0 (.int .u8 0) 1 Tryd.underlying22 hi hz0 hz1 .i64 .i64 _ _ 4096 rfl rfl rfl rfl (by rw [hz2]; omega) (by unfold maxLen; omega) (by simp) ?_)
  intro w1 hown hgrow
  have hX : w1.heap[w.heap.size]? = some (.cells #[.slice none 0 0, .nilIface, .int .i64 0, .int .i64 0, .nilIface, .int .i64 0, .int .i64 0] 58 (0, 0)) := by
    have hb := (Below.refl (w.heap.size + 1) (w.alloc (.cells #[.slice none 0 0, .nilIface, .int .i64 0, .int .i64 0, .nilIface, .int .i64 0, .int .i64 0] 58))).grown hgrow (by simp) (fun k e => by cases e)
    rw [hb.block _ (Nat.lt_succ_self _)]
    exact heap_new w _
  have hbel : Below w.heap.size w w1 := ((Below.refl w.heap.size w).alloc (Nat.le_refl _) _).grown hgrow (by simp) (fun k e => by cases e)
  have ho := Own.of_made1 hown
  have HO : Hid (Own w1 (w.heap.size + 1) 4096 .u8 5 (fun _ => 0)) := ho
  have HX : Hid _ := hX
  clear hown hgrow ho hX
  go_wp2_with fail
  refine Calls.mono (reset_any w.heap.size (w.heap.size + 1) R _ _ _ _ _ _ _ w1 HX.out) ?_
  rintro e w2 ⟨rfl, hx2, hs2⟩
  have HX2 : Hid (XAt w2 w.heap.size (w.heap.size + 1) R 0 0 .nilIface (-1) (-1)) := hx2
  clear hx2
  go_wp2_with fail
  go_ret
  exact ⟨rfl, HX2.out, HO.out.keep (hs2.block _ HO.out.lt (by omega)), hbel.trans (hs2.below hbel.size (fun k hk e => by omega))⟩

theorem newBuf (R : Nat) (w : World) : Calls Tryd.prog 21 #[.iface 39 (.pointer (some ⟨R, 0, none⟩))] w fun e w' => NewPost R w e w' := by
  go_enter Tryd.func21, Tryd.ntmps21
  go_wp2_with fail
  refine Calls.mono (newSize R w) ?_
  rintro e w1 ⟨rfl, h1, h2, h3⟩
  have H : Hid (NewPost R w (.returned (.pointer (some ⟨w.heap.size, 0, none⟩))) w1) := ⟨rfl, h1, h2, h3⟩
  clear h1 h2 h3
  go_wp2_with fail
  go_ret
  exact H.out
end Go.Proofs.Qxb6615636aDoor
