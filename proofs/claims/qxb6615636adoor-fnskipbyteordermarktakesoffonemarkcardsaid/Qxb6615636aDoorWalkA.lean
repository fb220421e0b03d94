/-
  THE WALKS of (*bytes.Reader).Read (seat b6615636aD).
-/
import Derived.Test.Qxb6615636aDoorRows
import Derived.Test.Qxb6615636aDoorMem
import Derived.WalkLawsBesides
import Derived.WalkSpells
import Derived.Outline
import Derived.BigQuiet
import Derived.BigRegion
import Derived.LaidEql
namespace Go.Proofs.Qxb6615636aDoor
open Go.ChangeShapes Go.WideShapes Go.ChangeAt Go.RowKit
set_option linter.unusedVariables false

/-- Nothing has turned but the count of draws. -/
structure Still (w w' : World) : Prop where
  heap : w'.heap = w.heap
  os : w'.os = w.os
  tape : w'.tape = w.tape
  output : w'.output = w.output
theorem Still.refl (w : World) : Still w w := ⟨rfl, rfl, rfl, rfl⟩
theorem Still.below {w w' : World} (h : Still w w') (B : Nat) : Below B w w' := ⟨h.os, h.tape, h.output, by rw [h.heap]; exact Nat.le_refl _, fun k _ => by rw [h.heap]⟩

/-- A block known whole. -/
theorem cell_blk {w : World} {R : Nat} {cs : Array Value} {t : TypeId} (h : w.heap[R]? = some (.cells cs t (0, 0))) (i : Nat) : w.cell? ⟨R, i, none⟩ = cs[i]? := by simp [World.cell?, h]
theorem free_blk {w : World} {R : Nat} {cs : Array Value} {t : TypeId} (h : w.heap[R]? = some (.cells cs t (0, 0))) (i : Nat) : w.frozen? ⟨R, i, none⟩ = false := by simp [World.frozen?, h]
theorem set_blk {w : World} {R : Nat} {cs : Array Value} {t : TypeId} (h : w.heap[R]? = some (.cells cs t (0, 0))) (i : Nat) (v : Value) : (w.setCell ⟨R, i, none⟩ v).heap[R]? = some (.cells (cs.setIfInBounds i v) t (0, 0)) := by
  simp [World.setCell, Array.getElem?_modify, h]

theorem readEnd (R : Nat) (da : Option Addr) (len dcap pos : Nat) (pr : Int) (eof : Value) (b : Value) (w : World) (hR : w.heap[R]? = some (.cells #[.slice da len dcap, .int .i64 pos, .int .i64 pr] 52 (0, 0))) (he : w.cell? ⟨0, 0, none⟩ = some eof) (hpl : len ≤ pos) (hp : pos ≤ 1048576) :
    Calls Tryd.prog 46 #[.pointer (some ⟨R, 0, none⟩), b] w fun e w' => e = .returned (.tuple #[.int .i64 0, eof]) ∧ Still w w' := by
  have c0 : w.cell? ⟨R, 0, none⟩ = some (.slice da len dcap) := cell_blk hR 0
  have c1 : w.cell? ⟨R, 1, none⟩ = some (.int .i64 pos) := cell_blk hR 1
  clear hR
  go_enter Tryd.func46, Tryd.ntmps46
  go_wp2_with fail
  go_quiet (fail)
  go_wp2_with fail
  go_quiet (fail)
  go_wp2_with fail
  go_ret2
  exact ⟨rfl, rfl, rfl, rfl, rfl⟩

theorem Tryd.size5 : (Tryd.prog.info? 5).map (·.size) = some 1 := by kernel_rfl

/-- What a read that finds bytes leaves: n bytes in the buffer, the reader n further. -/
def ReadPost (R D len pos P M m : Nat) (z g : Nat → Int) (w w' : World) : Prop :=
  w'.heap[R]? = some (.cells #[.slice (some ⟨D, 0, none⟩) len len, .int .i64 ((pos + min (len - pos) m : Nat) : Int), .int .i64 (-1)] 52 (0, 0)) ∧ Own w' P M .u8 5 (fun i => if i < min (len - pos) m then g (pos + i) else z i) ∧ Same (fun k => k = R ∨ k = P) w w'

theorem read_end {R D len pos P M m : Nat} {z g : Nat → Int} {w w2 w' : World} (hRP : R ≠ P) (hR2 : w2.heap[R]? = some (.cells #[.slice (some ⟨D, 0, none⟩) len len, .int .i64 pos, .int .i64 (-1)] 52 (0, 0))) (hP2 : Own w2 P M .u8 5 (fun i => if i < min (len - pos) m then g (pos + i) else z i))
    (hs : Same (fun k => k = R ∨ k = P) w w2) (hw : w' = w2.setCell ⟨R, 1, none⟩ (.int .i64 ((pos : Int) + ((min (len - pos) m : Nat) : Int)))) : ReadPost R D len pos P M m z g w w' := by
  subst hw
  rw [← Int.natCast_add]
  exact ⟨set_blk hR2 1 _, hP2.other (a := ⟨R, 1, none⟩) (by simp; omega) _, hs.setCell (p := ⟨R, 1, none⟩) (fun _ => .inl rfl) _⟩

set_option maxHeartbeats 1000000 in
theorem readSome (R D len pos P M m pc : Nat) (pr : Int) (z g : Nat → Int) (w : World) (hR : w.heap[R]? = some (.cells #[.slice (some ⟨D, 0, none⟩) len len, .int .i64 pos, .int .i64 pr] 52 (0, 0))) (hD : Own w D len .u8 5 g) (hP : Own w P M .u8 5 z) (hm : m ≤ M)
    (hpl : pos < len) (hl : len ≤ 1048576) (hRP : R ≠ P) (hRD : R ≠ D) (hDP : D ≠ P) :
    Calls Tryd.prog 46 #[.pointer (some ⟨R, 0, none⟩), .slice (some ⟨P, 0, none⟩) m pc] w fun e w' => e = .returned (.tuple #[.int .i64 ((min (len - pos) m : Nat) : Int), .nilIface]) ∧ ReadPost R D len pos P M m z g w w' := by
  have c0 : w.cell? ⟨R, 0, none⟩ = some (.slice (some ⟨D, 0, none⟩) len len) := cell_blk hR 0
  have c1 : w.cell? ⟨R, 1, none⟩ = some (.int .i64 pos) := cell_blk hR 1
  have k0 : (0 : Int) ≤ (pos : Int) := Int.natCast_nonneg _
  have k1 : (pos : Int) ≤ (len : Int) := by omega
  have HR : Hid (w.heap[R]? = some (.cells #[.slice (some ⟨D, 0, none⟩) len len, .int .i64 pos, .int .i64 pr] 52 (0, 0))) := hR
  clear hR
  go_enter Tryd.func46, Tryd.ntmps46
  go_wp2_with fail
  go_quiet (fail)
  have hR0 : (w.drewN nq).heap[R]? = some (.cells #[.slice (some ⟨D, 0, none⟩) len len, .int .i64 pos, .int .i64 pr] 52 (0, 0)) := HR.out
  have hD0 : Own (w.drewN nq) D len .u8 5 g := hD.keep rfl
  have hP0 : Own (w.drewN nq) P M .u8 5 z := hP.keep rfl
  have hst : Still w (w.drewN nq) := ⟨rfl, rfl, rfl, rfl⟩
  clear HR hD hP c0 c1
  generalize w.drewN nq = w0 at *
  have c0 : w0.cell? ⟨R, 0, none⟩ = some (.slice (some ⟨D, 0, none⟩) len len) := cell_blk hR0 0
  have c1 : w0.cell? ⟨R, 1, none⟩ = some (.int .i64 pos) := cell_blk hR0 1
  have c2 : w0.cell? ⟨R, 2, none⟩ = some (.int .i64 pr) := cell_blk hR0 2
  have f2 := free_blk hR0 2
  have hR1 := set_blk hR0 2 (.int .i64 (-1))
  have hP1 : Own (w0.setCell ⟨R, 2, none⟩ (.int .i64 (-1))).drew P M .u8 5 z := (hP0.other (a := ⟨R, 2, none⟩) (by simp; omega) (.int .i64 (-1))).keep rfl
  have hD1 : Own (w0.setCell ⟨R, 2, none⟩ (.int .i64 (-1))).drew D len .u8 5 g := (hD0.other (a := ⟨R, 2, none⟩) (by simp; omega) (.int .i64 (-1))).keep rfl
  have hrow : Row (w0.setCell ⟨R, 2, none⟩ (.int .i64 (-1))).drew (w0.setCell ⟨R, 2, none⟩ (.int .i64 (-1))).drew.heap.size .u8 (some ⟨D, pos, none⟩) (len - pos) (fun i => g (pos + i)) :=
    ⟨fun _ => ⟨D, pos, rfl, hD1.lt, fun i hi => hD1.cell (by omega)⟩⟩
  obtain ⟨w2, hcp, hP2, hs2⟩ := run_copy_into (P := Tryd.prog) 22 5 Tryd.underlying22 Tryd.size5 P M m pc (len - pos) (len - pos) (some ⟨D, pos, none⟩) .u8 5 z _ _ hP1 hm hrow
  have hR2 : w2.heap[R]? = some (.cells #[.slice (some ⟨D, 0, none⟩) len len, .int .i64 pos, .int .i64 (-1)] 52 (0, 0)) := (hs2.block R (by have := lt_of_block hR0; simpa using this) (by omega)).trans hR1
  have d1 : w2.cell? ⟨R, 1, none⟩ = some (.int .i64 pos) := cell_blk hR2 1
  have e1 := free_blk hR2 1
  have hSame : Same (fun k => k = R ∨ k = P) w w2 := by
    have h1 : Same (fun k => k = R ∨ k = P) w w0 := Same.of_below (hst.below _)
    have h2 : Same (fun k => k = R ∨ k = P) w (w0.setCell ⟨R, 2, none⟩ (.int .i64 (-1))).drew := (h1.setCell (p := ⟨R, 2, none⟩) (fun _ => .inl rfl) _).drew
    exact h2.trans hs2 (fun i _ e => .inr e)
  have HP2 : Hid _ := hP2
  have HR2 : Hid _ := hR2
  clear hR0 hD0 hP0 hR1 hP1 hD1 hrow hs2 hP2 hR2
  have hmin : min (len - pos) m ≤ len - pos := Nat.min_le_left _ _
  go_wp2_with fail
  go_region
  go_wp2_with fail
  go_ret2
  exact ⟨rfl, read_end hRP HR2.out HP2.out hSame rfl⟩

/-- A read into no bytes, some left in the file: only the reader's last field turns. -/
def ReadNone (R : Nat) (ds : Value) (pos : Nat) (w w' : World) : Prop := w'.heap[R]? = some (.cells #[ds, .int .i64 pos, .int .i64 (-1)] 52 (0, 0)) ∧ Same (fun k => k = R) w w'

set_option maxHeartbeats 1000000 in
theorem readZero (R D len pos pc : Nat) (pa : Option Addr) (pr : Int) (w : World) (hR : w.heap[R]? = some (.cells #[.slice (some ⟨D, 0, none⟩) len len, .int .i64 pos, .int .i64 pr] 52 (0, 0)))
    (hpl : pos < len) (hl : len ≤ 1048576) :
    Calls Tryd.prog 46 #[.pointer (some ⟨R, 0, none⟩), .slice pa 0 pc] w fun e w' => e = .returned (.tuple #[.int .i64 0, .nilIface]) ∧ ReadNone R (.slice (some ⟨D, 0, none⟩) len len) pos w w' := by
  have c0 : w.cell? ⟨R, 0, none⟩ = some (.slice (some ⟨D, 0, none⟩) len len) := cell_blk hR 0
  have c1 : w.cell? ⟨R, 1, none⟩ = some (.int .i64 pos) := cell_blk hR 1
  have k0 : (0 : Int) ≤ (pos : Int) := Int.natCast_nonneg _
  have k1 : (pos : Int) ≤ (len : Int) := by omega
  have HR : Hid (w.heap[R]? = some (.cells #[.slice (some ⟨D, 0, none⟩) len len, .int .i64 pos, .int .i64 pr] 52 (0, 0))) := hR
  clear hR
  go_enter Tryd.func46, Tryd.ntmps46
  go_wp2_with fail
  go_quiet (fail)
  have hR0 : (w.drewN nq).heap[R]? = some (.cells #[.slice (some ⟨D, 0, none⟩) len len, .int .i64 pos, .int .i64 pr] 52 (0, 0)) := HR.out
  have hst : Still w (w.drewN nq) := ⟨rfl, rfl, rfl, rfl⟩
  clear HR c0 c1
  generalize w.drewN nq = w0 at *
  have c0 : w0.cell? ⟨R, 0, none⟩ = some (.slice (some ⟨D, 0, none⟩) len len) := cell_blk hR0 0
  have c1 : w0.cell? ⟨R, 1, none⟩ = some (.int .i64 pos) := cell_blk hR0 1
  have c2 : w0.cell? ⟨R, 2, none⟩ = some (.int .i64 pr) := cell_blk hR0 2
  have f2 := free_blk hR0 2
  have f1 := free_blk hR0 1
  have hcp := fun w ty n => run_copy_none (P := Tryd.prog) w 22 22 ty 5 pa (some ⟨D, pos, none⟩) 0 pc n n Tryd.underlying22 Tryd.size5 (by simp)
  have HR0 : Hid _ := hR0
  clear hR0
  go_wp2_with fail
  go_region
  go_wp2_with fail
  go_ret2
  have h1 : Same (fun k => k = R) w w0 := Same.of_below (hst.below _)
  refine ⟨rfl, ?_, ((h1.setCell (S := fun k => k = R) (p := ⟨R, 2, none⟩) (fun _ => rfl) _).setCell (S := fun k => k = R) (p := ⟨R, 1, none⟩) (fun _ => rfl) _).drew⟩
  exact set_blk (set_blk HR0.out 2 (.int .i64 (-1))) 1 _
end Go.Proofs.Qxb6615636aDoor
