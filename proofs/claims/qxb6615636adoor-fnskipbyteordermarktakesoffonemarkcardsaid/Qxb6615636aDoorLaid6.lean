/-
  THE SIX SENTINELS, as the row's cell 'laid' lays them (seat b6615636aD).
-/
import Derived.Test.Qxb6615636aDoorLaid
namespace Go.Proofs.Qxb6615636aDoor
open Go.ChangeShapes Go.WideShapes Go.ChangeAt Go.RowKit
set_option linter.unusedVariables false

def laid6 : List (String × DataW Unit) := [("io.EOF", Rows.laid_io_EOF), ("io.ErrNoProgress", Rows.laid_io_ErrNoProgress), ("bufio.ErrBufferFull", Rows.laid_bufio_ErrBufferFull), ("bufio.ErrNegativeCount", Rows.laid_bufio_ErrNegativeCount), ("bufio.errNegativeRead", Rows.laid_bufio_errNegativeRead), ("example.com/vestling/vestling/inputfile.errPastLimit", Rows.laid_example_com_vestling_vestling_inputfile_errPastLimit)]

theorem door_met6 (os : Os) (args : Array Value) : laidMetH Tryd.prog laid6 ((World.doorLaid Tryd.prog 400 os).forCall (fun _ _ => 0) ⟨#[], args, []⟩).memory :=
  laidMetH_of_parts3 (fuel := 8) (laidMet_of_run' 8 (by kernel_rfl) (by kernel_rfl)) (by kernel_rfl) (by kernel_rfl)

theorem sent_of_laid6 {W : World} (h : laidMetH Tryd.prog laid6 W) : ∃ a0 a1 : Addr, Sent W W.heap.size a0 a1 ∧ W.var? Tryd.prog "example.com/vestling/vestling/inputfile.errPastLimit" = some #[.iface 63 (.pointer (some a1))] := by
  rw [MakeChecks.laidMetH_plain _ _ _ (by kernel_rfl)] at h
  obtain ⟨ps, ⟨g0, t0, cs0, f0, p0, q0, hg0, ht0, hv0, hd0, ⟨g2, t2, cs2, f2, p2, q2, hg2, ht2, hv2, hd2, ⟨g3, t3, cs3, f3, p3, q3, hg3, ht3, hv3, hd3, ⟨g4, t4, cs4, f4, p4, q4, hg4, ht4, hv4, hd4, ⟨g5, t5, cs5, f5, p5, q5, hg5, ht5, hv5, hd5, ⟨g1, t1, cs1, f1, p1, q1, hg1, ht1, hv1, hd1, hq1, e1⟩, e5⟩, e4⟩, e3⟩, e2⟩, e0⟩, hnd, hrows⟩ := h
  obtain rfl := Option.some.inj (gEof.symm.trans hg0)
  obtain rfl := Option.some.inj (gPast.symm.trans hg1)
  obtain rfl := Option.some.inj (tEof.symm.trans ht0)
  obtain rfl := Option.some.inj (tPast.symm.trans ht1)
  have hq1' : q1 = [] := hq1
  subst hq1'
  subst e1
  subst e5
  subst e4
  subst e3
  subst e2
  subst e0
  obtain ⟨l0⟩ := cs0
  obtain ⟨l1⟩ := cs1
  have ok0 : ∀ u v, l0 = [.iface u v] → Value.okWide Tryd.prog W .any 0 u v := fun u v e => by
    subst e
    exact (hrows 0 0 (by simp [MemPlace.row])).2 u v (by simpa using World.var?_cell hg0 hv0 0)
  have ok1 : ∀ u v, l1 = [.iface u v] → Value.okWide Tryd.prog W .any 0 u v := fun u v e => by
    subst e
    exact (hrows 1 0 (by simp [MemPlace.row])).2 u v (by simpa using World.var?_cell hg1 hv1 0)
  obtain ⟨a0, s0, rfl, hc0, hs0, hz0, rfl⟩ := errorString_of_trod Tryd.underlying44 row63 Tryd.underlying63 Tryd.underlying82 rfl rfl Tryd.underlying9 Tryd.cells82 Tryd.cells9 hd0 ok0
  obtain ⟨a1, s1, rfl, hc1, hs1, hz1, rfl⟩ := errorString_of_trod Tryd.underlying44 row63 Tryd.underlying63 Tryd.underlying82 rfl rfl Tryd.underlying9 Tryd.cells82 Tryd.cells9 hd1 ok1
  obtain ⟨c0, t0, hb0⟩ := (hrows a0.block a0.off (by simp [MemPlace.row])).1
  obtain ⟨c1, t1, hb1⟩ := (hrows a1.block a1.off (by simp [MemPlace.row])).1
  have hg0' : W.cell? ⟨0, 0, none⟩ = some (.iface 63 (.pointer (some a0))) := by simpa using World.var?_cell gEof hv0 0
  have hg1' : W.cell? ⟨1, 0, none⟩ = some (.iface 63 (.pointer (some a1))) := by simpa using World.var?_cell gPast hv1 0
  refine ⟨a0, a1, ⟨by have := lt_of_cell hg1'; simp at this; omega, hg0', hg1', lt_of_block hb0, lt_of_block hb1, ⟨c0, t0, hb0⟩, ⟨c1, t1, hb1⟩, ?_⟩, hv1⟩
  rintro rfl
  simp [MemPlace.row] at hnd
end Go.Proofs.Qxb6615636aDoor
