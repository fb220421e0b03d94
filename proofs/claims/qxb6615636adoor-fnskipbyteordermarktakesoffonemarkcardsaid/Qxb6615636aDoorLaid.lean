/-
  THE TWO SENTINELS, as the rows' cell 'laid' lays them (seat b6615636aD). After the guide's worked texts Sent6Proofs and MapyProofs.
-/
import Derived.Test.Qxb6615636aDoorWalkE
import Derived.ProofKit
import Derived.LaidMore
import Derived.OpenShut
import Derived.Stop.Joined
import Derived.LaidLaws
import Derived.RowKitTokens
import Derived.Deep.Matrix
namespace Go.Proofs.Qxb6615636aDoor
open Go.ChangeShapes Go.WideShapes Go.ChangeAt Go.RowKit
set_option linter.unusedVariables false

theorem Tryd.own : ownKnob Tryd.prog.godebug = none := by kernel_rfl
theorem Tryd.laidOut : laidOutB Tryd.prog = true := by kernel_rfl
theorem gEof : Tryd.prog.globalNamed "io.EOF" = some 0 := by kernel_rfl
theorem gPast : Tryd.prog.globalNamed "example.com/vestling/vestling/inputfile.errPastLimit" = some 1 := by kernel_rfl
theorem tEof : (Tryd.prog.globals[0]?).map (·.type) = some 44 := by kernel_rfl
theorem tPast : (Tryd.prog.globals[1]?).map (·.type) = some 44 := by kernel_rfl
theorem Tryd.cells82 : Tryd.prog.cellsOf 82 = 1 := by kernel_rfl
theorem star : "*" ++ "errors.errorString" = "*errors.errorString" := by decide
theorem row63 (u : TypeId) (h : Tryd.prog.typeName? 3 u = some "*errors.errorString") : u = 63 :=
  typeName_ptr_named (nm := "errors.errorString") (by rw [star]; kernel_rfl) (by kernel_rfl) (by decide) u (by rw [star]; exact h)

def laid2 : List (String × DataW Unit) := [("io.EOF", Rows.laid_io_EOF), ("example.com/vestling/vestling/inputfile.errPastLimit", Rows.laid_example_com_vestling_vestling_inputfile_errPastLimit)]

/-- The door's own heap meets the condition. -/
theorem door_met (os : Os) (args : Array Value) : laidMetH Tryd.prog laid2 ((World.doorLaid Tryd.prog 400 os).forCall (fun _ _ => 0) ⟨#[], args, []⟩).memory :=
  laidMetH_of_parts3 (fuel := 8) (laidMet_of_run' 8 (by kernel_rfl) (by kernel_rfl)) (by kernel_rfl) (by kernel_rfl)

theorem Tryd.cells9 : Tryd.prog.cellsOf 9 = 1 := by kernel_rfl

/-- What the listed variables are in a world that meets the condition. -/
theorem sent_of_laid {W : World} (h : laidMetH Tryd.prog laid2 W) : ∃ a0 a1 : Addr, Sent W W.heap.size a0 a1 ∧ W.var? Tryd.prog "example.com/vestling/vestling/inputfile.errPastLimit" = some #[.iface 63 (.pointer (some a1))] := by
  rw [MakeChecks.laidMetH_plain _ _ _ (by kernel_rfl)] at h
  obtain ⟨ps, ⟨g0, t0, cs0, f0, p0, q0, hg0, ht0, hv0, hd0, ⟨g1, t1, cs1, f1, p1, q1, hg1, ht1, hv1, hd1, hq1, e1⟩, e0⟩, hnd, hrows⟩ := h
  obtain rfl := Option.some.inj (gEof.symm.trans hg0)
  obtain rfl := Option.some.inj (gPast.symm.trans hg1)
  obtain rfl := Option.some.inj (tEof.symm.trans ht0)
  obtain rfl := Option.some.inj (tPast.symm.trans ht1)
  have hq1' : q1 = [] := hq1
  subst hq1'
  subst e1
  subst e0
  obtain ⟨l0⟩ := cs0
  obtain ⟨l1⟩ := cs1
  have ok0 : ∀ u v, l0 = [.iface u v] → Value.okWide Tryd.prog W .any 0 u v := fun u v e => by
    subst e
    exact (hrows 0 0 (by simp [MemPlace.row])).2 u v (by simpa using World.var?_cell hg0 hv0 0)
  have ok1 : ∀ u v, l1 = [.iface u v] → Value.okWide Tryd.prog W .any 0 u v := fun u v e => by
    subst e
    exact (hrows 1 0 (by simp [MemPlace.row])).2 u v (by simpa using World.var?_cell hg1 hv1 0)
  obtain ⟨a0, s0, rfl, hc0, hs0, hz0, rfl⟩ := errorString_of_trod Tryd.underlying44 row63 Tryd.underlying63 Tryd.underlying82 rfl rfl Tryd.underlying9 Tryd.cells82 Tryd.cells9 hd0 ok0
  obtain ⟨a1, s1, rfl, hc1, hs1, hz1, rfl⟩ := errorString_of_trod Tryd.underlying44 row63 Tryd.underlying63 Tryd.underlying82 rfl rfl Tryd.underlying9 Tryd.cells82 Tryd.cells9 hd1 ok1
  obtain ⟨c0, t0, hb0⟩ := (hrows a0.block a0.off (by simp [MemPlace.row])).1
  obtain ⟨c1, t1, hb1⟩ := (hrows a1.block a1.off (by simp [MemPlace.row])).1
  have hg0' : W.cell? ⟨0, 0, none⟩ = some (.iface 63 (.pointer (some a0))) := by simpa using World.var?_cell gEof hv0 0
  have hg1' : W.cell? ⟨1, 0, none⟩ = some (.iface 63 (.pointer (some a1))) := by simpa using World.var?_cell gPast hv1 0
  refine ⟨a0, a1, ⟨by have := lt_of_cell hg1'; simp at this; omega, hg0', hg1', lt_of_block hb0, lt_of_block hb1, ⟨c0, t0, hb0⟩, ⟨c1, t1, hb1⟩, ?_⟩, hv1⟩
  rintro rfl
  simp [MemPlace.row] at hnd

theorem var_below {W W' : World} {n : String} {g : Nat} {cs : Array Value} (hg : Tryd.prog.globalNamed n = some g) (hb : W'.heap[g]? = W.heap[g]?) (h : W.var? Tryd.prog n = some cs) : W'.var? Tryd.prog n = some cs := by
  unfold World.var? at h ⊢
  simp only [hg, Option.bind_some] at h ⊢
  rw [hb]
  exact h

theorem vars_read {H : Type} (enc : TypeId × Value → H) {W : World} {x1 : Value} (h1 : W.var? Tryd.prog "example.com/vestling/vestling/inputfile.errPastLimit" = some #[x1]) (i1 : IsIface x1) (sp : Nat → Bool) :
    DataW.TrodVars enc Tryd.prog W sp ["example.com/vestling/vestling/inputfile.errPastLimit"] [tok enc x1] [.cell 1 0] :=
  ⟨1, 44, #[x1], 1, [], [], gPast, tPast, h1, trod_held Tryd.underlying44 i1 0, rfl, rfl⟩

/-- What the walk is told of a slice of bytes that came in. -/
def IsRow (w : World) (a : Option Addr) (len cap : Nat) (zs : List Int) : Prop :=
  (a = none ∧ len = 0 ∧ cap = 0 ∧ zs = []) ∨
  ∃ x, a = some x ∧ len ≤ cap ∧ cap ≤ maxLen ∧ zs.length = cap ∧ (∀ i, i < zs.length → w.cell? (x.add i) = some (.int .u8 (zs.getD i 0))) ∧ ∀ n ∈ zs, (Lit.int .u8 n).wf = true
theorem IsRow.row {w : World} {a : Option Addr} {len cap : Nat} {zs : List Int} (h : IsRow w a len cap zs) : Row w w.heap.size .u8 a len (fun i => zs.getD i 0) := by
  rcases h with ⟨rfl, rfl, rfl, rfl⟩ | ⟨x, rfl, hl, hm, hz, hc, _⟩
  · exact ⟨fun h => by omega⟩
  · refine ⟨fun h0 => ?_⟩
    obtain ⟨b, off, sp⟩ := x
    have hsp : sp = none := by simpa [Addr.add] using World.cell?_spot (hc 0 (by omega))
    subst hsp
    exact ⟨b, off, rfl, by have := lt_of_cell (hc 0 (by omega)); rw [add_plain] at this; exact this, fun i hi => by have := hc i (by omega); rwa [add_plain] at this⟩
theorem IsRow.len {w : World} {a : Option Addr} {len cap : Nat} {zs : List Int} (h : IsRow w a len cap zs) : len ≤ maxLen := by
  rcases h with ⟨rfl, rfl, rfl, rfl⟩ | ⟨x, rfl, hl, hm, hz, hc, _⟩
  · exact Nat.zero_le _
  · omega
theorem IsRow.nil {w : World} {a : Option Addr} {len cap : Nat} {zs : List Int} (h : IsRow w a len cap zs) : a = none → len = 0 ∧ cap = 0 := by
  intro e
  rcases h with ⟨rfl, rfl, rfl, rfl⟩ | ⟨x, rfl, _⟩
  · exact ⟨rfl, rfl⟩
  · simp at e
end Go.Proofs.Qxb6615636aDoor
