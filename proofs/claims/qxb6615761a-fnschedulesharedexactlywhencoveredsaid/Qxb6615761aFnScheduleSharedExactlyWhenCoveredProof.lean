/-
  THE PROOF OF 'Rows.FnScheduleSharedExactlyWhenCoveredSaid' (seat b6615761a). The frame follows the guide's own shell for a law.
-/
import Derived.Test.Qxb6615761aRows
import Derived.Test.Qxb6615761aWalkA
import Derived.WalkKit
import Derived.ProofKit
import Derived.OpenShut
import Derived.ShutString
import Derived.ChangeOld
import Derived.Below
namespace Go.Proofs.Qxb6615761a.fnScheduleSharedExactlyWhenCovered
open Go.ChangeShapes Go.WideShapes Go.ChangeAt Go.RowKit
open Go.ChangeMaps (open_string shut_string)
set_option linter.unusedVariables false

theorem own : ownKnob Try.prog.godebug = none := by kernel_rfl
theorem laidOut : laidOutB Try.prog = true := by kernel_rfl
theorem cells9 : Try.prog.cellsOf 9 = 1 := by kernel_rfl

theorem lt_of_cell {w : World} {p : Addr} {v : Value} (h : w.cell? p = some v) : p.block < w.heap.size := by
  unfold World.cell? at h
  by_cases hl : p.block < w.heap.size
  · exact hl
  · rw [Array.getElem?_eq_none (by omega)] at h
    simp at h

theorem open_ps {H : Type} {enc : TypeId × Value → H} {W : World} {base : Nat} {sp : Nat → Bool} {held : Bool} {r : Reach} {b0 : Nat} {v : Value} {d : DataW H} {ps : List MemPlace} (hval : Value.okWide Try.prog W r b0 22 v) (hd : DataW.Trod enc Try.prog W base sp held 22 v d ps) :
    ∃ s, PS W W.heap.size v s ∧ s.size ≤ maxLen := by
  rcases ChangeShapes.open_ptr Try.underlying22 (by rw [cells9]; omega) hval hd with ⟨h, _, _⟩ | ⟨b, off, cs, y, fuel, rfl, _, _, hlen, hcell, hy⟩
  · exact ⟨{ data := #[] }, .inl ⟨h, rfl⟩, Nat.zero_le _⟩
  · obtain ⟨s, rfl, _, hs⟩ := DataW.trod_string Try.underlying9 hy
    have hc := hcell 0 (by rw [cells9]; omega)
    have hc' : W.cell? ⟨b, off, none⟩ = some (.string s) := by simpa using hc
    exact ⟨s, .inr ⟨_, rfl, lt_of_cell hc', hc'⟩, hs⟩

set_option maxRecDepth 100000 in
theorem lifted (os : Os) (started : os.Started) (H : Type) (enc : TypeId × Value → H) :
    ReturnsInHanded {} Try.checked os 3 .any (Rows.fnScheduleSharedExactlyWhenCoveredSpec.pre6 enc Try.prog Try.f3 Rows.fnScheduleSharedExactlyWhenCoveredRow.domain false) (Rows.fnScheduleSharedExactlyWhenCoveredSpec.post enc Try.prog Try.f3 false true false false) := by
  refine returnsInHanded_of_change (C := Try.checked) own started (by kernel_rfl) Try.func3
    (ChangeSpec.witness6 (enc := enc) (C := Try.checked) false ⟨#[], #[.pointer none, .pointer none, .string ByteArray.empty, .int .i64 0], []⟩ 8 (by kernel_rfl) (by kernel_rfl) (by kernel_rfl) (by kernel_rfl)) ?_
  intro W base args ds gs before hval0 hW hcnd _
  have hval : ∀ (j : Nat) t v, Try.f3.params[j]? = some t → args[j]? = some v → Value.okWide Try.prog W .any base t v := hval0
  have hW' := hW
  obtain ⟨p, q, hA0, hV, rfl, hfz, hnd⟩ := hW
  have hA : DataW.TrodAll enc Try.prog W 0 (fun _ => true) true Try.f3.params.toList args.toList ds p := hA0
  rw [Try.params3] at hA hval
  obtain ⟨v0, vs0, d0, ds0, p0, q0, hargs, rfl, rfl, h0, r0⟩ := trodAll_cons hA
  obtain ⟨v1, vs1, d1, ds1, p1, q1, rfl, rfl, rfl, h1, r1⟩ := trodAll_cons r0
  obtain ⟨v2, vs2, d2, ds2, p2, q2, rfl, rfl, rfl, h2, r2⟩ := trodAll_cons r1
  obtain ⟨v3, vs3, d3, ds3, p3, q3, rfl, rfl, rfl, h3, r3⟩ := trodAll_cons r2
  obtain ⟨rfl, rfl, rfl⟩ := trodAll_nil r3
  obtain rfl : args = #[v0, v1, v2, v3] := by cases args; simp_all
  obtain ⟨rfl, rfl⟩ := trodVars_none hV
  have k0 := h0
  have lt0 : ∀ x ∈ p0, x.block < W.heap.size := by obtain ⟨m, hm⟩ := k0; exact DataW.trod_lt m _ _ _ hm
  obtain ⟨s0, w0, m0⟩ := open_ps (hval 0 22 v0 rfl rfl) h0
  have k1 := h1
  have lt1 : ∀ x ∈ p1, x.block < W.heap.size := by obtain ⟨m, hm⟩ := k1; exact DataW.trod_lt m _ _ _ hm
  obtain ⟨s1, w1, m1⟩ := open_ps (hval 1 22 v1 rfl rfl) h1
  obtain ⟨a2, rfl, rfl, rfl, w2⟩ := open_string Try.underlying9 (hval 2 9 v2 rfl rfl) h2
  obtain ⟨a3, rfl, rfl, rfl, w3⟩ := open_int Try.underlying3 (hval 3 3 v3 rfl rfl) h3
  clear hA0 hval0
  refine (law3 v0 v1 s0 s1 a2 a3 W w0 w1 (by unfold maxLen at m0; omega) (by unfold maxLen at m1; omega) (by unfold maxLen at w2; omega)).mono fun e W' ⟨he, bel⟩ => ?_
  subst he
  exact ⟨_, rfl, _, _, _, [], _, [], hW', trodAll_mk1 (shut_bool Try.underlying4 _), (trodAll_cons_mk (Below.trod laidOut (by kernel_rfl) (of_decide_eq_true (by kernel_rfl)) k0 bel lt0) (trodAll_cons_mk (Below.trod laidOut (by kernel_rfl) (of_decide_eq_true (by kernel_rfl)) k1 bel lt1) (trodAll_cons_mk (shut_string Try.underlying9 w2) (trodAll_cons_mk (shut_int Try.underlying3 w3) trodAll_mk0)))), rfl, bel.frame _, fun h => by cases h⟩

theorem over : Rows.fnScheduleSharedExactlyWhenCoveredRow.holds Try.pinned (OpenSpec.ofChange Rows.fnScheduleSharedExactlyWhenCoveredSpec) :=
  OpenClaim.holds_of_wide 3 Try.f3 rfl rfl rfl rfl rfl rfl rfl ⟨rfl, rfl, rfl, rfl, rfl⟩ rfl rfl rfl rfl rfl (by kernel_rfl) Try.func3 (by kernel_rfl)
    (of_decide_eq_true (by kernel_rfl)) (by unfold Func.isWrapper; first | (rw [if_pos (by decide +kernel)]; kernel_rfl) | (rw [if_neg (by decide +kernel)]; exact ⟨rfl, rfl⟩))
    (fun os started H enc _ => lifted os started H enc)

/-- ████ THE STATEMENT ████ -/
theorem proved : Rows.FnScheduleSharedExactlyWhenCoveredSaid := over
end Go.Proofs.Qxb6615761a.fnScheduleSharedExactlyWhenCovered
namespace Go.Proofs.Qxb6615761a
/-- The given statement. -/
theorem fnScheduleSharedExactlyWhenCovered_holds : Rows.FnScheduleSharedExactlyWhenCoveredSaid := fnScheduleSharedExactlyWhenCovered.proved
end Go.Proofs.Qxb6615761a
