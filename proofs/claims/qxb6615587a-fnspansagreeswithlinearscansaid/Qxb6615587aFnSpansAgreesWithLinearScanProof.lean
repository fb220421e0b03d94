/-
  THE PROOF OF 'Rows.FnSpansAgreesWithLinearScanSaid' (seat b6615587a). The frame follows the guide's own shell for a law over slices; the walks lie in the texts that are imported.
-/
import Derived.Test.Qxb6615587aRows
import Derived.WalkKit
import Derived.ProofKit
import Derived.OpenShut
import Derived.ShutString
import Derived.ChangeOld
import Derived.Below
import Derived.Deep.SlicePairs
import Derived.Test.Qxb6615587aWalkL
namespace Go.Proofs.Qxb6615587a.fnSpansAgreesWithLinearScan
open Go.ChangeShapes Go.WideShapes Go.ChangeAt Go.RowKit
set_option linter.unusedVariables false

theorem own : ownKnob Try.prog.godebug = none := by kernel_rfl
theorem laidOut : laidOutB Try.prog = true := by kernel_rfl

/-- WHAT THE WALK IS TOLD OF A SLICE OF INTEGERS THAT CAME IN. -/
def IsRow (k : IntKind) (w : World) (a : Option Addr) (len cap : Nat) (zs : List Int) : Prop :=
  (a = none ∧ len = 0 ∧ cap = 0 ∧ zs = []) ∨
  ∃ x, a = some x ∧ len ≤ cap ∧ cap ≤ maxLen ∧ zs.length = cap ∧ (∀ i, i < zs.length → w.cell? (x.add i) = some (.int k (zs.getD i 0))) ∧ ∀ n ∈ zs, (Lit.int k n).wf = true

/-- .. of the slice of Match. -/
def IsPairs (w : World) (a : Option Addr) (len cap : Nat) (s d : Nat → Int) : Prop :=
  (a = none ∧ len = 0 ∧ cap = 0) ∨
  ∃ x, a = some x ∧ len ≤ cap ∧ cap ≤ maxLen ∧ ∀ i, i < len → w.cell? (x.add (i * 2)) = some (.int .u64 (s i)) ∧ w.cell? (x.add (i * 2 + 1)) = some (.int .u32 (d i))

theorem IsRow.row {k : IntKind} {w : World} {a : Option Addr} {len cap : Nat} {zs : List Int} (h : IsRow k w a len cap zs) : Row w w.heap.size k a len (fun i => zs.getD i 0) := by
  rcases h with ⟨rfl, rfl, rfl, rfl⟩ | ⟨x, rfl, hl, hm, hz, hc, _⟩
  · exact ⟨fun h => by omega⟩
  · refine ⟨fun h0 => ?_⟩
    obtain ⟨b, off, sp⟩ := x
    have hsp : sp = none := by simpa [Addr.add] using World.cell?_spot (hc 0 (by omega))
    subst hsp
    exact ⟨b, off, rfl, by have := lt_of_cell (hc 0 (by omega)); rw [add_plain] at this; exact this, fun i hi => by have := hc i (by omega); rwa [add_plain] at this⟩
theorem IsRow.len {k : IntKind} {w : World} {a : Option Addr} {len cap : Nat} {zs : List Int} (h : IsRow k w a len cap zs) : len ≤ maxLen := by
  rcases h with ⟨rfl, rfl, rfl, rfl⟩ | ⟨x, rfl, hl, hm, hz, hc, _⟩
  · exact Nat.zero_le _
  · omega
theorem IsRow.nil {k : IntKind} {w : World} {a : Option Addr} {len cap : Nat} {zs : List Int} (h : IsRow k w a len cap zs) : a = none → len = 0 ∧ cap = 0 := by
  intro e
  rcases h with ⟨rfl, rfl, rfl, rfl⟩ | ⟨x, rfl, _⟩
  · exact ⟨rfl, rfl⟩
  · simp at e
theorem IsRow.bounds {w : World} {a : Option Addr} {len cap : Nat} {zs : List Int} (h : IsRow .u32 w a len cap zs) : ∀ i, 0 ≤ zs.getD i 0 ∧ zs.getD i 0 ≤ 4294967295 := by
  intro i
  have hw : ∀ n ∈ zs, (Lit.int .u32 n).wf = true := by
    rcases h with ⟨rfl, rfl, rfl, rfl⟩ | ⟨x, rfl, _, _, _, _, hw⟩
    · intro n hn; simp at hn
    · exact hw
  have := range_u32 hw i
  simpa using this

theorem walk (a0 : Option Addr) (len0 cap0 : Nat) (z0 : List Int) (a1 : Option Addr) (len1 cap1 : Nat) (z1 : List Int) (a2 : Int) (a3 : Int) (a4 : Int) (a5 : Bool) (a6 : Option Addr) (len6 cap6 : Nat) (s d : Nat → Int) (a7 : Int) (w : World) (w0 : IsRow .u32 w a0 len0 cap0 z0) (w1 : IsRow .u32 w a1 len1 cap1 z1) (w2 : (Lit.int .i64 a2).wf = true) (w3 : (Lit.int .i64 a3).wf = true) (w6 : IsPairs w a6 len6 cap6 s d) :
    Calls Try.prog 4 #[.slice a0 len0 cap0, .slice a1 len1 cap1, .int .i64 a2, .int .i64 a3, .int .i64 a4, .bool a5, .slice a6 len6 cap6, .int .u64 a7] w fun e w' => e = .returned (.bool true) ∧ Below w.heap.size w w' := by
  by_cases hg : Good4 len0 len1 len6 a2 a3
  · obtain ⟨a, rfl⟩ := Int.eq_ofNat_of_zero_le hg.2.2.2.2.1
    obtain ⟨t, rfl⟩ := Int.eq_ofNat_of_zero_le (Int.le_trans hg.2.2.2.2.1 hg.2.2.2.2.2.1)
    obtain ⟨b6, o6, h6⟩ : ∃ b6 o6, 0 < len6 → a6 = some ⟨b6, o6, none⟩ ∧ b6 < w.heap.size ∧ ∀ i, i < len6 → w.cell? ⟨b6, o6 + i * 2, none⟩ = some (.int .u64 (s i)) ∧ w.cell? ⟨b6, o6 + i * 2 + 1, none⟩ = some (.int .u32 (d i)) := by
      rcases w6 with ⟨rfl, rfl, rfl⟩ | ⟨⟨b, off, sp⟩, rfl, hl, hm, hc⟩
      · exact ⟨0, 0, fun h => by omega⟩
      · refine ⟨b, off, fun h0 => ?_⟩
        have hsp : sp = none := by simpa [Addr.add] using World.cell?_spot (hc 0 h0).1
        subst hsp
        refine ⟨rfl, ?_, fun i hi => ?_⟩
        · have := lt_of_cell (hc 0 h0).1
          rw [add_plain] at this
          exact this
        · obtain ⟨q1, q2⟩ := hc i hi
          rw [add_plain] at q1 q2
          exact ⟨q1, by rw [Nat.add_assoc]; exact q2⟩
    exact agrees_main a0 a1 a6 len0 cap0 len1 cap1 len6 cap6 b6 o6 _ _ s d a t a4 a7 a5 w w0.bounds hg w0.nil (fun e => (w1.nil e).1) w0.row w1.row h6
  · exact agrees_out a0 a1 a6 len0 cap0 len1 cap1 len6 cap6 a2 a3 a4 a7 a5 w w0.len w1.len (by rcases w6 with ⟨_, rfl, _⟩ | ⟨x, _, hl, hm, _⟩; exact Nat.zero_le _; omega) w2 w3 hg

/-! ### THE ROW's STEP: WRITTEN OUT: LEAVE IT -/
set_option maxRecDepth 100000 in
theorem lifted (os : Os) (started : os.Started) (H : Type) (enc : TypeId × Value → H) :
    ReturnsInHanded {} Try.checked os 4 .any (Rows.fnSpansAgreesWithLinearScanSpec.pre6 enc Try.prog Try.f4 Rows.fnSpansAgreesWithLinearScanRow.domain false) (Rows.fnSpansAgreesWithLinearScanSpec.post enc Try.prog Try.f4 false true false false) := by
  refine returnsInHanded_of_change (C := Try.checked) own started (by kernel_rfl) Try.func4
    (ChangeSpec.witness6 (enc := enc) (C := Try.checked) false ⟨#[], #[.slice none 0 0, .slice none 0 0, .int .i64 0, .int .i64 0, .int .i64 0, .bool false, .slice none 0 0, .int .u64 0], []⟩ 8 (by kernel_rfl) (by kernel_rfl) (by kernel_rfl) (by kernel_rfl)) ?_
  intro W base args ds gs before hval0 hW hcnd _
  have hval : ∀ (j : Nat) t v, Try.f4.params[j]? = some t → args[j]? = some v → Value.okWide Try.prog W .any base t v := hval0
  have hW' := hW
  obtain ⟨p, q, hA0, hV, rfl, hfz, hnd⟩ := hW
  have hA : DataW.TrodAll enc Try.prog W 0 (fun _ => true) true Try.f4.params.toList args.toList ds p := hA0
  rw [Try.params4] at hA hval
  obtain ⟨v0, vs0, d0, ds0, p0, q0, hargs, rfl, rfl, h0, r0⟩ := trodAll_cons hA
  obtain ⟨v1, vs1, d1, ds1, p1, q1, rfl, rfl, rfl, h1, r1⟩ := trodAll_cons r0
  obtain ⟨v2, vs2, d2, ds2, p2, q2, rfl, rfl, rfl, h2, r2⟩ := trodAll_cons r1
  obtain ⟨v3, vs3, d3, ds3, p3, q3, rfl, rfl, rfl, h3, r3⟩ := trodAll_cons r2
  obtain ⟨v4, vs4, d4, ds4, p4, q4, rfl, rfl, rfl, h4, r4⟩ := trodAll_cons r3
  obtain ⟨v5, vs5, d5, ds5, p5, q5, rfl, rfl, rfl, h5, r5⟩ := trodAll_cons r4
  obtain ⟨v6, vs6, d6, ds6, p6, q6, rfl, rfl, rfl, h6, r6⟩ := trodAll_cons r5
  obtain ⟨v7, vs7, d7, ds7, p7, q7, rfl, rfl, rfl, h7, r7⟩ := trodAll_cons r6
  obtain ⟨rfl, rfl, rfl⟩ := trodAll_nil r7
  obtain rfl : args = #[v0, v1, v2, v3, v4, v5, v6, v7] := by cases args; simp_all
  obtain ⟨rfl, rfl⟩ := trodVars_none hV
  obtain ⟨a0, len0, cap0, rfl⟩ := okWide_slice Try.underlying22 (hval 0 22 v0 rfl rfl)
  have k0 := h0
  have lt0 : ∀ x ∈ p0, x.block < W.heap.size := by obtain ⟨m, hm⟩ := k0; exact DataW.trod_lt m _ _ _ hm
  obtain ⟨z0, w0⟩ : ∃ zs, IsRow .u32 W a0 len0 cap0 zs := by
    obtain ⟨fuel, hf⟩ := h0
    rcases open_ints Try.underlying22 Try.underlying34 (by kernel_rfl) hf with ⟨hcs, _⟩ | ⟨x, l, c, zs, hcs, _, hl, hm, hz, _, hcell, hwz⟩
    · simp [Value.cells] at hcs
      obtain ⟨rfl, rfl, rfl⟩ := hcs
      exact ⟨[], .inl ⟨rfl, rfl, rfl, rfl⟩⟩
    · simp [Value.cells] at hcs
      obtain ⟨rfl, rfl, rfl⟩ := hcs
      exact ⟨zs, .inr ⟨_, rfl, hl, hm, by simpa using hz, hcell, hwz⟩⟩
  obtain ⟨a1, len1, cap1, rfl⟩ := okWide_slice Try.underlying22 (hval 1 22 v1 rfl rfl)
  have k1 := h1
  have lt1 : ∀ x ∈ p1, x.block < W.heap.size := by obtain ⟨m, hm⟩ := k1; exact DataW.trod_lt m _ _ _ hm
  obtain ⟨z1, w1⟩ : ∃ zs, IsRow .u32 W a1 len1 cap1 zs := by
    obtain ⟨fuel, hf⟩ := h1
    rcases open_ints Try.underlying22 Try.underlying34 (by kernel_rfl) hf with ⟨hcs, _⟩ | ⟨x, l, c, zs, hcs, _, hl, hm, hz, _, hcell, hwz⟩
    · simp [Value.cells] at hcs
      obtain ⟨rfl, rfl, rfl⟩ := hcs
      exact ⟨[], .inl ⟨rfl, rfl, rfl, rfl⟩⟩
    · simp [Value.cells] at hcs
      obtain ⟨rfl, rfl, rfl⟩ := hcs
      exact ⟨zs, .inr ⟨_, rfl, hl, hm, by simpa using hz, hcell, hwz⟩⟩
  obtain ⟨a2, rfl, rfl, rfl, w2⟩ := open_int Try.underlying3 (hval 2 3 v2 rfl rfl) h2
  obtain ⟨a3, rfl, rfl, rfl, w3⟩ := open_int Try.underlying3 (hval 3 3 v3 rfl rfl) h3
  obtain ⟨a4, rfl, rfl, rfl, w4⟩ := open_int Try.underlying3 (hval 4 3 v4 rfl rfl) h4
  obtain ⟨a5, rfl, rfl, rfl⟩ := open_bool Try.underlying4 (hval 5 4 v5 rfl rfl) h5
  obtain ⟨a6, len6, cap6, rfl⟩ := okWide_slice Try.underlying41 (hval 6 41 v6 rfl rfl)
  have k6 := h6
  have lt6 : ∀ x ∈ p6, x.block < W.heap.size := by obtain ⟨m, hm⟩ := k6; exact DataW.trod_lt m _ _ _ hm
  obtain ⟨s6, e6, w6⟩ : ∃ s d, IsPairs W a6 len6 cap6 s d := by
    obtain ⟨fuel, hf⟩ := h6
    rcases Deep.open_slice_pairs Try.underlying41 Try.underlying44 (by kernel_rfl) rfl rfl (by kernel_rfl) (by kernel_rfl) hf with ⟨hcs, _⟩ | ⟨x, l, c, m, n, V0, V1, D0, D1, P0, P1, hcs, _, hl, hm, hmm, _, hx⟩
    · simp [Value.cells] at hcs
      obtain ⟨rfl, rfl, rfl⟩ := hcs
      exact ⟨fun _ => 0, fun _ => 0, .inl ⟨rfl, rfl, rfl⟩⟩
    · simp [Value.cells] at hcs
      obtain ⟨rfl, rfl, rfl⟩ := hcs
      refine ⟨fun i => intOf (V0 i), fun i => intOf (V1 i), .inr ⟨_, rfl, hl, hm, fun i hi => ?_⟩⟩
      have him : i < m := by rw [hmm]; split <;> omega
      obtain ⟨q1, q2, q3, q4⟩ := hx i him
      obtain ⟨x0, e0, _, _⟩ := DataW.trod_int Try.underlying23 q3
      obtain ⟨x1, e1, _, _⟩ := DataW.trod_int Try.underlying34 q4
      simp at e0 e1
      exact ⟨by rw [q1]; simp [e0, intOf], by rw [q2]; simp [e1, intOf]⟩
  obtain ⟨a7, rfl, rfl, rfl, w7⟩ := open_int Try.underlying23 (hval 7 23 v7 rfl rfl) h7
  clear hA0 hval0
  refine (walk a0 len0 cap0 z0 a1 len1 cap1 z1 a2 a3 a4 a5 a6 len6 cap6 s6 e6 a7 W w0 w1 w2 w3 w6).mono fun e W' ⟨he, bel⟩ => ?_
  subst he
  exact ⟨_, rfl, _, _, _, [], _, [], hW', trodAll_mk1 (shut_bool Try.underlying4 _), (trodAll_cons_mk (Below.trod laidOut (by kernel_rfl) (of_decide_eq_true (by kernel_rfl)) k0 bel lt0) (trodAll_cons_mk (Below.trod laidOut (by kernel_rfl) (of_decide_eq_true (by kernel_rfl)) k1 bel lt1) (trodAll_cons_mk (shut_int Try.underlying3 w2) (trodAll_cons_mk (shut_int Try.underlying3 w3) (trodAll_cons_mk (shut_int Try.underlying3 w4) (trodAll_cons_mk (shut_bool Try.underlying4 _) (trodAll_cons_mk (Below.trod laidOut (by kernel_rfl) (of_decide_eq_true (by kernel_rfl)) k6 bel lt6) (trodAll_cons_mk (shut_int Try.underlying23 w7) trodAll_mk0)))))))), rfl, bel.frame _, fun h => by cases h⟩

theorem over : Rows.fnSpansAgreesWithLinearScanRow.holds Try.pinned (OpenSpec.ofChange Rows.fnSpansAgreesWithLinearScanSpec) :=
  OpenClaim.holds_of_wide 4 Try.f4 rfl rfl rfl rfl rfl rfl rfl ⟨rfl, rfl, rfl, rfl, rfl⟩ rfl rfl rfl rfl rfl (by kernel_rfl) Try.func4 (by kernel_rfl)
    (of_decide_eq_true (by kernel_rfl)) (by unfold Func.isWrapper; first | (rw [if_pos (by decide +kernel)]; kernel_rfl) | (rw [if_neg (by decide +kernel)]; exact ⟨rfl, rfl⟩))
    (fun os started H enc _ => lifted os started H enc)

/-- ████ THE STATEMENT ████ -/
theorem proved : Rows.FnSpansAgreesWithLinearScanSaid := over
end Go.Proofs.Qxb6615587a.fnSpansAgreesWithLinearScan
namespace Go.Proofs.Qxb6615587a
/-- The given statement. -/
theorem fnSpansAgreesWithLinearScan_holds : Rows.FnSpansAgreesWithLinearScanSaid := fnSpansAgreesWithLinearScan.proved
end Go.Proofs.Qxb6615587a
