/-
  THE PROOF OF 'Rows.FnSkipByteOrderMarkTakesOffOneMarkCardSaid' (seat b6615636aD). The frame follows the guide's worked texts (Sent6Proofs, MapyProofs, ToyasCard).
-/
import Derived.Test.Qxb6615636aDoorWalkU
import Derived.Test.Qxb6615636aDoorLaid6
import Derived.Test.Qxb6615636aDoorTie
import Derived.Test.Qxb6615636aDoorCards
import Derived.SevenTiedAt
namespace Go.Proofs.Qxb6615636aDoor.fnSkipByteOrderMarkTakesOffOneMark
open Go.ChangeShapes Go.WideShapes Go.ChangeAt Go.RowKit
set_option linter.unusedVariables false

set_option maxRecDepth 100000 in
theorem lifted (os : Os) (started : os.Started) (H : Type) (enc : TypeId × Value → H) :
    ReturnsInHanded {} Tryd.checked os 5 .any (fun w args => (Rows.fnSkipByteOrderMarkTakesOffOneMarkSpec.pre enc Tryd.prog Tryd.f5 [] false w args ∧ laidMetH Tryd.prog laid6 w) ∧ sizedMet enc Tryd.prog Tryd.f5 (OpenSpec.ofChange Rows.fnSkipByteOrderMarkTakesOffOneMarkSpec) false w args)
      (Rows.fnSkipByteOrderMarkTakesOffOneMarkSpec.post enc Tryd.prog Tryd.f5 false true false false) := by
  refine returnsInHanded_of_change_and (C := Tryd.checked) (X := fun w _ => laidMetH Tryd.prog laid6 w) (fun _ _ _ hh h => h.of_heap hh) Tryd.own started (by kernel_rfl) Tryd.func5
    (ChangeSpec.witness_shaped (enc := enc) (C := Tryd.checked) (os := os) (X := fun w _ => laidMetH Tryd.prog laid6 w) false (World.doorLaid Tryd.prog 400 os) #[.slice none 0 0] 8 rfl (World.shaped_of_RefB (by kernel_rfl) (by kernel_rfl)) (by kernel_rfl) (by kernel_rfl) (by kernel_rfl) (door_met6 os _)) ?_
  intro W base args ds gs before hval0 hW _ _ hL _
  have hval : ∀ (j : Nat) t v, Tryd.f5.params[j]? = some t → args[j]? = some v → Value.okWide Tryd.prog W .any base t v := hval0
  have hW' := hW
  obtain ⟨p, q, hA0, hV0, rfl, hfz, hnd⟩ := hW
  have hA : DataW.TrodAll enc Tryd.prog W 0 (fun _ => true) true Tryd.f5.params.toList args.toList ds p := hA0
  have hV : DataW.TrodVars enc Tryd.prog W (fun _ => true) ["example.com/vestling/vestling/inputfile.errPastLimit"] gs q := hV0
  rw [Tryd.params5] at hA hval
  obtain ⟨v0, d0, hargs, rfl, h0⟩ := trodAll_one hA
  obtain rfl : args = #[v0] := by cases args; simp_all
  obtain ⟨x0, x1, hsent, hvar⟩ := sent_of_laid6 hL
  obtain ⟨rfl, rfl⟩ := hV.unique (vars_read enc hvar trivial _)
  obtain ⟨a0, len0, cap0, rfl⟩ := okWide_slice Tryd.underlying22 (hval 0 22 v0 rfl rfl)
  have k0 := h0
  have lt0 : ∀ x ∈ p, x.block < W.heap.size := by obtain ⟨m, hm⟩ := k0; exact DataW.trod_lt m _ _ _ hm
  obtain ⟨z0, w0⟩ : ∃ zs, IsRow W a0 len0 cap0 zs := by
    obtain ⟨fuel, hf⟩ := h0
    rcases open_ints Tryd.underlying22 Tryd.underlying5 (by kernel_rfl) hf with ⟨hcs, _⟩ | ⟨x, l, c, zs, hcs, _, hl, hm, hz, _, hcell, hwz⟩
    · simp [Value.cells] at hcs
      obtain ⟨rfl, rfl, rfl⟩ := hcs
      exact ⟨[], .inl ⟨rfl, rfl, rfl, rfl⟩⟩
    · simp [Value.cells] at hcs
      obtain ⟨rfl, rfl, rfl⟩ := hcs
      exact ⟨zs, .inr ⟨_, rfl, hl, hm, by simpa using hz, hcell, hwz⟩⟩
  have hr8 : ∀ i, i < len0 → 0 ≤ z0.getD i 0 ∧ z0.getD i 0 ≤ 255 := by
    intro i _
    have hw : ∀ n ∈ z0, (Lit.int .u8 n).wf = true := by
      rcases w0 with ⟨_, _, _, rfl⟩ | ⟨x, _, _, _, _, _, hw⟩
      · intro n hn; simp at hn
      · exact hw
    have := range_u8 hw i
    simpa using this
  clear hA0 hval0 hV0
  refine (bom_main a0 len0 cap0 _ x0 x1 W (by have := w0.len; unfold maxLen at this; omega) hsent w0.nil w0.row hr8).mono fun e W' ⟨he, bel⟩ => ?_
  subst he
  exact ⟨_, rfl, _, _, _, [], _, _, hW', trodAll_mk1 (shut_bool Tryd.underlying4 _), (trodAll_mk1 (Below.trod Tryd.laidOut (by kernel_rfl) (of_decide_eq_true (by kernel_rfl)) k0 bel lt0)), vars_read enc (var_below gPast (bel.block 1 (by have := hsent.pos; omega)) hvar) trivial _, bel.frame _, fun h => by cases h⟩

theorem row_holds : Rows.FnSkipByteOrderMarkTakesOffOneMarkSaid :=
  OpenClaim.holds_of_wide 5 Tryd.f5 rfl rfl rfl rfl rfl rfl rfl ⟨rfl, rfl, rfl, rfl, rfl⟩ rfl rfl rfl rfl rfl (by kernel_rfl) Tryd.func5 (by kernel_rfl)
    (of_decide_eq_true (by kernel_rfl)) (by unfold Func.isWrapper; first | (rw [if_pos (by decide +kernel)]; kernel_rfl) | (rw [if_neg (by decide +kernel)]; exact ⟨rfl, rfl⟩))
    (fun os started H enc _ => lifted os started H enc)

theorem card_holds : Rows.FnSkipByteOrderMarkTakesOffOneMarkCardSaid :=
  Claim7.holds_tied_plain_at .later [] [.sentinel, .sentinel, .sentinel, .sentinel, .sentinel, .sentinel] true (true, "46797cb3fb60baf7c139aafe205f0d7b5fe94c5b67a4f667fafbaf0f5e506cfc") true
    row_holds (fun _ h => by cases h) (by kernel_rfl) (fun _ h => by cases h) fnSkipByteOrderMarkTakesOffOneMark_row_tie rfl ⟨rfl, rfl⟩ (by kernel_rfl) rfl
    (fun f fn hf hfn => by
      obtain rfl : f = 5 := Option.some.inj ((show Tryd.prog.funcNamed "example.com/vestling/vestling/zzlaws_inputfile_b1.FnSkipByteOrderMarkTakesOffOneMark" = some 5 by kernel_rfl).symm.trans hf) |>.symm
      obtain rfl : fn = Tryd.f5 := (Option.some.inj (Tryd.func5.symm.trans hfn)).symm
      exact ⟨by kernel_rfl, fun j t ht => by
        rw [Tryd.params5] at ht
        have h3 : t = 22 := by
          rcases j with _ | j
          · simpa using ht.symm
          · simp at ht
        subst h3
        exact (show Tryd.prog.wantsStandIn 22 = false by kernel_rfl)⟩)
    (by kernel_rfl)
end Go.Proofs.Qxb6615636aDoor.fnSkipByteOrderMarkTakesOffOneMark
namespace Go.Proofs.Qxb6615636aDoor
/-- The given statement. -/
theorem fnSkipByteOrderMarkTakesOffOneMark_holds : Rows.FnSkipByteOrderMarkTakesOffOneMarkCardSaid := fnSkipByteOrderMarkTakesOffOneMark.card_holds
end Go.Proofs.Qxb6615636aDoor
