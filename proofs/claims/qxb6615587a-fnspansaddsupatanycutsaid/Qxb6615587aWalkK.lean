/-
  copy INTO A ROW OF THE CALL's OWN, AS A LAW; zzSpansWordsFit at any slice; FnSpansAgreesWithLinearScan where she returns early (seat b6615587a).
-/
import Derived.Test.Qxb6615587aWalkJ
import Derived.Laws.CopyOwn
namespace Go.Proofs.Qxb6615587a
open Go.ChangeShapes Go.WideShapes Go.ChangeAt Go.RowKit
set_option linter.unusedVariables false

theorem vals_oneCell (k : IntKind) (f : Nat → Int) (n : Nat) : ∀ v ∈ vals k f n, v.oneCell' = true := by
  intro v hv
  simp [vals] at hv
  obtain ⟨i, _, rfl⟩ := hv
  simp [Value.oneCell']

/-- copy into a row of the call's own, as long as the source. -/
theorem run_copy_mine {P : Program} {w : World} (dT elem : TypeId) (hu : P.underlying dT = some (.slice elem)) (hsz : (P.info? elem).map (·.size) = some 1) (g n sCap : Nat) (sp : Option Addr) (k : IntKind) (t : TypeId) (z c : Nat → Int) (B : Nat) (hown : Own w g n k t z) (hrow : Row w B k sp n c) :
    ∃ w2, (∀ ty, (Builtin.copy_ #[dT, dT] ty #[.slice (some ⟨g, 0, none⟩) n n, .slice sp n sCap]).run P w = .ok (goInt n) w2) ∧ Own w2 g n k t c ∧ ∀ B0 w0, Below B0 w0 w → B0 ≤ g → Below B0 w0 w2 := by
  obtain ⟨cur, hh, hsz', hc⟩ := hown.arr
  rcases Nat.eq_zero_or_pos n with h0 | h0
  · subst h0
    exact ⟨w, fun ty => run_copy_none w dT dT ty elem _ sp 0 0 0 sCap hu hsz rfl, ⟨cur, hh, hsz', fun i hi => by omega⟩, fun _ _ h _ => h⟩
  · obtain ⟨b, off, rfl, hB, hcc⟩ := hrow.cells h0
    have hl : (vals k c n).length = n := vals_length k c n
    have e : cur.toList.drop n = [] := List.drop_eq_nil_of_le (by simp; omega)
    have e2 : (cur.toList.take 0 ++ vals k c n ++ cur.toList.drop (0 + (vals k c n).length)).toArray = (vals k c n).toArray := by
      rw [hl, Nat.zero_add, e]; simp
    refine ⟨w.setRow g (vals k c n).toArray, fun ty => ?_, ⟨_, setRow_heap w g cur _ t _ hh, by simp [hl], fun i hi => by simpa using vals_at k c n i hi⟩, fun B0 w0 hb hg => below_setRow hb hg _⟩
    have hr := run_copy_row (P := P) w dT dT ty elem g 0 n n ⟨b, off, none⟩ n sCap cur t (vals k c n) hu hsz hh (by rw [hl]; simp) (fun j v hj => ?_) (by rw [hl]; omega) (vals_oneCell k c n)
    · rw [e2, hl] at hr
      exact hr
    · have hjn : j < n := by
        have := (List.getElem?_eq_some_iff.1 hj).1
        rwa [hl] at this
      rw [vals_at k c n j hjn] at hj
      simp at hj
      subst hj
      rw [add_plain]
      exact hcc j hjn

theorem wordsFit_any (ao : Option Addr) (len cap : Nat) (f : Nat → Int) (a t B : Nat) (w : World) (hf : ∀ i, 0 ≤ f i ∧ f i ≤ 4294967295) (hat : a ≤ t) (htl : t ≤ len) (hlen : len ≤ 65536) (hr : Row w B .u32 ao len f) :
    Calls Try.prog 6 #[.slice ao len cap, .int .i64 a, .int .i64 t] w fun e w' => FitPost f a t e ∧ w = w' := by
  by_cases h : a = t
  · subst h
    exact (wordsFit_none ao len cap a w).mono fun e w' ⟨he, hw⟩ => ⟨he ▸ FitPost.yes (Fit.none f a), hw⟩
  · obtain ⟨b, off, rfl, hB, hc⟩ := hr.cells (by omega)
    exact wordsFit_some b off len cap f a t w hf (by omega) htl (by omega) hc

/-- The inputs at which FnSpansAgreesWithLinearScan goes on behind her first tests. -/
def Good4 (l0 l1 l6 : Nat) (a2 a3 : Int) : Prop := l0 ≤ 65536 ∧ l1 ≤ 65536 ∧ l6 ≤ 65536 ∧ 4 * l0 + 4 * l1 + 16 * l6 ≤ 1048576 ∧ 0 ≤ a2 ∧ a2 ≤ a3 ∧ a3 ≤ l0 ∧ a3 ≤ l1

set_option maxHeartbeats 1000000 in
set_option maxRecDepth 100000 in
theorem agrees_out (a0 a1 a6 : Option Addr) (l0 c0 l1 c1 l6 c6 : Nat) (a2 a3 a4 a7 : Int) (a5 : Bool) (w : World) (h0 : l0 ≤ maxLen) (h1 : l1 ≤ maxLen) (h6 : l6 ≤ maxLen) (w2 : (Lit.int .i64 a2).wf = true) (w3 : (Lit.int .i64 a3).wf = true) (hbad : ¬ Good4 l0 l1 l6 a2 a3) :
    Calls Try.prog 4 #[.slice a0 l0 c0, .slice a1 l1 c1, .int .i64 a2, .int .i64 a3, .int .i64 a4, .bool a5, .slice a6 l6 c6, .int .u64 a7] w fun e w' => e = .returned (.bool true) ∧ Below w.heap.size w w' := by
  have hbad' : ¬ (l0 ≤ 65536 ∧ l1 ≤ 65536 ∧ l6 ≤ 65536 ∧ 4 * l0 + 4 * l1 + 16 * l6 ≤ 1048576 ∧ 0 ≤ a2 ∧ a2 ≤ a3 ∧ a3 ≤ l0 ∧ a3 ≤ l1) := hbad
  have HB : Hid (¬ (l0 ≤ 65536 ∧ l1 ≤ 65536 ∧ l6 ≤ 65536 ∧ 4 * l0 + 4 * l1 + 16 * l6 ≤ 1048576 ∧ 0 ≤ a2 ∧ a2 ≤ a3 ∧ a3 ≤ l0 ∧ a3 ≤ l1)) := hbad'
  clear hbad hbad'
  unfold maxLen at h0 h1 h6
  go_enter Try.func4, Try.ntmps4
  go_wp2_with fail
  refine (bytes16_any a0 a1 a6 l0 c0 l1 c1 l6 c6 a2 a3 a4 a7 a5 w (by unfold maxLen; omega) (by unfold maxLen; omega) (by unfold maxLen; omega)).mono ?_
  rintro e w' ⟨⟨b, rfl⟩, rfl⟩
  cases b with
  | false =>
    go_wp2_with fail
    go_ret
    exact ⟨rfl, Below.refl _ _⟩
  | true =>
    go_wp2_with fail
    all_goals first | (go_ret; exact ⟨rfl, Below.refl _ _⟩) | (exfalso; have := HB.out; omega)
end Go.Proofs.Qxb6615587a
