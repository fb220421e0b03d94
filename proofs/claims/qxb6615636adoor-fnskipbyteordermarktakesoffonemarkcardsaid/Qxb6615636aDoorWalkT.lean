/-
  THE WALK of FnSkipByteOrderMarkTakesOffOneMark (seat b6615636aD).
-/
import Derived.Test.Qxb6615636aDoorWalkS
namespace Go.Proofs.Qxb6615636aDoor
open Go.ChangeShapes Go.WideShapes Go.ChangeAt Go.RowKit
set_option linter.unusedVariables false

def Fit1 (l0 : Nat) (e : Ending) (w w' : World) : Prop := ∃ b : Bool, e = .returned (.bool b) ∧ Still w w' ∧ (b = true → l0 ≤ 1048576)
theorem fit14 (a0 : Option Addr) (l0 c0 : Nat) (w : World) (h0 : l0 ≤ 9223372036854775807) : Calls Tryd.prog 14 #[.slice a0 l0 c0] w fun e w' => Fit1 l0 e w w' := by
  by_cases g1 : 1048576 < l0
  · go_enter Tryd.func14, Tryd.ntmps14
    go_wp2_with fail
    go_ret
    exact ⟨false, rfl, Still.refl _, fun h => by simp at h⟩
  · go_enter Tryd.func14, Tryd.ntmps14
    go_wp2_with fail
    go_ret
    exact ⟨true, rfl, Still.refl _, fun _ => by omega⟩

theorem equal_diff (a b : Option Addr) (n m ca cb : Nat) (w : World) (hn : n ≤ 4194304) (hm : m ≤ 4194304) (h : n ≠ m) : Calls Tryd.prog 11 #[.slice a n ca, .slice b m cb] w fun e w' => e = .returned (.bool false) ∧ Still w w' := by
  have h1 : ¬ (n : Int) = (m : Int) := by omega
  have h2 : ((n : Int) == (m : Int)) = false := by rw [beq_eq_false_iff_ne]; exact h1
  go_enter Tryd.func11, Tryd.ntmps11
  go_wp2_with fail
  go_ret
  exact ⟨rfl, Still.refl _⟩

/-- The marked text's bytes. -/
def marked (g : Nat → Int) (i : Nat) : Int := if i = 0 then 239 else if i = 1 then 187 else if i = 2 then 191 else g (i - 3)
theorem marked_vals (g : Nat → Int) (n : Nat) : ([Value.int .u8 239, .int .u8 187, .int .u8 191] ++ vals .u8 g n) = vals .u8 (marked g) (3 + n) := by
  induction n with
  | zero => simp [vals, List.range_succ, marked]
  | succ n ih =>
    rw [vals_succ, ← List.append_assoc, ih, ← Nat.add_assoc, vals_succ]
    have : marked g (3 + n) = g n := by
      unfold marked
      rw [if_neg (by omega), if_neg (by omega), if_neg (by omega)]
      congr 1
      omega
    rw [this]
theorem marked_bom (g : Nat → Int) (n : Nat) : bom (n + 3) (marked g) := ⟨by omega, rfl, rfl, rfl⟩
theorem marked_after (g : Nat → Int) (i : Nat) : marked g (3 + i) = g i := by
  unfold marked
  rw [if_neg (by omega), if_neg (by omega), if_neg (by omega)]
  congr 1
  omega
theorem marked_range {g : Nat → Int} {n : Nat} (hg : ∀ i, i < n → 0 ≤ g i ∧ g i ≤ 255) : ∀ i, i < n + 3 → 0 ≤ marked g i ∧ marked g i ≤ 255 := by
  intro i hi
  unfold marked
  by_cases h0 : i = 0
  · rw [if_pos h0]; omega
  by_cases h1 : i = 1
  · rw [if_neg h0, if_pos h1]; omega
  by_cases h2 : i = 2
  · rw [if_neg h0, if_neg h1, if_pos h2]; omega
  · rw [if_neg h0, if_neg h1, if_neg h2]; exact hg _ (by omega)

/-- What lasts from half to half. -/
structure Keep5 (w wr : World) (B D P len : Nat) (da : Option Addr) (g : Nat → Int) (a0 a1 : Addr) : Prop where
  bel : Below B w wr
  sent : Sent wr B a0 a1
  dlt : D < wr.heap.size
  data : len = 0 ∨ (da = some ⟨D, 0, none⟩ ∧ Own wr D len .u8 5 g)
  buf : ∃ z, Own wr P 512 .u8 5 z
theorem Keep5.same {w wr w2 : World} {B D P len : Nat} {da : Option Addr} {g : Nat → Int} {a0 a1 : Addr} (h : Keep5 w wr B D P len da g a0 a1) (hB : B ≤ wr.heap.size) {S : Nat → Prop} (hs : Same S wr w2) (hS : ∀ k, S k → B ≤ k ∧ (len = 0 ∨ k ≠ D)) (hbuf : ∃ z, Own w2 P 512 .u8 5 z) : Keep5 w w2 B D P len da g a0 a1 := by
  have hb : Below B wr w2 := hs.below hB (fun k hk e => by have := (hS k e).1; omega)
  refine ⟨h.bel.trans hb, h.sent.below hb, by have := hs.size; have := h.dlt; omega, ?_, hbuf⟩
  by_cases hl : len = 0
  · exact .inl hl
  · rcases h.data with e | ⟨e1, e2⟩
    · exact .inl e
    · exact .inr ⟨e1, e2.keep (hs.block D h.dlt (fun e => by rcases (hS D e).2 with h1 | h1; exact hl h1; exact h1 rfl))⟩
end Go.Proofs.Qxb6615636aDoor
