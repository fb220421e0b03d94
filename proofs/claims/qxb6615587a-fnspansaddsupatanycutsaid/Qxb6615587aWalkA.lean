/-
  THE WALKS of the small functions of the seat b6615587a: lo, hi, key, zzRangeKey, the two bounds on total length, zzSpansWordsFit, zzSame.
-/
import Derived.Test.Qxb6615587aRows
import Derived.Test.Qxb6615587aMem
import Derived.ProofKit
import Derived.WalkLawsBesides
import Derived.WalkSpells
import Derived.Outline
import Derived.Deep.QuietTactic
import Derived.BigQuiet
namespace Go.Proofs.Qxb6615587a
open Go.ChangeShapes Go.WideShapes Go.ChangeAt Go.RowKit
theorem lo_any (r : Int) (w : World) (h0 : 0 ≤ r) (h1 : r ≤ 4294967295) :
    Calls Try.prog 20 #[.int .u32 r] w fun e w' => e = .returned (.int .i64 (lo r)) ∧ w = w' := by
  have ha := and_lo r h0 h1
  go_enter Try.func20, Try.ntmps20
  go_wp2
  go_ret
  exact ⟨rfl, rfl⟩
theorem hi_any (r : Int) (w : World) (h0 : 0 ≤ r) (h1 : r ≤ 4294967295) :
    Calls Try.prog 22 #[.int .u32 r] w fun e w' => e = .returned (.int .i64 (hi r)) ∧ w = w' := by
  go_enter Try.func22, Try.ntmps22
  go_wp2
  go_ret
  exact ⟨rfl, rfl⟩
theorem rangeKey_any (r : Int) (w : World) (h0 : 0 ≤ r) (h1 : r ≤ 4294967295) (h2 : lo r ≤ hi r) :
    Calls Try.prog 11 #[.int .u32 r] w fun e w' => e = .returned (.int .u32 (key r)) ∧ w = w' := by
  have ha := and_lo r h0 h1
  have ho := or_key (r / 65536 - r % 65536) (65535 - r % 65536) (by unfold lo hi at h2; omega) (by omega) (by omega) (by omega)
  have h2' : r % 65536 ≤ r / 65536 := h2
  go_enter Try.func11, Try.ntmps11
  go_wp2
  go_ret
  exact ⟨rfl, rfl⟩
theorem key_any (r : Int) (w : World) (h0 : 0 ≤ r) (h1 : r ≤ 4294967295) (h2 : lo r ≤ hi r) :
    Calls Try.prog 19 #[.int .u32 r] w fun e w' => e = .returned (.int .u32 (key r)) ∧ w = w' := by
  have ha := and_lo r h0 h1
  have ho := or_key (r / 65536 - r % 65536) (65535 - r % 65536) (by unfold lo hi at h2; omega) (by omega) (by omega) (by omega)
  have h2' : r % 65536 ≤ r / 65536 := h2
  go_enter Try.func19, Try.ntmps19
  go_wp2
  go_ret
  exact ⟨rfl, rfl⟩

theorem bytes5_any (a0 a1 : Option Addr) (l0 c0 l1 c1 : Nat) (a2 a3 a4 a5 a6 : Int) (w : World) (h0 : l0 ≤ maxLen) (h1 : l1 ≤ maxLen) :
    Calls Try.prog 5 #[.slice a0 l0 c0, .slice a1 l1 c1, .int .i64 a2, .int .i64 a3, .int .i64 a4, .int .i64 a5, .int .u64 a6] w fun e w' => (∃ b : Bool, e = .returned (.bool b)) ∧ w = w' := by
  unfold maxLen at h0 h1
  go_enter Try.func5, Try.ntmps5
  go_wp2
  all_goals (go_ret; exact ⟨⟨_, rfl⟩, rfl⟩)
theorem bytes16_any (a0 a1 a6 : Option Addr) (l0 c0 l1 c1 l6 c6 : Nat) (a2 a3 a4 a7 : Int) (a5 : Bool) (w : World) (h0 : l0 ≤ maxLen) (h1 : l1 ≤ maxLen) (h6 : l6 ≤ maxLen) :
    Calls Try.prog 16 #[.slice a0 l0 c0, .slice a1 l1 c1, .int .i64 a2, .int .i64 a3, .int .i64 a4, .bool a5, .slice a6 l6 c6, .int .u64 a7] w fun e w' => (∃ b : Bool, e = .returned (.bool b)) ∧ w = w' := by
  unfold maxLen at h0 h1 h6
  go_enter Try.func16, Try.ntmps16
  go_wp2
  all_goals (go_ret; exact ⟨⟨_, rfl⟩, rfl⟩)

theorem Fit.none (f : Nat → Int) (a : Nat) : Fit f a a := ⟨fun i h1 h2 => by omega, fun i h1 h2 => by omega⟩
theorem Fit.snoc {f : Nat → Int} {a k : Nat} (h : Fit f a k) (_hk : a ≤ k) (h1 : 1 ≤ f k % 65536) (h2 : f k % 65536 ≤ f k / 65536) (h3 : a < k → f (k - 1) % 65536 ≤ f k % 65536) : Fit f a (k + 1) := by
  refine ⟨fun i x y => ?_, fun i x y => ?_⟩
  · by_cases e : i = k
    · subst e; exact ⟨h1, h2⟩
    · exact h.1 i x (by omega)
  · by_cases e : i = k
    · subst e; exact h3 x
    · exact h.2 i x (by omega)

theorem wordsFit_none (ao : Option Addr) (len cap : Nat) (a : Int) (w : World) :
    Calls Try.prog 6 #[.slice ao len cap, .int .i64 a, .int .i64 a] w fun e w' => e = .returned (.bool true) ∧ w = w' := by
  go_enter Try.func6, Try.ntmps6
  go_wp2
  refine wp_loop_rounds 1 ?_
  rw [rounds_succ]
  go_wp2
  go_ret
  exact ⟨rfl, rfl⟩

def FitPost (f : Nat → Int) (a t : Nat) (e : Ending) : Prop := ∃ r : Bool, e = .returned (.bool r) ∧ (r = true → Fit f a t)
theorem FitPost.no (f : Nat → Int) (a t : Nat) : FitPost f a t (.returned (.bool false)) := ⟨false, rfl, fun h => by simp at h⟩
theorem FitPost.yes {f : Nat → Int} {a t : Nat} (h : Fit f a t) : FitPost f a t (.returned (.bool true)) := ⟨true, rfl, fun _ => h⟩
set_option maxHeartbeats 400000 in
theorem wordsFit_some (b off len cap : Nat) (f : Nat → Int) (a t : Nat) (w : World) (hf : ∀ i, 0 ≤ f i ∧ f i ≤ 4294967295) (hat : a < t) (htl : t ≤ len) (hlen : len ≤ 9223372036854775807)
    (hc : ∀ i, i < len → w.cell? ⟨b, off + i, none⟩ = some (.int .u32 (f i))) :
    Calls Try.prog 6 #[.slice (some ⟨b, off, none⟩) len cap, .int .i64 a, .int .i64 t] w fun e w' => FitPost f a t e ∧ w = w' := by
  go_enter Try.func6, Try.ntmps6
  go_wp2
  go_loop [7] (fun i => ∃ k : Nat, a ≤ k ∧ k ≤ t ∧ i = .int .i64 k ∧ Fit f a k) (fun i => t - (intOf i).toNat)
  case atStart => exact ⟨a, Nat.le_refl _, by omega, rfl, Fit.none f a⟩
  case round =>
    obtain ⟨k, hk1, hk2, rfl, hfit⟩ := hrel
    by_cases hlt : k < t
    · have hcell := hc k (by omega)
      obtain ⟨q0, q1⟩ := hf k
      have ha1 := and_lo (f k) q0 q1
      by_cases hak : a < k
      · have hcell2 := hc (k - 1) (by omega)
        obtain ⟨p0, p1⟩ := hf (k - 1)
        have ha2 := and_lo (f (k - 1)) p0 p1
        go_wp2
        · go_ret; exact ⟨FitPost.no f a t, rfl⟩
        · go_ret; exact ⟨FitPost.no f a t, rfl⟩
        · go_round
          case rel => exact ⟨k + 1, by omega, by omega, by go_num, hfit.snoc hk1 (by omega) (by omega) (fun _ => by assumption)⟩
          case measure => simp [intOf]; omega
        · go_ret; exact ⟨FitPost.no f a t, rfl⟩
      · go_wp2
        · go_ret; exact ⟨FitPost.no f a t, rfl⟩
        · go_round
          case rel => exact ⟨k + 1, by omega, by omega, by go_num, hfit.snoc hk1 (by omega) (by omega) (fun h => absurd h hak)⟩
          case measure => simp [intOf]; omega
        · go_ret; exact ⟨FitPost.no f a t, rfl⟩
    · go_wp2
      go_ret
      obtain rfl : k = t := by omega
      exact ⟨FitPost.yes hfit, rfl⟩
end Go.Proofs.Qxb6615587a
