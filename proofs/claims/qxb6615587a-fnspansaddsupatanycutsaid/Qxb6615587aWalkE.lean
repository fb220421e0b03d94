/-
  THE WALKS of (*subnetIndex).leaf at no range, and at any; of the closure in spans (seat b6615587a).
-/
import Derived.Test.Qxb6615587aWalkD
namespace Go.Proofs.Qxb6615587a
open Go.ChangeShapes Go.WideShapes Go.ChangeAt Go.RowKit
set_option linter.unusedVariables false

theorem leaf_empty (B X N : Nat) (wa ca ra : Option Addr) (nc : Nat) (fp : Option Nat) (f c r : Nat → Int) (base n : Int) (a : Nat) (v : Value) (items : List (Int × Int)) (w : World)
    (hx : Idx w B X wa ca ra N N nc f c r) (hN : N ≤ 65536) (haN : a ≤ N) (hfi : FInv B fp w v items) :
    Calls Try.prog 21 #[.pointer (some ⟨X, 0, none⟩), .int .i64 a, .int .i64 a, .int .i64 n, fval fp, .int .u64 base] w fun e w' => SpanPost B fp f c base n a a v items w e w' := by
  have hcw := hx.cw
  have hpost : SpanPost B fp f c base n a a v items w (.returned (.tuple #[.int .i64 ((0 : Nat) : Int), .int .i64 (-1)])) w := (Link.start f c base n a items).stop rfl hfi (Touch.refl _ _ _)
  have HP := hpost
  have HPP : Hid _ := HP
  clear HP hpost
  generalize fval fp = fv
  cases wa with
  | none =>
    go_enter Try.func21, Try.ntmps21
    go_wp2_with fail
    all_goals (refine wp_loop_rounds 1 ?_; rw [rounds_succ]; go_wp2_with fail; go_ret2; exact HPP.out)
  | some x =>
    obtain ⟨b, off, sp⟩ := x
    go_enter Try.func21, Try.ntmps21
    go_wp2_with fail
    all_goals (refine wp_loop_rounds 1 ?_; rw [rounds_succ]; go_wp2_with fail; go_ret2; exact HPP.out)

theorem leaf_any (B X N : Nat) (wa ca ra : Option Addr) (nc : Nat) (fp : Option Nat) (f c r : Nat → Int) (base n : Int) (a t : Nat) (v : Value) (items : List (Int × Int)) (w : World) (hf : ∀ i, 0 ≤ f i ∧ f i ≤ 4294967295)
    (hx : Idx w B X wa ca ra N N nc f c r) (hN : N ≤ 65536) (hnc : nc ≤ 65536) (hat : a ≤ t) (htN : t ≤ N) (htc : t ≤ nc) (hfit : Fit f a t) (hfi : FInv B fp w v items) (hB : B ≤ w.heap.size) (hit : items.length ≤ 1000000) :
    Calls Try.prog 21 #[.pointer (some ⟨X, 0, none⟩), .int .i64 a, .int .i64 t, .int .i64 n, fval fp, .int .u64 base] w fun e w' => SpanPost B fp f c base n a t v items w e w' := by
  by_cases h : a = t
  · subst h
    exact leaf_empty B X N wa ca ra nc fp f c r base n a v items w hx hN htN hfi
  · obtain ⟨b, off, rfl, hbB, hwc⟩ := hx.rw.cells (by omega)
    obtain ⟨cb, co, rfl, hcB, hcc⟩ := hx.rc.cells (by omega)
    cases fp with
    | none => exact leaf_nil B X b off N _ ra nc f c r base n a t v items w hf hx hbB hwc hN (by omega) htN hfit hB
    | some F => exact leaf_some B X b off N cb co ra nc F f c r base n a t v items w hf hx hbB hcB hcc hwc hN hnc (by omega) htN htc hfit hfi hB hit
end Go.Proofs.Qxb6615587a
