/-
  THE WALK of the closure 'add' in (*subnetIndex).spans (seat b6615587a).
-/
import Derived.Test.Qxb6615587aWalkE
namespace Go.Proofs.Qxb6615587a
open Go.ChangeShapes Go.WideShapes Go.ChangeAt Go.RowKit
set_option linter.unusedVariables false

theorem key_q (r : Int) (w : World) (h0 : 0 ≤ r) (h1 : r ≤ 4294967295) (h2 : lo r ≤ hi r) :
    Calls Try.prog 19 #[.int .u32 r] w fun e w' => e = .returned (.int .u32 (key r)) ∧ w' = w := (key_any r w h0 h1 h2).mono fun _ _ ⟨a, b⟩ => ⟨a, b.symm⟩

/-- What the closure leaves: the count and the best, each in its variable. -/
def AddPost (Lc Lb : Nat) (cnt be : Int) (w w' : World) : Prop :=
  w'.heap[Lc]? = some (.cells #[.int .i64 cnt] 3 (0, 0)) ∧ w'.heap[Lb]? = some (.cells #[.int .i64 be] 3 (0, 0)) ∧ Same (fun k => k = Lc ∨ k = Lb) w w'

theorem add_end1 {Lc Lb : Nat} {c0 cnt be : Int} {w w' : World} (hc : w.heap[Lc]? = some (.cells #[.int .i64 c0] 3 (0, 0))) (hb : w.heap[Lb]? = some (.cells #[.int .i64 be] 3 (0, 0))) (hne : Lc ≠ Lb)
    (hh : w'.heap = (w.setCell ⟨Lc, 0, none⟩ (.int .i64 cnt)).heap) (ho : w'.os = w.os) (ht : w'.tape = w.tape) (hu : w'.output = w.output) : AddPost Lc Lb cnt be w w' := by
  refine ⟨by rw [hh]; exact one_setCell hc, by rw [hh, Below.heap_setCell _ _ _ _ (Ne.symm hne)]; exact hb, ho, ht, hu, by rw [hh]; simp, fun k hk hS => ?_⟩
  rw [hh, Below.heap_setCell _ _ _ _ (fun e => hS (.inl e))]

theorem add_end2 {Lc Lb : Nat} {c0 cnt b0 be : Int} {w w' : World} (hc : w.heap[Lc]? = some (.cells #[.int .i64 c0] 3 (0, 0))) (hb : w.heap[Lb]? = some (.cells #[.int .i64 b0] 3 (0, 0))) (hne : Lc ≠ Lb)
    (hh : w'.heap = ((w.setCell ⟨Lc, 0, none⟩ (.int .i64 cnt)).setCell ⟨Lb, 0, none⟩ (.int .i64 be)).heap) (ho : w'.os = w.os) (ht : w'.tape = w.tape) (hu : w'.output = w.output) : AddPost Lc Lb cnt be w w' := by
  have hb1 : (w.setCell ⟨Lc, 0, none⟩ (.int .i64 cnt)).heap[Lb]? = some (.cells #[.int .i64 b0] 3 (0, 0)) := by rw [Below.heap_setCell _ _ _ _ (Ne.symm hne)]; exact hb
  refine ⟨by rw [hh, Below.heap_setCell _ _ _ _ hne]; exact one_setCell hc, by rw [hh]; exact one_setCell hb1, ho, ht, hu, by rw [hh]; simp, fun k hk hS => ?_⟩
  rw [hh, Below.heap_setCell _ _ _ _ (fun e => hS (.inr e)), Below.heap_setCell _ _ _ _ (fun e => hS (.inl e))]

theorem add_none (Lc Lb Lx X : Nat) (cnt be h : Int) (w : World) (hc : w.heap[Lc]? = some (.cells #[.int .i64 cnt] 3 (0, 0))) (hb : w.heap[Lb]? = some (.cells #[.int .i64 be] 3 (0, 0))) (hne : Lc ≠ Lb)
    (c0 : 0 ≤ cnt) (c1 : cnt ≤ 65536) (c2 : 0 ≤ h) (c3 : h ≤ 65536) :
    Calls Try.prog 18 #[.int .i64 h, .int .i64 (-1), .pointer (some ⟨Lc, 0, none⟩), .pointer (some ⟨Lb, 0, none⟩), .pointer (some ⟨Lx, 0, none⟩)] w fun e w' => e = .returned (.tuple #[]) ∧ AddPost Lc Lb (cnt + h) be w w' := by
  have g1 := cell_of_one hc
  have g2 := free_of_one hc
  have g3 := cell_of_one hb
  have HC : Hid _ := hc
  have HB : Hid _ := hb
  clear hc hb
  go_enter Try.func18, Try.ntmps18
  go_wp2_with fail
  go_quiet (fail)
  go_wp2_with fail
  go_end0
  exact ⟨rfl, add_end1 HC.out HB.out hne rfl rfl rfl rfl⟩

theorem add_first (Lc Lb Lx X : Nat) (cnt h : Int) (j : Nat) (w : World) (hc : w.heap[Lc]? = some (.cells #[.int .i64 cnt] 3 (0, 0))) (hb : w.heap[Lb]? = some (.cells #[.int .i64 (-1)] 3 (0, 0))) (hne : Lc ≠ Lb)
    (c0 : 0 ≤ cnt) (c1 : cnt ≤ 65536) (c2 : 0 ≤ h) (c3 : h ≤ 65536) :
    Calls Try.prog 18 #[.int .i64 h, .int .i64 (j : Int), .pointer (some ⟨Lc, 0, none⟩), .pointer (some ⟨Lb, 0, none⟩), .pointer (some ⟨Lx, 0, none⟩)] w fun e w' => e = .returned (.tuple #[]) ∧ AddPost Lc Lb (cnt + h) (j : Int) w w' := by
  have g1 := cell_of_one hc
  have g2 := free_of_one hc
  have g3 := cell_of_one hb
  have g4 := free_of_one hb
  have g5 : (w.setCell ⟨Lc, 0, none⟩ (.int .i64 (cnt + h))).cell? ⟨Lb, 0, none⟩ = some (.int .i64 (-1)) := by rw [cell_set_other (Ne.symm hne)]; exact g3
  have HC : Hid _ := hc
  have HB : Hid _ := hb
  have j0 : (0 : Int) ≤ (j : Int) := Int.natCast_nonneg j
  clear hc hb
  go_enter Try.func18, Try.ntmps18
  go_wp2_with fail
  go_quiet (fail)
  go_wp2_with fail
  go_end0
  exact ⟨rfl, add_end2 HC.out HB.out hne rfl rfl rfl rfl⟩


set_option maxHeartbeats 1000000 in
theorem add_two (Lc Lb Lx X b off N : Nat) (f : Nat → Int) (cnt h : Int) (i j : Nat) (w : World) (hc : w.heap[Lc]? = some (.cells #[.int .i64 cnt] 3 (0, 0))) (hb : w.heap[Lb]? = some (.cells #[.int .i64 (i : Int)] 3 (0, 0))) (hne : Lc ≠ Lb)
    (c0 : 0 ≤ cnt) (c1 : cnt ≤ 65536) (c2 : 0 ≤ h) (c3 : h ≤ 65536) (hN : N ≤ 65536) (hiN : i < N) (hjN : j < N) (x1 : Lx ≠ Lc) (x2 : X ≠ Lc) (x3 : b ≠ Lc) (y1 : w.cell? ⟨Lx, 0, none⟩ = some (.pointer (some ⟨X, 0, none⟩)))
    (y2 : w.cell? ⟨X, 14, none⟩ = some (.slice (some ⟨b, off, none⟩) N N)) (y3 : w.cell? ⟨b, off + i, none⟩ = some (.int .u32 (f i))) (y4 : w.cell? ⟨b, off + j, none⟩ = some (.int .u32 (f j)))
    (i0 : 0 ≤ f i) (i1 : f i ≤ 4294967295) (i2 : lo (f i) ≤ hi (f i)) (j0 : 0 ≤ f j) (j1 : f j ≤ 4294967295) (j2 : lo (f j) ≤ hi (f j)) :
    Calls Try.prog 18 #[.int .i64 h, .int .i64 (j : Int), .pointer (some ⟨Lc, 0, none⟩), .pointer (some ⟨Lb, 0, none⟩), .pointer (some ⟨Lx, 0, none⟩)] w fun e w' => e = .returned (.tuple #[]) ∧ AddPost Lc Lb (cnt + h) (if key (f j) < key (f i) then (j : Int) else (i : Int)) w w' := by
  have g1 := cell_of_one hc
  have g2 := free_of_one hc
  have g3 := cell_of_one hb
  have g4 := free_of_one hb
  have g5 : (w.setCell ⟨Lc, 0, none⟩ (.int .i64 (cnt + h))).cell? ⟨Lb, 0, none⟩ = some (.int .i64 (i : Int)) := by rw [cell_set_other (Ne.symm hne)]; exact g3
  have z1 : (w.setCell ⟨Lc, 0, none⟩ (.int .i64 (cnt + h))).cell? ⟨Lx, 0, none⟩ = some (.pointer (some ⟨X, 0, none⟩)) := by rw [cell_set_other x1]; exact y1
  have z2 : (w.setCell ⟨Lc, 0, none⟩ (.int .i64 (cnt + h))).cell? ⟨X, 14, none⟩ = some (.slice (some ⟨b, off, none⟩) N N) := by rw [cell_set_other x2]; exact y2
  have z3 : (w.setCell ⟨Lc, 0, none⟩ (.int .i64 (cnt + h))).cell? ⟨b, off + i, none⟩ = some (.int .u32 (f i)) := by rw [cell_set_other x3]; exact y3
  have z4 : (w.setCell ⟨Lc, 0, none⟩ (.int .i64 (cnt + h))).cell? ⟨b, off + j, none⟩ = some (.int .u32 (f j)) := by rw [cell_set_other x3]; exact y4
  have HC : Hid _ := hc
  have HB : Hid _ := hb
  have k0 : (0 : Int) ≤ (j : Int) := Int.natCast_nonneg j
  have k1 : (0 : Int) ≤ (i : Int) := Int.natCast_nonneg i
  have k2 : (j : Int) < (N : Int) := by omega
  have k3 : (i : Int) < (N : Int) := by omega
  have k4 : decide ((i : Int) < 0) = false := by simp
  clear hc hb y1 y2 y3 y4
  by_cases hk : key (f j) < key (f i)
  · rw [if_pos hk]
    go_enter Try.func18, Try.ntmps18
    go_wp2_with fail
    go_quiet ((go_at_call 19; exact Calls.quiet_of_same (key_q _ _ (by assumption) (by assumption) (by assumption))))
    go_wp2_with fail
    go_end0
    exact ⟨rfl, add_end2 HC.out HB.out hne rfl rfl rfl rfl⟩
  · rw [if_neg hk]
    have hk' : decide (key (f j) < key (f i)) = false := decide_eq_false hk
    go_enter Try.func18, Try.ntmps18
    go_wp2_with fail
    go_quiet ((go_at_call 19; exact Calls.quiet_of_same (key_q _ _ (by assumption) (by assumption) (by assumption))))
    go_wp2_with fail
    go_end0
    exact ⟨rfl, add_end1 HC.out HB.out hne rfl rfl rfl rfl⟩
end Go.Proofs.Qxb6615587a
