/-
  THE WALK of bufio's Read, where the buffer holds bytes (seat b6615636aD).
-/
import Derived.Test.Qxb6615636aDoorWalkO
namespace Go.Proofs.Qxb6615636aDoor
open Go.ChangeShapes Go.WideShapes Go.ChangeAt Go.RowKit
set_option linter.unusedVariables false

/-- What a read leaves that finds bytes: n of them, r further. -/
def RdPost (X U R P wp r n : Nat) (y z : Nat → Int) (w w' : World) : Prop :=
  (∃ lb lr, XAt w' X U R (r + n) wp .nilIface lb lr) ∧ Own w' P 512 .u8 5 (fun i => if i < n then y (r + i) else z i) ∧ Same (fun k => k = X ∨ k = P) w w'

theorem rd_end {X U R P wp r n : Nat} {y z : Nat → Int} {lb lr : Int} {w w3 w' : World} {v5 : Int} (hXP : X ≠ P) (hx : XAt w3 X U R (r + n) wp .nilIface lb lr) (ho : Own w3 P 512 .u8 5 (fun i => if i < n then y (r + i) else z i)) (hs : Same (fun k => k = X ∨ k = P) w w3)
    (hh : w'.heap = ((w3.setCell ⟨X, 5, none⟩ (.int .i64 v5)).setCell ⟨X, 6, none⟩ (.int .i64 (-1))).heap) (h1 : w'.os = w3.os) (h2 : w'.tape = w3.tape) (h3 : w'.output = w3.output) : RdPost X U R P wp r n y z w w' := by
  have h5 := (hs.setCell (p := ⟨X, 5, none⟩) (fun _ => .inl rfl) (.int .i64 v5)).setCell (p := ⟨X, 6, none⟩) (fun _ => .inl rfl) (.int .i64 (-1))
  refine ⟨⟨v5, -1, ?_⟩, ((ho.other (a := ⟨X, 5, none⟩) (by simp; omega) (.int .i64 v5)).other (a := ⟨X, 6, none⟩) (by simp; omega) (.int .i64 (-1))).keep (by rw [hh]), ⟨h1.trans hs.os, h2.trans hs.tape, h3.trans hs.output, by rw [hh]; exact h5.size, fun k hk hS => by rw [hh]; exact h5.block k hk hS⟩⟩
  unfold XAt
  rw [hh]
  exact set_blk (set_blk hx 5 _) 6 _

set_option maxRecDepth 100000 in
set_option maxHeartbeats 4000000 in
theorem rd_have (X U R P r wp : Nat) (lb lr : Int) (y z : Nat → Int) (w : World) (hx : XAt w X U R r wp .nilIface lb lr) (hU : Own w U 4096 .u8 5 y) (hP : Own w P 512 .u8 5 z) (hr : r < wp) (hw : wp ≤ 4096) (hXU : X ≠ U) (hXP : X ≠ P) (hUP : U ≠ P) :
    Calls Tryd.prog 24 #[.pointer (some ⟨X, 0, none⟩), .slice (some ⟨P, 0, none⟩) 512 512] w fun e w' => e = .returned (.tuple #[.int .i64 ((min (wp - r) 512 : Nat) : Int), .nilIface]) ∧ RdPost X U R P wp r (min (wp - r) 512) y z w w' := by
  have c0 := hx.c0
  have c2 := hx.c2
  have c3 := hx.c3
  have HX : Hid (XAt w X U R r wp .nilIface lb lr) := hx
  have hne : ((r : Int) == (wp : Int)) = false := by rw [beq_eq_false_iff_ne]; omega
  have hne2 : ¬ (r : Int) = (wp : Int) := by omega
  clear hx
  go_enter Tryd.func24, Tryd.ntmps24
  go_wp2_with fail
  go_quiet (fail)
  have HX0 : Hid (XAt (w.drewN nq).drew X U R r wp .nilIface lb lr) := HX.out
  have hU0 : Own (w.drewN nq).drew U 4096 .u8 5 y := hU.keep rfl
  have hP0 : Own (w.drewN nq).drew P 512 .u8 5 z := hP.keep rfl
  have HST : Hid (Still w (w.drewN nq).drew) := ⟨rfl, rfl, rfl, rfl⟩
  clear HX c0 c2 c3 hU hP
  generalize w.drewN nq = w0 at *
  have c0 : w0.cell? ⟨X, 0, none⟩ = some (.slice (some ⟨U, 0, none⟩) 4096 4096) := XAt.c0 HX0.out
  have c2 : w0.cell? ⟨X, 2, none⟩ = some (.int .i64 r) := XAt.c2 HX0.out
  have c3 : w0.cell? ⟨X, 3, none⟩ = some (.int .i64 wp) := XAt.c3 HX0.out
  have k0 : (0 : Int) ≤ (r : Int) := Int.natCast_nonneg _
  have k1 : (r : Int) ≤ (wp : Int) := by omega
  have k2 : (wp : Int) ≤ 4096 := by omega
  have k3 : ¬ 4096 = r := by omega
  have hrow : Row w0.drew w0.drew.heap.size .u8 (some ⟨U, r, none⟩) (wp - r) (fun i => y (r + i)) := ⟨fun _ => ⟨U, r, rfl, hU0.lt, fun i hi => hU0.cell (by omega)⟩⟩
  obtain ⟨w2, hcp, hP2, hs2⟩ := run_copy_into (P := Tryd.prog) 22 5 Tryd.underlying22 Tryd.size5 P 512 512 512 (wp - r) (4096 - r) (some ⟨U, r, none⟩) .u8 5 z _ _ hP0 (Nat.le_refl _) hrow
  have hx2 : XAt w2 X U R r wp .nilIface lb lr := XAt.keep HX0.out (hs2.block X (lt_of_block HX0.out) hXP)
  have hU2 : Own w2 U 4096 .u8 5 y := hU0.keep (hs2.block U hU0.lt hUP)
  have d2 : w2.cell? ⟨X, 2, none⟩ = some (.int .i64 r) := XAt.c2 hx2
  have e2 := XAt.fr hx2 2
  have hn0 : 0 < min (wp - r) 512 := by omega
  have hn1 : r + min (wp - r) 512 ≤ wp := by omega
  generalize hnn : min (wp - r) 512 = n at *
  have HNN : Hid (min (wp - r) 512 = n) := hnn
  clear hnn
  have HX2 : Hid (XAt w2 X U R r wp .nilIface lb lr) := hx2
  have HU2 : Hid (Own w2 U 4096 .u8 5 y) := hU2
  have HP2 : Hid (Own w2 P 512 .u8 5 (fun i => if i < n then y (r + i) else z i)) := hP2
  have HSM : Hid (Same (fun k => k = X ∨ k = P) w w2) := (HST.out.same _).trans hs2 (fun i _ e => .inr e)
  clear hx2 hU2 hP2 hs2 hrow hU0 hP0 HX0
  go_wp2_with fail
  go_region
  go_wp2_with fail
  have hx3 : XAt (w2.setCell ⟨X, 2, none⟩ (.int .i64 ((r : Int) + (n : Int)))) X U R (r + n) wp .nilIface lb lr := by rw [← Int.natCast_add]; exact set_blk HX2.out 2 _
  have hU3 : Own (w2.setCell ⟨X, 2, none⟩ (.int .i64 ((r : Int) + (n : Int)))) U 4096 .u8 5 y := HU2.out.other (a := ⟨X, 2, none⟩) (fun e => hXU e.symm) _
  have hP3 : Own (w2.setCell ⟨X, 2, none⟩ (.int .i64 ((r : Int) + (n : Int)))) P 512 .u8 5 (fun i => if i < n then y (r + i) else z i) := HP2.out.other (a := ⟨X, 2, none⟩) (fun e => hXP e.symm) _
  have hs3 : Same (fun k => k = X ∨ k = P) w (w2.setCell ⟨X, 2, none⟩ (.int .i64 ((r : Int) + (n : Int)))) := HSM.out.setCell (p := ⟨X, 2, none⟩) (fun _ => .inl rfl) _
  generalize w2.setCell ⟨X, 2, none⟩ (.int .i64 ((r : Int) + (n : Int))) = w3 at *
  clear c0 c2 c3 d2 e2 HX2 HU2 HP2 HSM hcp
  obtain ⟨s, hs⟩ : ∃ s, r + n = s + 1 := ⟨r + n - 1, by omega⟩
  have hx3' := hx3
  rw [hs] at hx3'
  have c0 : w3.cell? ⟨X, 0, none⟩ = some (.slice (some ⟨U, 0, none⟩) 4096 4096) := XAt.c0 hx3
  have c2 : w3.cell? ⟨X, 2, none⟩ = some (.int .i64 ((s : Int) + 1)) := XAt.c2 hx3'
  have c5 := XAt.c5 hx3
  have c6 := XAt.c6 hx3
  have f5 := XAt.fr hx3 5
  have f6 := XAt.fr hx3 6
  have cu : w3.cell? ⟨U, s, none⟩ = some (.int .u8 (y s)) := hU3.cell (by omega)
  have HX3 : Hid (XAt w3 X U R (r + n) wp .nilIface lb lr) := hx3
  have HP3 : Hid (Own w3 P 512 .u8 5 (fun i => if i < n then y (r + i) else z i)) := hP3
  have HS3 : Hid (Same (fun k => k = X ∨ k = P) w w3) := hs3
  have hsl : s < 4096 := by omega
  clear hx3 hx3' hU3 hP3 hs3 hs
  go_region
  go_wp2_with fail
  go_ret2
  refine ⟨by rw [HNN.out]; rfl, ?_⟩
  rw [HNN.out]
  exact rd_end hXP HX3.out HP3.out HS3.out rfl rfl rfl rfl
end Go.Proofs.Qxb6615636aDoor
