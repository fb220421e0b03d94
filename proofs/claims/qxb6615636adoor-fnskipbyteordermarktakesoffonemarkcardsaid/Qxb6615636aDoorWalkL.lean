/-
  THE WALKS of bytes.Reader.Read under a wider bound, and of bufio's fill (seat b6615636aD).
-/
import Derived.Test.Qxb6615636aDoorWalkK
namespace Go.Proofs.Qxb6615636aDoor
open Go.ChangeShapes Go.WideShapes Go.ChangeAt Go.RowKit
set_option linter.unusedVariables false

theorem readEndB (R : Nat) (da : Option Addr) (len dcap pos : Nat) (pr : Int) (eof : Value) (b : Value) (w : World) (hR : w.heap[R]? = some (.cells #[.slice da len dcap, .int .i64 pos, .int .i64 pr] 52 (0, 0))) (he : w.cell? ⟨0, 0, none⟩ = some eof) (hpl : len ≤ pos) (hp : pos ≤ 2097152) :
    Calls Tryd.prog 46 #[.pointer (some ⟨R, 0, none⟩), b] w fun e w' => e = .returned (.tuple #[.int .i64 0, eof]) ∧ Still w w' := by
  have c0 : w.cell? ⟨R, 0, none⟩ = some (.slice da len dcap) := cell_blk hR 0
  have c1 : w.cell? ⟨R, 1, none⟩ = some (.int .i64 pos) := cell_blk hR 1
  clear hR
  go_enter Tryd.func46, Tryd.ntmps46
  go_wp2_with fail
  go_quiet (fail)
  go_wp2_with fail
  go_quiet (fail)
  go_wp2_with fail
  go_ret2
  exact ⟨rfl, rfl, rfl, rfl, rfl⟩


set_option maxHeartbeats 1000000 in
theorem readSomeB (R D len pos P M m pc : Nat) (pr : Int) (z g : Nat → Int) (w : World) (hR : w.heap[R]? = some (.cells #[.slice (some ⟨D, 0, none⟩) len len, .int .i64 pos, .int .i64 pr] 52 (0, 0))) (hD : Own w D len .u8 5 g) (hP : Own w P M .u8 5 z) (hm : m ≤ M)
    (hpl : pos < len) (hl : len ≤ 2097152) (hRP : R ≠ P) (hRD : R ≠ D) (hDP : D ≠ P) :
    Calls Tryd.prog 46 #[.pointer (some ⟨R, 0, none⟩), .slice (some ⟨P, 0, none⟩) m pc] w fun e w' => e = .returned (.tuple #[.int .i64 ((min (len - pos) m : Nat) : Int), .nilIface]) ∧ ReadPost R D len pos P M m z g w w' := by
  have c0 : w.cell? ⟨R, 0, none⟩ = some (.slice (some ⟨D, 0, none⟩) len len) := cell_blk hR 0
  have c1 : w.cell? ⟨R, 1, none⟩ = some (.int .i64 pos) := cell_blk hR 1
  have k0 : (0 : Int) ≤ (pos : Int) := Int.natCast_nonneg _
  have k1 : (pos : Int) ≤ (len : Int) := by omega
  have HR : Hid (w.heap[R]? = some (.cells #[.slice (some ⟨D, 0, none⟩) len len, .int .i64 pos, .int .i64 pr] 52 (0, 0))) := hR
  clear hR
  go_enter Tryd.func46, Tryd.ntmps46
  go_wp2_with fail
  go_quiet (fail)
  have hR0 : (w.drewN nq).heap[R]? = some (.cells #[.slice (some ⟨D, 0, none⟩) len len, .int .i64 pos, .int .i64 pr] 52 (0, 0)) := HR.out
  have hD0 : Own (w.drewN nq) D len .u8 5 g := hD.keep rfl
  have hP0 : Own (w.drewN nq) P M .u8 5 z := hP.keep rfl
  have hst : Still w (w.drewN nq) := ⟨rfl, rfl, rfl, rfl⟩
  clear HR hD hP c0 c1
  generalize w.drewN nq = w0 at *
  have c0 : w0.cell? ⟨R, 0, none⟩ = some (.slice (some ⟨D, 0, none⟩) len len) := cell_blk hR0 0
  have c1 : w0.cell? ⟨R, 1, none⟩ = some (.int .i64 pos) := cell_blk hR0 1
  have c2 : w0.cell? ⟨R, 2, none⟩ = some (.int .i64 pr) := cell_blk hR0 2
  have f2 := free_blk hR0 2
  have hR1 := set_blk hR0 2 (.int .i64 (-1))
  have hP1 : Own (w0.setCell ⟨R, 2, none⟩ (.int .i64 (-1))).drew P M .u8 5 z := (hP0.other (a := ⟨R, 2, none⟩) (by simp; omega) (.int .i64 (-1))).keep rfl
  have hD1 : Own (w0.setCell ⟨R, 2, none⟩ (.int .i64 (-1))).drew D len .u8 5 g := (hD0.other (a := ⟨R, 2, none⟩) (by simp; omega) (.int .i64 (-1))).keep rfl
  have hrow : Row (w0.setCell ⟨R, 2, none⟩ (.int .i64 (-1))).drew (w0.setCell ⟨R, 2, none⟩ (.int .i64 (-1))).drew.heap.size .u8 (some ⟨D, pos, none⟩) (len - pos) (fun i => g (pos + i)) :=
    ⟨fun _ => ⟨D, pos, rfl, hD1.lt, fun i hi => hD1.cell (by omega)⟩⟩
  obtain ⟨w2, hcp, hP2, hs2⟩ := run_copy_into (P := Tryd.prog) 22 5 Tryd.underlying22 Tryd.size5 P M m pc (len - pos) (len - pos) (some ⟨D, pos, none⟩) .u8 5 z _ _ hP1 hm hrow
  have hR2 : w2.heap[R]? = some (.cells #[.slice (some ⟨D, 0, none⟩) len len, .int .i64 pos, .int .i64 (-1)] 52 (0, 0)) := (hs2.block R (by have := lt_of_block hR0; simpa using this) (by omega)).trans hR1
  have d1 : w2.cell? ⟨R, 1, none⟩ = some (.int .i64 pos) := cell_blk hR2 1
  have e1 := free_blk hR2 1
  have hSame : Same (fun k => k = R ∨ k = P) w w2 := by
    have h1 : Same (fun k => k = R ∨ k = P) w w0 := Same.of_below (hst.below _)
    have h2 : Same (fun k => k = R ∨ k = P) w (w0.setCell ⟨R, 2, none⟩ (.int .i64 (-1))).drew := (h1.setCell (p := ⟨R, 2, none⟩) (fun _ => .inl rfl) _).drew
    exact h2.trans hs2 (fun i _ e => .inr e)
  have HP2 : Hid _ := hP2
  have HR2 : Hid _ := hR2
  clear hR0 hD0 hP0 hR1 hP1 hD1 hrow hs2 hP2 hR2
  have hmin : min (len - pos) m ≤ len - pos := Nat.min_le_left _ _
  go_wp2_with fail
  go_region
  go_wp2_with fail
  go_ret2
  exact ⟨rfl, read_end hRP HR2.out HP2.out hSame rfl⟩


/-- The cells that fill's read looks at. -/
theorem XAt.c0 {w : World} {X U R r wp : Nat} {err : Value} {lb lr : Int} (h : XAt w X U R r wp err lb lr) : w.cell? ⟨X, 0, none⟩ = some (.slice (some ⟨U, 0, none⟩) 4096 4096) := cell_blk h 0
theorem XAt.c1 {w : World} {X U R r wp : Nat} {err : Value} {lb lr : Int} (h : XAt w X U R r wp err lb lr) : w.cell? ⟨X, 1, none⟩ = some (.iface 39 (.pointer (some ⟨R, 0, none⟩))) := cell_blk h 1
theorem XAt.c2 {w : World} {X U R r wp : Nat} {err : Value} {lb lr : Int} (h : XAt w X U R r wp err lb lr) : w.cell? ⟨X, 2, none⟩ = some (.int .i64 r) := cell_blk h 2
theorem XAt.c3 {w : World} {X U R r wp : Nat} {err : Value} {lb lr : Int} (h : XAt w X U R r wp err lb lr) : w.cell? ⟨X, 3, none⟩ = some (.int .i64 wp) := cell_blk h 3
theorem XAt.c4 {w : World} {X U R r wp : Nat} {err : Value} {lb lr : Int} (h : XAt w X U R r wp err lb lr) : w.cell? ⟨X, 4, none⟩ = some err := cell_blk h 4
theorem XAt.c5 {w : World} {X U R r wp : Nat} {err : Value} {lb lr : Int} (h : XAt w X U R r wp err lb lr) : w.cell? ⟨X, 5, none⟩ = some (.int .i64 lb) := cell_blk h 5
theorem XAt.c6 {w : World} {X U R r wp : Nat} {err : Value} {lb lr : Int} (h : XAt w X U R r wp err lb lr) : w.cell? ⟨X, 6, none⟩ = some (.int .i64 lr) := cell_blk h 6
theorem XAt.fr {w : World} {X U R r wp : Nat} {err : Value} {lb lr : Int} (h : XAt w X U R r wp err lb lr) (i : Nat) : w.frozen? ⟨X, i, none⟩ = false := free_blk h i
theorem XAt.keep {w w' : World} {X U R r wp : Nat} {err : Value} {lb lr : Int} (h : XAt w X U R r wp err lb lr) (hb : w'.heap[X]? = w.heap[X]?) : XAt w' X U R r wp err lb lr := hb.trans h

def FillEnd (X U R wp : Nat) (a0 : Addr) (lb lr : Int) (w w' : World) : Prop := XAt w' X U R 0 wp (.iface 63 (.pointer (some a0))) lb lr ∧ Same (· = X) w w'

set_option maxRecDepth 100000 in
set_option maxHeartbeats 2000000 in
theorem fill_end (X U R wp : Nat) (da : Option Addr) (len dcap pos : Nat) (pr : Int) (a0 : Addr) (lb lr : Int) (w : World) (hx : XAt w X U R 0 wp .nilIface lb lr) (hwp : wp < 4096) (he : w.cell? ⟨0, 0, none⟩ = some (.iface 63 (.pointer (some a0))))
    (hR : w.heap[R]? = some (.cells #[.slice da len dcap, .int .i64 pos, .int .i64 pr] 52 (0, 0))) (hpl : len ≤ pos) (hp : pos ≤ 2097152) :
    Calls Tryd.prog 26 #[.pointer (some ⟨X, 0, none⟩)] w fun e w' => e = .returned (.tuple #[]) ∧ FillEnd X U R wp a0 lb lr w w' := by
  have c0 := hx.c0
  have c1 := hx.c1
  have c2 := hx.c2
  have c3 := hx.c3
  have c4 := hx.c4
  have f3 := hx.fr 3
  have f4 := hx.fr 4
  have hmr := meth_read
  have k0 : (0 : Int) ≤ (wp : Int) := Int.natCast_nonneg _
  have k1 : (wp : Int) ≤ 4096 := by omega
  have HX : Hid (XAt w X U R 0 wp .nilIface lb lr) := hx
  have HR : Hid _ := hR
  have HE : Hid _ := he
  clear hx hR he
  go_enter Tryd.func26, Tryd.ntmps26
  go_wp2_with fail
  go_quiet (fail)
  have HX0 : Hid (XAt (w.drewN nq) X U R 0 wp .nilIface lb lr) := HX.out
  have HR0 : Hid ((w.drewN nq).heap[R]? = some (.cells #[.slice da len dcap, .int .i64 pos, .int .i64 pr] 52 (0, 0))) := HR.out
  have HE0 : Hid ((w.drewN nq).cell? ⟨0, 0, none⟩ = some (.iface 63 (.pointer (some a0)))) := HE.out
  have HST : Hid (Still w (w.drewN nq)) := Still.drewN w nq
  clear HX HR HE c0 c1 c2 c3 c4 f3 f4
  generalize w.drewN nq = w0 at *
  have c0 := XAt.c0 HX0.out
  have c1 := XAt.c1 HX0.out
  have c3 := XAt.c3 HX0.out
  have c4 := XAt.c4 HX0.out
  have f3 := XAt.fr HX0.out 3
  have f4 := XAt.fr HX0.out 4
  go_wp2_with fail
  refine wp_loop_rounds 1 ?_
  rw [rounds_succ]
  go_wp2_with fail
  have HR1 : Hid (w0.drew.heap[R]? = some (.cells #[.slice da len dcap, .int .i64 pos, .int .i64 pr] 52 (0, 0))) := HR0.out
  have HE1 : Hid (w0.drew.cell? ⟨0, 0, none⟩ = some (.iface 63 (.pointer (some a0)))) := HE0.out
  have HX1 : Hid (XAt w0.drew X U R 0 wp .nilIface lb lr) := HX0.out
  go_region_held3 (fun w' => w'.cell? ⟨X, 0, none⟩ = some (.slice (some ⟨U, 0, none⟩) 4096 4096) ∧ w'.cell? ⟨X, 1, none⟩ = some (.iface 39 (.pointer (some ⟨R, 0, none⟩))) ∧ w'.cell? ⟨X, 3, none⟩ = some (.int .i64 wp)) (go_keep)
    (first
      | (go_at_call 46
         refine (readEndB R da len dcap pos pr (.iface 63 (.pointer (some a0))) _ _ HR1.out HE1.out hpl hp).mono ?_
         rintro e w1 ⟨rfl, hst1⟩
         have d0 : w1.cell? ⟨X, 0, none⟩ = some (.slice (some ⟨U, 0, none⟩) 4096 4096) := (hst1.cell _).trans (XAt.c0 HX1.out)
         have d1 : w1.cell? ⟨X, 1, none⟩ = some (.iface 39 (.pointer (some ⟨R, 0, none⟩))) := (hst1.cell _).trans (XAt.c1 HX1.out)
         have d3 : w1.cell? ⟨X, 3, none⟩ = some (.int .i64 wp) := (hst1.cell _).trans (XAt.c3 HX1.out)
         have HX2 : Hid (XAt w1 X U R 0 wp .nilIface lb lr) := XAt.keep HX1.out (hst1.blk X)))
  have x3 := XAt.c3 HX2.out
  have x4 := XAt.c4 HX2.out
  have g3 := XAt.fr HX2.out 3
  have g4 := XAt.fr HX2.out 4
  go_wp2_with fail
  refine bodyPost_ret (results_none rfl _ _ _) rfl ?_
  refine ⟨rfl, ?_, ?_⟩
  · exact set_blk (set_blk HX2.out 3 _) 4 _
  · have h1 : Same (· = X) w w1 := Same.of_below (((HST.out.trans (show Still w0 w0.drew from ⟨rfl, rfl, rfl, rfl⟩)).trans hst1).below _)
    exact (h1.setCell (S := (· = X)) (p := ⟨X, 3, none⟩) (fun _ => rfl) _).setCell (S := (· = X)) (p := ⟨X, 4, none⟩) (fun _ => rfl) _

/-- A first fill that finds bytes. -/
def FillSome (X U R D len : Nat) (g : Nat → Int) (lb lr : Int) (w w' : World) : Prop :=
  XAt w' X U R 0 (min len 4096) .nilIface lb lr ∧ w'.heap[R]? = some (.cells #[.slice (some ⟨D, 0, none⟩) len len, .int .i64 ((min len 4096 : Nat) : Int), .int .i64 (-1)] 52 (0, 0)) ∧ Own w' U 4096 .u8 5 (fun i => if i < min len 4096 then g i else 0) ∧ Same (fun k => k = X ∨ k = R ∨ k = U) w w'

set_option maxRecDepth 100000 in
set_option maxHeartbeats 2000000 in
theorem fill_some (X U R D len : Nat) (pr : Int) (g : Nat → Int) (lb lr : Int) (w : World) (hx : XAt w X U R 0 0 .nilIface lb lr)
    (hR : w.heap[R]? = some (.cells #[.slice (some ⟨D, 0, none⟩) len len, .int .i64 0, .int .i64 pr] 52 (0, 0))) (hD : Own w D len .u8 5 g) (hU : Own w U 4096 .u8 5 (fun _ => 0)) (hl0 : 0 < len) (hl : len ≤ 2097152) (hXR : X ≠ R) (hXU : X ≠ U) (hRU : R ≠ U) (hRD : R ≠ D) (hDU : D ≠ U) :
    Calls Tryd.prog 26 #[.pointer (some ⟨X, 0, none⟩)] w fun e w' => e = .returned (.tuple #[]) ∧ FillSome X U R D len g lb lr w w' := by
  have c0 := hx.c0
  have c2 := hx.c2
  have c3 := hx.c3
  have hmr := meth_read
  have HX : Hid (XAt w X U R 0 0 .nilIface lb lr) := hx
  have HR : Hid _ := hR
  clear hx hR
  go_enter Tryd.func26, Tryd.ntmps26
  go_wp2_with fail
  go_quiet (fail)
  have HX1 : Hid (XAt (w.drewN nq).drew X U R 0 0 .nilIface lb lr) := HX.out
  have HR1 : Hid ((w.drewN nq).drew.heap[R]? = some (.cells #[.slice (some ⟨D, 0, none⟩) len len, .int .i64 ((0 : Nat) : Int), .int .i64 pr] 52 (0, 0))) := HR.out
  have HD1 : Hid (Own (w.drewN nq).drew D len .u8 5 g) := hD.keep rfl
  have HU1 : Hid (Own (w.drewN nq).drew U 4096 .u8 5 (fun _ => 0)) := hU.keep rfl
  have HST : Hid (Still w (w.drewN nq).drew) := ⟨rfl, rfl, rfl, rfl⟩
  clear HX HR c0 c2 c3 hD hU
  generalize w.drewN nq = w0 at *
  have c0 : w0.cell? ⟨X, 0, none⟩ = some (.slice (some ⟨U, 0, none⟩) 4096 4096) := XAt.c0 HX1.out
  have c1 : w0.cell? ⟨X, 1, none⟩ = some (.iface 39 (.pointer (some ⟨R, 0, none⟩))) := XAt.c1 HX1.out
  have c3 : w0.cell? ⟨X, 3, none⟩ = some (.int .i64 0) := XAt.c3 HX1.out
  have f3 : w0.frozen? ⟨X, 3, none⟩ = false := XAt.fr HX1.out 3
  have f4 : w0.frozen? ⟨X, 4, none⟩ = false := XAt.fr HX1.out 4
  go_wp2_with fail
  refine wp_loop_rounds 1 ?_
  rw [rounds_succ]
  go_wp2_with fail
  go_region_held3 (fun w' => w'.cell? ⟨X, 0, none⟩ = some (.slice (some ⟨U, 0, none⟩) 4096 4096) ∧ w'.cell? ⟨X, 1, none⟩ = some (.iface 39 (.pointer (some ⟨R, 0, none⟩))) ∧ w'.cell? ⟨X, 3, none⟩ = some (.int .i64 0)) (go_keep)
    (first
      | (go_at_call 46
         refine (readSomeB R D len 0 U 4096 4096 4096 pr (fun _ => 0) g _ HR1.out HD1.out HU1.out (Nat.le_refl _) hl0 hl hRU hRD hDU).mono ?_
         rintro e w1 ⟨rfl, hrp⟩
         have hbk := hrp.2.2.block X (lt_of_block HX1.out) (by omega)
         have HX2 : Hid (XAt w1 X U R 0 0 .nilIface lb lr) := XAt.keep HX1.out hbk
         have d0 := XAt.c0 HX2.out
         have d1 := XAt.c1 HX2.out
         have d3 : w1.cell? ⟨X, 3, none⟩ = some (.int .i64 0) := XAt.c3 HX2.out
         have HRP : Hid (ReadPost R D len 0 U 4096 4096 (fun _ => 0) g w0.drew w1) := hrp
         clear hrp hbk))
  have x3 : w1.cell? ⟨X, 3, none⟩ = some (.int .i64 0) := XAt.c3 HX2.out
  have x4 := XAt.c4 HX2.out
  have g3 := XAt.fr HX2.out 3
  have g4 := XAt.fr HX2.out 4
  have hmin : 0 < min (len - 0) 4096 := by omega
  have hmin2 : (0 : Int) < ((min (len - 0) 4096 : Nat) : Int) := by omega
  go_wp2_with fail
  refine bodyPost_ret (results_none rfl _ _ _) rfl ?_
  obtain ⟨p1, p2, p3⟩ := HRP.out
  refine ⟨rfl, set_blk HX2.out 3 _, ?_, ?_, ?_⟩
  · rw [Below.heap_setCell _ _ _ _ (by simp; omega)]
    simpa using p1
  · exact (p2.other (a := ⟨X, 3, none⟩) (by simp; omega) _).congr (fun i hi => by simp)
  · have h1 : Same (fun k => k = X ∨ k = R ∨ k = U) w w1 := (HST.out.same _).trans p3 (fun i _ e => .inr e)
    exact h1.setCell (p := ⟨X, 3, none⟩) (fun _ => .inl rfl) _
end Go.Proofs.Qxb6615636aDoor
