/-
  THE WALKS of (*limitedText).Read past the limit and into no bytes (seat b6615636aD).
-/
import Derived.Test.Qxb6615636aDoorWalkB
namespace Go.Proofs.Qxb6615636aDoor
open Go.ChangeShapes Go.WideShapes Go.ChangeAt Go.RowKit
set_option linter.unusedVariables false

/-- A read that goes past the limit. -/
def LtPast (T R D len pos P M L : Nat) (a1 : Addr) (z g : Nat → Int) (w w' : World) : Prop :=
  Own w' P M .u8 5 (fun i => if i < L + 1 then g (pos + i) else z i) ∧ TextAt w' T R 0 (.iface 63 (.pointer (some a1))) ∧ Same (fun k => k = R ∨ k = P ∨ k = T) w w'

theorem lt_past_end {T R D len pos P M m' L : Nat} {a1 : Addr} {z g : Nat → Int} {w w1 w' : World} (hm : min (len - pos) m' = L + 1) (hTR : T ≠ R) (hTP : T ≠ P) (hT : TextAt w T R L .nilIface) (h : ReadPost R D len pos P M m' z g w w1)
    (hw : w'.heap = ((w1.setCell ⟨T, 1, none⟩ (.int .i64 0)).setCell ⟨T, 2, none⟩ (.iface 63 (.pointer (some a1)))).heap) (ho : w'.os = w1.os) (ht : w'.tape = w1.tape) (hu : w'.output = w1.output) : LtPast T R D len pos P M L a1 z g w w' := by
  obtain ⟨h1, h2, h3⟩ := h
  rw [hm] at h2
  have hT1 : TextAt w1 T R L .nilIface := (h3.block T (lt_of_block hT) (by omega)).trans hT
  have h4 : Same (fun k => k = R ∨ k = P ∨ k = T) w w1 := (Same.refl _ w).trans h3 (fun i _ e => by rcases e with e | e; exact .inl e; exact .inr (.inl e))
  have h5 := (h4.setCell (p := ⟨T, 1, none⟩) (fun _ => .inr (.inr rfl)) (.int .i64 0)).setCell (p := ⟨T, 2, none⟩) (fun _ => .inr (.inr rfl)) (.iface 63 (.pointer (some a1)))
  refine ⟨((h2.other (a := ⟨T, 1, none⟩) (by simp; omega) (.int .i64 0)).other (a := ⟨T, 2, none⟩) (by simp; omega) (.iface 63 (.pointer (some a1)))).keep (by rw [hw]), ?_, ?_⟩
  · unfold TextAt
    rw [hw]
    exact set_blk (set_blk hT1 1 _) 2 _
  · exact ⟨ho.trans h4.os, ht.trans h4.tape, hu.trans h4.output, by rw [hw]; exact h5.size, fun k hk hS => by rw [hw]; exact h5.block k hk hS⟩

set_option maxHeartbeats 2000000 in
theorem lt_past (T R D len pos P M m pc L B : Nat) (a0 a1 : Addr) (pr : Int) (z g : Nat → Int) (w : World) (hs : Sent w B a0 a1) (hBR : B ≤ R) (hBP : B ≤ P) (hBT : B ≤ T) (hT : TextAt w T R L .nilIface) (hR : w.heap[R]? = some (.cells #[.slice (some ⟨D, 0, none⟩) len len, .int .i64 pos, .int .i64 pr] 52 (0, 0))) (hD : Own w D len .u8 5 g) (hP : Own w P M .u8 5 z) (hm : m ≤ M) (hmc : m ≤ pc) (hpc : pc ≤ 1048576)
    (hpl : pos < len) (hl : len ≤ 1048576) (hRP : R ≠ P) (hRD : R ≠ D) (hDP : D ≠ P) (hTR : T ≠ R) (hTP : T ≠ P) (hk : L < min (len - pos) m) :
    Calls Tryd.prog 18 #[.pointer (some ⟨T, 0, none⟩), .slice (some ⟨P, 0, none⟩) m pc] w fun e w' => e = .returned (.tuple #[.int .i64 (L : Int), .iface 63 (.pointer (some a1))]) ∧ LtPast T R D len pos P M L a1 z g w w' := by
  have c0 : w.cell? ⟨T, 0, none⟩ = some (.iface 39 (.pointer (some ⟨R, 0, none⟩))) := cell_blk hT 0
  have c1 : w.cell? ⟨T, 1, none⟩ = some (.int .i64 L) := cell_blk hT 1
  have c2 : w.cell? ⟨T, 2, none⟩ = some .nilIface := cell_blk hT 2
  have hmr := meth_read
  have HT : Hid _ := hT
  have HR : Hid _ := hR
  have HS : Hid _ := hs
  clear hT hR hs
  by_cases hml : L + 1 < m
  · have hml' : (L : Int) + 1 < (m : Int) := by omega
    go_enter Tryd.func18, Tryd.ntmps18
    go_wp2_with fail
    refine (readSome R D len pos P M (L + 1) pc pr z g _ HR.out hD hP (by omega) hpl hl hRP hRD hDP).mono ?_
    rintro e w1 ⟨rfl, hrp⟩
    have hTb := hrp.2.2.block T (lt_of_block HT.out) (by omega)
    have d1 : w1.cell? ⟨T, 1, none⟩ = some (.int .i64 L) := (World.cell?_of_block hTb).trans c1
    have d2 : w1.cell? ⟨T, 2, none⟩ = some .nilIface := (World.cell?_of_block hTb).trans c2
    have f1 : w1.frozen? ⟨T, 1, none⟩ = false := (World.frozen?_of_block hTb).trans (free_blk HT.out 1)
    have f2 : w1.frozen? ⟨T, 2, none⟩ = false := (World.frozen?_of_block hTb).trans (free_blk HT.out 2)
    have hsz : B ≤ w.heap.size := by have := lt_of_block HT.out; omega
    have hs1 : Sent w1 B a0 a1 := HS.out.below (hrp.2.2.below hsz (fun k hk e => by omega))
    have e1 := hs1.e1
    have hT1 : 1 < T := by have := HS.out.pos; omega
    have e2 : (w1.setCell ⟨T, 1, none⟩ (.int .i64 0)).cell? ⟨1, 0, none⟩ = some (.iface 63 (.pointer (some a1))) := by rw [cell_set_other (by omega)]; exact e1
    have hkk : min (len - pos) (L + 1) = L + 1 := by omega
    have HKK : Hid (min (len - pos) (L + 1) = L + 1) := hkk
    have hkl : (L : Int) < ((min (len - pos) (L + 1) : Nat) : Int) := by omega
    have HRP : Hid _ := hrp
    clear hrp hs1 hkk hTb
    have hT1' : TextAt w1 T R L .nilIface := (HRP.out.2.2.block T (lt_of_block HT.out) (by omega)).trans HT.out
    have y2 : ((w1.setCell ⟨T, 1, none⟩ (.int .i64 0)).setCell ⟨T, 2, none⟩ (.iface 63 (.pointer (some a1)))).cell? ⟨T, 2, none⟩ = some (.iface 63 (.pointer (some a1))) := cell_blk (set_blk (set_blk hT1' 1 _) 2 _) 2
    clear hT1'
    go_wp2_with fail
    go_region
    go_wp2_with fail
    go_quiet (fail)
    go_wp2_with fail
    go_ret2
    exact ⟨rfl, lt_past_end HKK.out hTR hTP HT.out HRP.out rfl rfl rfl rfl⟩
  · have hml' : ¬ (L : Int) + 1 < (m : Int) := by omega
    go_enter Tryd.func18, Tryd.ntmps18
    go_wp2_with fail
    refine (readSome R D len pos P M m pc pr z g _ HR.out hD hP (by omega) hpl hl hRP hRD hDP).mono ?_
    rintro e w1 ⟨rfl, hrp⟩
    have hTb := hrp.2.2.block T (lt_of_block HT.out) (by omega)
    have d1 : w1.cell? ⟨T, 1, none⟩ = some (.int .i64 L) := (World.cell?_of_block hTb).trans c1
    have d2 : w1.cell? ⟨T, 2, none⟩ = some .nilIface := (World.cell?_of_block hTb).trans c2
    have f1 : w1.frozen? ⟨T, 1, none⟩ = false := (World.frozen?_of_block hTb).trans (free_blk HT.out 1)
    have f2 : w1.frozen? ⟨T, 2, none⟩ = false := (World.frozen?_of_block hTb).trans (free_blk HT.out 2)
    have hsz : B ≤ w.heap.size := by have := lt_of_block HT.out; omega
    have hs1 : Sent w1 B a0 a1 := HS.out.below (hrp.2.2.below hsz (fun k hk e => by omega))
    have e1 := hs1.e1
    have hT1 : 1 < T := by have := HS.out.pos; omega
    have e2 : (w1.setCell ⟨T, 1, none⟩ (.int .i64 0)).cell? ⟨1, 0, none⟩ = some (.iface 63 (.pointer (some a1))) := by rw [cell_set_other (by omega)]; exact e1
    have hkk : min (len - pos) (m) = L + 1 := by omega
    have HKK : Hid (min (len - pos) (m) = L + 1) := hkk
    have hkl : (L : Int) < ((min (len - pos) (m) : Nat) : Int) := by omega
    have HRP : Hid _ := hrp
    clear hrp hs1 hkk hTb
    have hT1' : TextAt w1 T R L .nilIface := (HRP.out.2.2.block T (lt_of_block HT.out) (by omega)).trans HT.out
    have y2 : ((w1.setCell ⟨T, 1, none⟩ (.int .i64 0)).setCell ⟨T, 2, none⟩ (.iface 63 (.pointer (some a1)))).cell? ⟨T, 2, none⟩ = some (.iface 63 (.pointer (some a1))) := cell_blk (set_blk (set_blk hT1' 1 _) 2 _) 2
    clear hT1'
    go_wp2_with fail
    go_region
    go_wp2_with fail
    go_quiet (fail)
    go_wp2_with fail
    go_ret2
    exact ⟨rfl, lt_past_end HKK.out hTR hTP HT.out HRP.out rfl rfl rfl rfl⟩

/-- A read into no bytes, some left in the file. -/
def LtZero (T R D len pos L : Nat) (w w' : World) : Prop :=
  w'.heap[R]? = some (.cells #[.slice (some ⟨D, 0, none⟩) len len, .int .i64 (pos : Int), .int .i64 (-1)] 52 (0, 0)) ∧ TextAt w' T R (L : Int) .nilIface ∧ Same (fun k => k = R ∨ k = T) w w'

set_option maxHeartbeats 1000000 in
theorem lt_zero (T R D len pos pc L : Nat) (pa : Option Addr) (pr : Int) (w : World) (hT : TextAt w T R L .nilIface) (hR : w.heap[R]? = some (.cells #[.slice (some ⟨D, 0, none⟩) len len, .int .i64 pos, .int .i64 pr] 52 (0, 0)))
    (hpl : pos < len) (hl : len ≤ 1048576) (hTR : T ≠ R) (hL : L < 9223372036854775807) :
    Calls Tryd.prog 18 #[.pointer (some ⟨T, 0, none⟩), .slice pa 0 pc] w fun e w' => e = .returned (.tuple #[.int .i64 0, .nilIface]) ∧ LtZero T R D len pos L w w' := by
  have c0 : w.cell? ⟨T, 0, none⟩ = some (.iface 39 (.pointer (some ⟨R, 0, none⟩))) := cell_blk hT 0
  have c1 : w.cell? ⟨T, 1, none⟩ = some (.int .i64 L) := cell_blk hT 1
  have c2 : w.cell? ⟨T, 2, none⟩ = some .nilIface := cell_blk hT 2
  have hmr := meth_read
  have HT : Hid _ := hT
  have HR : Hid _ := hR
  clear hT hR
  go_enter Tryd.func18, Tryd.ntmps18
  go_wp2_with fail
  refine (readZero R D len pos pc pa pr w HR.out hpl hl).mono ?_
  rintro e w1 ⟨rfl, hrp⟩
  have hTb := hrp.2.block T (lt_of_block HT.out) (by omega)
  have d1 : w1.cell? ⟨T, 1, none⟩ = some (.int .i64 L) := (World.cell?_of_block hTb).trans c1
  have f1 : w1.frozen? ⟨T, 1, none⟩ = false := (World.frozen?_of_block hTb).trans (free_blk HT.out 1)
  have hT1 : TextAt w1 T R L .nilIface := hTb.trans HT.out
  have HT1 : Hid _ := hT1
  have HRP : Hid _ := hrp
  clear hrp hTb hT1
  go_wp2_with fail
  go_ret2
  refine ⟨rfl, ?_, set_blk HT1.out 1 _, ?_⟩
  · rw [Below.heap_setCell _ _ _ _ (by simp; omega)]; exact HRP.out.1
  · have h4 : Same (fun k => k = R ∨ k = T) w w1 := (Same.refl _ w).trans HRP.out.2 (fun i _ e => .inl e)
    exact h4.setCell (p := ⟨T, 1, none⟩) (fun _ => .inr rfl) _

end Go.Proofs.Qxb6615636aDoor
