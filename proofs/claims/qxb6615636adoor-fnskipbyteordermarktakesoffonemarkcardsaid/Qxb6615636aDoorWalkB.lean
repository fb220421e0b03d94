/-
  THE WALKS of (*limitedText).Read (seat b6615636aD).
-/
import Derived.Test.Qxb6615636aDoorWalkA
namespace Go.Proofs.Qxb6615636aDoor
open Go.ChangeShapes Go.WideShapes Go.ChangeAt Go.RowKit
set_option linter.unusedVariables false

/-- The two sentinels: io.EOF and errPastLimit: two errors of one type, in memory below block B. -/
structure Sent (w : World) (B : Nat) (a0 a1 : Addr) : Prop where
  pos : 2 ≤ B
  e0 : w.cell? ⟨0, 0, none⟩ = some (.iface 63 (.pointer (some a0)))
  e1 : w.cell? ⟨1, 0, none⟩ = some (.iface 63 (.pointer (some a1)))
  l0 : a0.block < B
  l1 : a1.block < B
  b0 : ∃ c t, w.heap[a0.block]? = some (.cells c t (0, 0))
  b1 : ∃ c t, w.heap[a1.block]? = some (.cells c t (0, 0))
  ne : a0 ≠ a1
theorem Sent.below {w w' : World} {B : Nat} {a0 a1 : Addr} (h : Sent w B a0 a1) (hb : Below B w w') : Sent w' B a0 a1 :=
  ⟨h.pos, (hb.cell (p := ⟨0, 0, none⟩) (show 0 < B by have := h.pos; omega)).trans h.e0, (hb.cell (p := ⟨1, 0, none⟩) (show 1 < B by have := h.pos; omega)).trans h.e1, h.l0, h.l1, by rw [hb.block _ h.l0]; exact h.b0, by rw [hb.block _ h.l1]; exact h.b1, h.ne⟩

theorem lt_stopped (T : Nat) (fv : Value) (left : Int) (a : Addr) (p : Value) (w : World) (hT : w.heap[T]? = some (.cells #[fv, .int .i64 left, .iface 63 (.pointer (some a))] 46 (0, 0))) :
    Calls Tryd.prog 18 #[.pointer (some ⟨T, 0, none⟩), p] w fun e w' => e = .returned (.tuple #[.int .i64 0, .iface 63 (.pointer (some a))]) ∧ Still w w' := by
  have c2 : w.cell? ⟨T, 2, none⟩ = some (.iface 63 (.pointer (some a))) := cell_blk hT 2
  clear hT
  go_enter Tryd.func18, Tryd.ntmps18
  go_wp2_with fail
  go_quiet (fail)
  go_wp2_with fail
  go_ret2
  exact ⟨rfl, rfl, rfl, rfl, rfl⟩

theorem meth_read (a : Addr) (w : World) : (method 190 39 (.pointer (some a)) "Read").run Tryd.prog w = .ok (46, .pointer (some a)) w := by kernel_rfl

theorem Tryd.info63 : ∃ i, Tryd.prog.info? 63 = some i ∧ i.comparable = true := by
  have h : (Tryd.prog.info? 63).map (·.comparable) = some true := by kernel_rfl
  cases hi : Tryd.prog.info? 63 with
  | none => rw [hi] at h; simp at h
  | some i => rw [hi] at h; exact ⟨i, rfl, by simpa using h⟩

theorem Tryd.info82 : ∃ j, Tryd.prog.info? 82 = some j ∧ j.size ≠ 0 := by
  have h : (Tryd.prog.info? 82).map (·.size) = some 1 := by kernel_rfl
  cases hi : Tryd.prog.info? 82 with
  | none => rw [hi] at h; simp at h
  | some i => rw [hi] at h; exact ⟨i, rfl, by simp at h; omega⟩

theorem neq_same (a : Addr) (w : World) : (binOp .neq 44 (.iface 63 (.pointer (some a))) (.iface 63 (.pointer (some a)))).run Tryd.prog w = .ok (.bool false) w := by
  obtain ⟨i, hi, hc⟩ := Tryd.info63
  obtain ⟨j, hj, _⟩ := Tryd.info82
  have h := run_equalIn_iface_ptr_same (P := Tryd.prog) w 9998 a Tryd.underlying44 Tryd.underlying63 hi hc hj
  simp only [binOp]
  simp [Op.equal, Op.maxDepth, h]

/-- What a read of the text leaves of its own three cells. -/
def TextAt (w : World) (T R : Nat) (L : Int) (st : Value) : Prop := w.heap[T]? = some (.cells #[.iface 39 (.pointer (some ⟨R, 0, none⟩)), .int .i64 L, st] 46 (0, 0))

theorem lt_end (T R : Nat) (da : Option Addr) (len dcap pos L : Nat) (pr : Int) (a0 a1 : Addr) (pa : Option Addr) (m pc : Nat) (B : Nat) (w : World) (hs : Sent w B a0 a1) (hBT : B ≤ T) (hT : TextAt w T R L .nilIface)
    (hR : w.heap[R]? = some (.cells #[.slice da len dcap, .int .i64 pos, .int .i64 pr] 52 (0, 0))) (hpl : len ≤ pos) (hp : pos ≤ 1048576) (hL : L < 9223372036854775807) (hm : m ≤ pc) (hpc : pc ≤ 1048576) :
    Calls Tryd.prog 18 #[.pointer (some ⟨T, 0, none⟩), .slice pa m pc] w fun e w' => e = .returned (.tuple #[.int .i64 0, .iface 63 (.pointer (some a0))]) ∧ TextAt w' T R L .nilIface ∧ Same (· = T) w w' := by
  have c0 : w.cell? ⟨T, 0, none⟩ = some (.iface 39 (.pointer (some ⟨R, 0, none⟩))) := cell_blk hT 0
  have c1 : w.cell? ⟨T, 1, none⟩ = some (.int .i64 L) := cell_blk hT 1
  have c2 : w.cell? ⟨T, 2, none⟩ = some .nilIface := cell_blk hT 2
  have hmr := meth_read
  have hq := neq_same a0
  have HT : Hid _ := hT
  have HR : Hid _ := hR
  have HS : Hid _ := hs
  clear hT hR hs
  by_cases hml : L + 1 < m
  · have hml' : (L : Int) + 1 < (m : Int) := by omega
    go_enter Tryd.func18, Tryd.ntmps18
    go_wp2_with fail
    refine (readEnd R da len dcap pos pr (.iface 63 (.pointer (some a0))) _ _ HR.out HS.out.e0 hpl hp).mono ?_
    rintro e w1 ⟨rfl, hst⟩
    have hT1 : TextAt w1 T R L .nilIface := by unfold TextAt; rw [hst.heap]; exact HT.out
    have hs1 : Sent w1 B a0 a1 := HS.out.below (hst.below B)
    have d1 : w1.cell? ⟨T, 1, none⟩ = some (.int .i64 L) := cell_blk hT1 1
    have f1 := free_blk hT1 1
    have e0 : (w1.setCell ⟨T, 1, none⟩ (.int .i64 L)).cell? ⟨0, 0, none⟩ = some (.iface 63 (.pointer (some a0))) := by rw [cell_set_other (by have := HS.out.pos; omega)]; exact hs1.e0
    have HT1 : Hid _ := hT1
    clear hT1 hs1
    go_wp2_with fail
    go_ret2
    have h1 : Same (· = T) w w1 := Same.of_below (hst.below _)
    exact ⟨rfl, set_blk HT1.out 1 _, h1.setCell (S := (· = T)) (p := ⟨T, 1, none⟩) (fun _ => rfl) _⟩
  · have hml' : ¬ (L : Int) + 1 < (m : Int) := by omega
    go_enter Tryd.func18, Tryd.ntmps18
    go_wp2_with fail
    refine (readEnd R da len dcap pos pr (.iface 63 (.pointer (some a0))) _ _ HR.out HS.out.e0 hpl hp).mono ?_
    rintro e w1 ⟨rfl, hst⟩
    have hT1 : TextAt w1 T R L .nilIface := by unfold TextAt; rw [hst.heap]; exact HT.out
    have hs1 : Sent w1 B a0 a1 := HS.out.below (hst.below B)
    have d1 : w1.cell? ⟨T, 1, none⟩ = some (.int .i64 L) := cell_blk hT1 1
    have f1 := free_blk hT1 1
    have e0 : (w1.setCell ⟨T, 1, none⟩ (.int .i64 L)).cell? ⟨0, 0, none⟩ = some (.iface 63 (.pointer (some a0))) := by rw [cell_set_other (by have := HS.out.pos; omega)]; exact hs1.e0
    have HT1 : Hid _ := hT1
    clear hT1 hs1
    go_wp2_with fail
    go_ret2
    have h1 : Same (· = T) w w1 := Same.of_below (hst.below _)
    exact ⟨rfl, set_blk HT1.out 1 _, h1.setCell (S := (· = T)) (p := ⟨T, 1, none⟩) (fun _ => rfl) _⟩

/-- A read within the limit. -/
def LtSome (T R D len pos P M m L : Nat) (z g : Nat → Int) (w w' : World) : Prop :=
  w'.heap[R]? = some (.cells #[.slice (some ⟨D, 0, none⟩) len len, .int .i64 ((pos + min (len - pos) m : Nat) : Int), .int .i64 (-1)] 52 (0, 0)) ∧ Own w' P M .u8 5 (fun i => if i < min (len - pos) m then g (pos + i) else z i) ∧
  TextAt w' T R ((L - min (len - pos) m : Nat) : Int) .nilIface ∧ Same (fun k => k = R ∨ k = P ∨ k = T) w w'

theorem lt_some_end {T R D len pos P M m m' L : Nat} {z g : Nat → Int} {w w1 w' : World} (hm : min (len - pos) m' = min (len - pos) m) (hk : min (len - pos) m ≤ L) (hTR : T ≠ R) (hTP : T ≠ P) (hT : TextAt w T R L .nilIface) (h : ReadPost R D len pos P M m' z g w w1)
    (hw : w' = w1.setCell ⟨T, 1, none⟩ (.int .i64 ((L : Int) - ((min (len - pos) m' : Nat) : Int)))) : LtSome T R D len pos P M m L z g w w' := by
  obtain ⟨h1, h2, h3⟩ := h
  rw [hm] at h1 h2 hw
  have hT1 : TextAt w1 T R L .nilIface := (h3.block T (lt_of_block hT) (by omega)).trans hT
  have e : ((L : Int) - ((min (len - pos) m : Nat) : Int)) = ((L - min (len - pos) m : Nat) : Int) := by omega
  rw [e] at hw
  subst hw
  refine ⟨?_, h2.other (a := ⟨T, 1, none⟩) (by simp; omega) _, set_blk hT1 1 _, ?_⟩
  · rw [Below.heap_setCell _ _ _ _ (by simp; omega)]; exact h1
  · have h4 : Same (fun k => k = R ∨ k = P ∨ k = T) w w1 := (Same.refl _ w).trans h3 (fun i _ e => by rcases e with e | e; exact .inl e; exact .inr (.inl e))
    exact h4.setCell (p := ⟨T, 1, none⟩) (fun _ => .inr (.inr rfl)) _

set_option maxHeartbeats 1000000 in
theorem lt_some (T R D len pos P M m pc L : Nat) (pr : Int) (z g : Nat → Int) (w : World) (hT : TextAt w T R L .nilIface) (hR : w.heap[R]? = some (.cells #[.slice (some ⟨D, 0, none⟩) len len, .int .i64 pos, .int .i64 pr] 52 (0, 0))) (hD : Own w D len .u8 5 g) (hP : Own w P M .u8 5 z) (hm : m ≤ M) (hmc : m ≤ pc) (hpc : pc ≤ 1048576)
    (hpl : pos < len) (hl : len ≤ 1048576) (hRP : R ≠ P) (hRD : R ≠ D) (hDP : D ≠ P) (hTR : T ≠ R) (hTP : T ≠ P) (hL : L < 9223372036854775807) (hk : min (len - pos) m ≤ L) :
    Calls Tryd.prog 18 #[.pointer (some ⟨T, 0, none⟩), .slice (some ⟨P, 0, none⟩) m pc] w fun e w' => e = .returned (.tuple #[.int .i64 ((min (len - pos) m : Nat) : Int), .nilIface]) ∧ LtSome T R D len pos P M m L z g w w' := by
  have c0 : w.cell? ⟨T, 0, none⟩ = some (.iface 39 (.pointer (some ⟨R, 0, none⟩))) := cell_blk hT 0
  have c1 : w.cell? ⟨T, 1, none⟩ = some (.int .i64 L) := cell_blk hT 1
  have c2 : w.cell? ⟨T, 2, none⟩ = some .nilIface := cell_blk hT 2
  have hmr := meth_read
  have HT : Hid _ := hT
  have HR : Hid _ := hR
  clear hT hR
  by_cases hml : L + 1 < m
  · have hml' : (L : Int) + 1 < (m : Int) := by omega
    go_enter Tryd.func18, Tryd.ntmps18
    go_wp2_with fail
    refine (readSome R D len pos P M (L + 1) pc pr z g _ HR.out hD hP (by omega) hpl hl hRP hRD hDP).mono ?_
    rintro e w1 ⟨rfl, hrp⟩
    have d1 : w1.cell? ⟨T, 1, none⟩ = some (.int .i64 L) := (hrp.2.2.cell (p := ⟨T, 1, none⟩) (lt_of_block HT.out) (by simp; omega)).trans c1
    have f1 : w1.frozen? ⟨T, 1, none⟩ = false := (World.frozen?_of_block (hrp.2.2.block T (lt_of_block HT.out) (by omega))).trans (free_blk HT.out 1)
    have hkk : min (len - pos) (L + 1) ≤ L := by omega
    have HRP : Hid _ := hrp
    clear hrp
    go_wp2_with fail
    go_ret2
    exact ⟨by rw [show min (len - pos) m = min (len - pos) (L + 1) by omega]; rfl, lt_some_end (by omega) hk hTR hTP HT.out HRP.out rfl⟩
  · have hml' : ¬ (L : Int) + 1 < (m : Int) := by omega
    go_enter Tryd.func18, Tryd.ntmps18
    go_wp2_with fail
    refine (readSome R D len pos P M m pc pr z g _ HR.out hD hP hm hpl hl hRP hRD hDP).mono ?_
    rintro e w1 ⟨rfl, hrp⟩
    have d1 : w1.cell? ⟨T, 1, none⟩ = some (.int .i64 L) := (hrp.2.2.cell (p := ⟨T, 1, none⟩) (lt_of_block HT.out) (by simp; omega)).trans c1
    have f1 : w1.frozen? ⟨T, 1, none⟩ = false := (World.frozen?_of_block (hrp.2.2.block T (lt_of_block HT.out) (by omega))).trans (free_blk HT.out 1)
    have HRP : Hid _ := hrp
    clear hrp
    go_wp2_with fail
    go_ret2
    exact ⟨rfl, lt_some_end rfl hk hTR hTP HT.out HRP.out rfl⟩
end Go.Proofs.Qxb6615636aDoor
