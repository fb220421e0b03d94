/-
  THE WALKS of bufio's Discard(3), SkipByteOrderMark, ZZskipBytes (seat b6615636aD).
-/
import Derived.Test.Qxb6615636aDoorWalkM
import Derived.Laws.BytesArg
namespace Go.Proofs.Qxb6615636aDoor
open Go.ChangeShapes Go.WideShapes Go.ChangeAt Go.RowKit
set_option linter.unusedVariables false

def DiscPost (X U R wp : Nat) (w : World) (e : Ending) (w' : World) : Prop := e = .returned (.tuple #[.int .i64 3, .nilIface]) ∧ XAt w' X U R 3 wp .nilIface (-1) (-1) ∧ Same (· = X) w w'

set_option maxRecDepth 100000 in
set_option maxHeartbeats 4000000 in
theorem discard3 (X U R wp : Nat) (lb lr : Int) (w : World) (hx : XAt w X U R 0 wp .nilIface lb lr) (hw : 3 ≤ wp) (hw2 : wp ≤ 4096) :
    Calls Tryd.prog 23 #[.pointer (some ⟨X, 0, none⟩), .int .i64 3] w fun e w' => DiscPost X U R wp w e w' := by
  have c5 := hx.c5
  have c6 := hx.c6
  have f5 := hx.fr 5
  have f6 := hx.fr 6
  have hx2 : XAt ((w.setCell ⟨X, 5, none⟩ (.int .i64 (-1))).setCell ⟨X, 6, none⟩ (.int .i64 (-1))) X U R 0 wp .nilIface (-1) (-1) := set_blk (set_blk hx 5 _) 6 _
  have hsm2 : Same (· = X) w ((w.setCell ⟨X, 5, none⟩ (.int .i64 (-1))).setCell ⟨X, 6, none⟩ (.int .i64 (-1))) := ((Same.refl (· = X) w).setCell (S := (· = X)) (p := ⟨X, 5, none⟩) (fun _ => rfl) _).setCell (S := (· = X)) (p := ⟨X, 6, none⟩) (fun _ => rfl) _
  have HX : Hid (XAt ((w.setCell ⟨X, 5, none⟩ (.int .i64 (-1))).setCell ⟨X, 6, none⟩ (.int .i64 (-1))) X U R 0 wp .nilIface (-1) (-1)) := hx2
  have HSM : Hid _ := hsm2
  clear hx hx2 hsm2
  go_enter Tryd.func23, Tryd.ntmps23
  go_wp2_with fail
  generalize ((w.setCell ⟨X, 5, none⟩ (.int .i64 (-1))).setCell ⟨X, 6, none⟩ (.int .i64 (-1))) = w0 at *
  clear c5 c6 f5 f6
  refine wp_loop_rounds 1 ?_
  rw [rounds_succ]
  go_wp2_with fail
  refine Calls.mono (buffered_any X U R 0 wp .nilIface (-1) (-1) w0 HX.out (by omega) hw2) ?_
  rintro e w1 ⟨rfl, hst⟩
  have hx1 : XAt w1 X U R 0 wp .nilIface (-1) (-1) := XAt.keep HX.out (hst.blk X)
  have c2 : w1.cell? ⟨X, 2, none⟩ = some (.int .i64 0) := XAt.c2 hx1
  have f2 := XAt.fr hx1 2
  have HX1 : Hid (XAt w1 X U R 0 wp .nilIface (-1) (-1)) := hx1
  have HSM1 : Hid (Same (· = X) w w1) := HSM.out.still hst
  clear hx1 hst HX HSM
  rw [Nat.sub_zero]
  by_cases hw3 : 3 < wp
  · go_wp2_with fail
    go_ret2
    exact ⟨rfl, set_blk HX1.out 2 _, HSM1.out.setCell (S := (· = X)) (p := ⟨X, 2, none⟩) (fun _ => rfl) _⟩
  · obtain rfl : wp = 3 := by omega
    go_wp2_with fail
    go_ret2
    exact ⟨rfl, set_blk HX1.out 2 _, HSM1.out.setCell (S := (· = X)) (p := ⟨X, 2, none⟩) (fun _ => rfl) _⟩

def bom (len : Nat) (g : Nat → Int) : Prop := 3 ≤ len ∧ g 0 = 239 ∧ g 1 = 187 ∧ g 2 = 191
def theMark : ByteArray := { data := #[239, 187, 191] }
theorem byte_eq {x : Int} (h : 0 ≤ x ∧ x ≤ 255) {n : Nat} (hn : n ≤ 255) : UInt8.ofNat x.toNat = UInt8.ofNat n ↔ x = n := by
  constructor
  · intro e
    have := congrArg UInt8.toNat e
    simp at this
    omega
  · rintro rfl
    simp
theorem peek_str {len : Nat} {g y : Nat → Int} (hy : ∀ i, i < min len 3 → y i = g i) (hg : ∀ i, i < len → 0 ≤ g i ∧ g i ≤ 255) : strOfNums ((List.range (min len 3)).map y) = { data := #[239, 187, 191] } ↔ bom len g := by
  unfold bom
  constructor
  · intro e
    have e1 := congrArg (fun s : ByteArray => s.data.toList) e
    simp only [strOfNums_data] at e1
    have hlen := congrArg List.length e1
    simp at hlen
    have h3 : min len 3 = 3 := hlen
    rw [h3] at e1
    simp [List.range_succ] at e1
    obtain ⟨q0, q1, q2⟩ := e1
    rw [hy 0 (by omega)] at q0
    rw [hy 1 (by omega)] at q1
    rw [hy 2 (by omega)] at q2
    exact ⟨by omega, (byte_eq (hg 0 (by omega)) (n := 239) (by omega)).1 q0, (byte_eq (hg 1 (by omega)) (n := 187) (by omega)).1 q1, (byte_eq (hg 2 (by omega)) (n := 191) (by omega)).1 q2⟩
  · rintro ⟨h3, h0, h1, h2⟩
    have h3' : min len 3 = 3 := by omega
    rw [h3']
    have e0 : y 0 = 239 := (hy 0 (by omega)).trans h0
    have e1 : y 1 = 187 := (hy 1 (by omega)).trans h1
    have e2 : y 2 = 191 := (hy 2 (by omega)).trans h2
    simp [strOfNums, List.range_succ, e0, e1, e2]

def SkipPost (X U R D len : Nat) (da : Option Addr) (g : Nat → Int) (w : World) (e : Ending) (w' : World) : Prop :=
  e = .returned (.pointer (some ⟨X, 0, none⟩)) ∧ Same (· = R) w w' ∧ ∃ q, ((bom len g ∧ q = 3) ∨ (¬ bom len g ∧ q = 0)) ∧ BSt w' X U R D len da g q (min len 4096) (min len 4096)
end Go.Proofs.Qxb6615636aDoor
