/-
  THE WALK of bufio's Peek(3) on a new reader (seat b6615636aD).
-/
import Derived.Test.Qxb6615636aDoorWalkL
namespace Go.Proofs.Qxb6615636aDoor
open Go.ChangeShapes Go.WideShapes Go.ChangeAt Go.RowKit
set_option linter.unusedVariables false

/-- The buffered reader's whole state: r read, wp written, the file's reader at pos. -/
structure BSt (w : World) (X U R D len : Nat) (da : Option Addr) (g : Nat → Int) (r wp pos : Nat) : Prop where
  x : ∃ lb lr, XAt w X U R r wp .nilIface lb lr
  rr : ∃ pr : Int, w.heap[R]? = some (.cells #[.slice da len len, .int .i64 pos, .int .i64 pr] 52 (0, 0))
  u : ∃ y, Own w U 4096 .u8 5 y ∧ ∀ i, i < wp → y i = g (pos - wp + i)
  data : len = 0 ∨ (da = some ⟨D, 0, none⟩ ∧ Own w D len .u8 5 g)
structure Apart (X U R D : Nat) : Prop where
  XR : X ≠ R
  XU : X ≠ U
  RU : R ≠ U
  XD : X ≠ D
  RD : R ≠ D
  DU : D ≠ U

def PeekPost (X U R D len : Nat) (da : Option Addr) (g : Nat → Int) (w : World) (e : Ending) (w' : World) : Prop :=
  (∃ err, e = .returned (.tuple #[.slice (some ⟨U, 0, none⟩) (min len 3) 4096, err])) ∧ BSt w' X U R D len da g 0 (min len 4096) (min len 4096) ∧ Same (fun k => k = X ∨ k = R ∨ k = U) w w'

theorem bst_of {w w' : World} {X U R D len wp : Nat} {da : Option Addr} {g : Nat → Int} {lb lr pr : Int} (h : Still w w') (hx : XAt w X U R 0 wp .nilIface lb lr) (hR : w.heap[R]? = some (.cells #[.slice da len len, .int .i64 (wp : Int), .int .i64 pr] 52 (0, 0)))
    (hU : Own w U 4096 .u8 5 (fun i => if i < wp then g i else 0)) (hD : len = 0 ∨ (da = some ⟨D, 0, none⟩ ∧ Own w D len .u8 5 g)) : BSt w' X U R D len da g 0 wp wp :=
  ⟨⟨lb, lr, hx.keep (h.blk X)⟩, ⟨pr, (h.blk R).trans hR⟩, ⟨_, hU.keep (h.blk U), fun i hi => by simp [hi]⟩, by
    rcases hD with e | ⟨e1, e2⟩
    · exact .inl e
    · exact .inr ⟨e1, e2.keep (h.blk D)⟩⟩

set_option maxRecDepth 100000 in
set_option maxHeartbeats 4000000 in
theorem peek3 (X U R D len : Nat) (pr : Int) (g : Nat → Int) (lb lr : Int) (w : World) (hx : XAt w X U R 0 0 .nilIface lb lr)
    (hR : w.heap[R]? = some (.cells #[.slice (some ⟨D, 0, none⟩) len len, .int .i64 0, .int .i64 pr] 52 (0, 0))) (hD : Own w D len .u8 5 g) (hU : Own w U 4096 .u8 5 (fun _ => 0)) (hl0 : 3 ≤ len) (hl : len ≤ 2097152) (hap : Apart X U R D) :
    Calls Tryd.prog 22 #[.pointer (some ⟨X, 0, none⟩), .int .i64 3] w fun e w' => PeekPost X U R D len (some ⟨D, 0, none⟩) g w e w' := by
  have c5 := hx.c5
  have c6 := hx.c6
  have f5 := hx.fr 5
  have f6 := hx.fr 6
  have hx2 : XAt ((w.setCell ⟨X, 5, none⟩ (.int .i64 (-1))).setCell ⟨X, 6, none⟩ (.int .i64 (-1))) X U R 0 0 .nilIface (-1) (-1) := set_blk (set_blk hx 5 _) 6 _
  have hR2 : ((w.setCell ⟨X, 5, none⟩ (.int .i64 (-1))).setCell ⟨X, 6, none⟩ (.int .i64 (-1))).heap[R]? = some (.cells #[.slice (some ⟨D, 0, none⟩) len len, .int .i64 0, .int .i64 pr] 52 (0, 0)) := by
    rw [Below.heap_setCell _ _ _ _ (fun e => hap.XR e.symm), Below.heap_setCell _ _ _ _ (fun e => hap.XR e.symm)]; exact hR
  have hD2 : Own ((w.setCell ⟨X, 5, none⟩ (.int .i64 (-1))).setCell ⟨X, 6, none⟩ (.int .i64 (-1))) D len .u8 5 g := (hD.other (a := ⟨X, 5, none⟩) (fun e => hap.XD e.symm) _).other (a := ⟨X, 6, none⟩) (fun e => hap.XD e.symm) _
  have hU2 : Own ((w.setCell ⟨X, 5, none⟩ (.int .i64 (-1))).setCell ⟨X, 6, none⟩ (.int .i64 (-1))) U 4096 .u8 5 (fun _ => 0) := (hU.other (a := ⟨X, 5, none⟩) (fun e => hap.XU e.symm) _).other (a := ⟨X, 6, none⟩) (fun e => hap.XU e.symm) _
  have hsm2 : Same (fun k => k = X ∨ k = R ∨ k = U) w ((w.setCell ⟨X, 5, none⟩ (.int .i64 (-1))).setCell ⟨X, 6, none⟩ (.int .i64 (-1))) := ((Same.refl _ w).setCell (p := ⟨X, 5, none⟩) (fun _ => .inl rfl) _).setCell (p := ⟨X, 6, none⟩) (fun _ => .inl rfl) _
  have HX : Hid _ := hx2
  have HR : Hid _ := hR2
  have HD : Hid _ := hD2
  have HU : Hid _ := hU2
  have HSM : Hid _ := hsm2
  clear hx hR hD hU hx2 hR2 hD2 hU2 hsm2
  go_enter Tryd.func22, Tryd.ntmps22
  go_wp2_with fail
  generalize ((w.setCell ⟨X, 5, none⟩ (.int .i64 (-1))).setCell ⟨X, 6, none⟩ (.int .i64 (-1))) = w0 at *
  clear c5 c6 f5 f6
  have c0 : w0.cell? ⟨X, 0, none⟩ = some (.slice (some ⟨U, 0, none⟩) 4096 4096) := XAt.c0 HX.out
  have c2 : w0.cell? ⟨X, 2, none⟩ = some (.int .i64 0) := XAt.c2 HX.out
  have c3 : w0.cell? ⟨X, 3, none⟩ = some (.int .i64 0) := XAt.c3 HX.out
  have c4 : w0.cell? ⟨X, 4, none⟩ = some .nilIface := XAt.c4 HX.out
  refine wp_loop_rounds 2 ?_
  rw [rounds_succ]
  go_wp2_with fail
  go_quiet (fail)
  go_wp2_with fail
  refine Calls.mono (fill_some X U R D len pr g (-1) (-1) _ HX.out HR.out (HD.out.keep rfl) (HU.out.keep rfl) (by omega) hl hap.XR hap.XU hap.RU hap.RD hap.DU) ?_
  rintro e w1 ⟨rfl, hx1, hR1, hU1, hs1⟩
  have hsm1 : Same (fun k => k = X ∨ k = R ∨ k = U) w w1 := (HSM.out.drewN nq).trans hs1 (fun i _ e => e)
  have hD1 : Own w1 D len .u8 5 g := HD.out.keep (hs1.block D HD.out.lt (by have := hap.XD; have := hap.RD; have := hap.DU; omega))
  clear c0 c2 c3 c4 hs1 HX HR HD HU HSM
  obtain ⟨wp, hwp⟩ : ∃ wp, min len 4096 = wp := ⟨_, rfl⟩
  rw [hwp] at hx1 hR1 hU1
  have hw3 : decide ((wp : Int) < 3) = false := by simp; omega
  have hw3' : ¬ (wp : Int) < 3 := by omega
  have c0 : w1.cell? ⟨X, 0, none⟩ = some (.slice (some ⟨U, 0, none⟩) 4096 4096) := XAt.c0 hx1
  have c2 : w1.cell? ⟨X, 2, none⟩ = some (.int .i64 0) := XAt.c2 hx1
  have c3 : w1.cell? ⟨X, 3, none⟩ = some (.int .i64 wp) := XAt.c3 hx1
  have c4 : w1.cell? ⟨X, 4, none⟩ = some .nilIface := XAt.c4 hx1
  have hwl : wp ≤ 4096 := by omega
  have HX : Hid (XAt w1 X U R 0 wp .nilIface (-1) (-1)) := hx1
  have HR : Hid _ := hR1
  have HU : Hid _ := hU1
  have HD : Hid (Own w1 D len .u8 5 g) := hD1
  have HSM : Hid (Same (fun k => k = X ∨ k = R ∨ k = U) w w1) := hsm1
  have HWP : Hid (min len 4096 = wp) := hwp
  clear hx1 hR1 hU1 hD1 hsm1 hwp
  go_wp2_with fail
  rw [rounds_succ]
  go_wp2_with fail
  go_quiet (fail)
  go_wp2_with fail
  go_quiet (fail)
  go_wp2_with fail
  go_quiet (fail)
  go_wp2_with fail
  go_ret2
  refine ⟨⟨.nilIface, by rw [show min len 3 = 3 by omega]; rfl⟩, ?_, HSM.out.still ⟨rfl, rfl, rfl, rfl⟩⟩
  rw [HWP.out]
  exact bst_of (w := w1) ⟨rfl, rfl, rfl, rfl⟩ HX.out HR.out HU.out (.inr ⟨rfl, HD.out⟩)

set_option maxRecDepth 100000 in
set_option maxHeartbeats 4000000 in
theorem peek12 (X U R D len : Nat) (pr : Int) (g : Nat → Int) (lb lr : Int) (B : Nat) (a0 a1 : Addr) (w : World) (hs : Sent w B a0 a1) (hBX : B ≤ X) (hBR : B ≤ R) (hBU : B ≤ U) (hx : XAt w X U R 0 0 .nilIface lb lr)
    (hR : w.heap[R]? = some (.cells #[.slice (some ⟨D, 0, none⟩) len len, .int .i64 0, .int .i64 pr] 52 (0, 0))) (hD : Own w D len .u8 5 g) (hU : Own w U 4096 .u8 5 (fun _ => 0)) (hl0 : 0 < len) (hl : len < 3) (hap : Apart X U R D) :
    Calls Tryd.prog 22 #[.pointer (some ⟨X, 0, none⟩), .int .i64 3] w fun e w' => PeekPost X U R D len (some ⟨D, 0, none⟩) g w e w' := by
  have c5 := hx.c5
  have c6 := hx.c6
  have f5 := hx.fr 5
  have f6 := hx.fr 6
  have hx2 : XAt ((w.setCell ⟨X, 5, none⟩ (.int .i64 (-1))).setCell ⟨X, 6, none⟩ (.int .i64 (-1))) X U R 0 0 .nilIface (-1) (-1) := set_blk (set_blk hx 5 _) 6 _
  have hR2 : ((w.setCell ⟨X, 5, none⟩ (.int .i64 (-1))).setCell ⟨X, 6, none⟩ (.int .i64 (-1))).heap[R]? = some (.cells #[.slice (some ⟨D, 0, none⟩) len len, .int .i64 0, .int .i64 pr] 52 (0, 0)) := by
    rw [Below.heap_setCell _ _ _ _ (fun e => hap.XR e.symm), Below.heap_setCell _ _ _ _ (fun e => hap.XR e.symm)]; exact hR
  have hD2 : Own ((w.setCell ⟨X, 5, none⟩ (.int .i64 (-1))).setCell ⟨X, 6, none⟩ (.int .i64 (-1))) D len .u8 5 g := (hD.other (a := ⟨X, 5, none⟩) (fun e => hap.XD e.symm) _).other (a := ⟨X, 6, none⟩) (fun e => hap.XD e.symm) _
  have hU2 : Own ((w.setCell ⟨X, 5, none⟩ (.int .i64 (-1))).setCell ⟨X, 6, none⟩ (.int .i64 (-1))) U 4096 .u8 5 (fun _ => 0) := (hU.other (a := ⟨X, 5, none⟩) (fun e => hap.XU e.symm) _).other (a := ⟨X, 6, none⟩) (fun e => hap.XU e.symm) _
  have hsm2 : Same (fun k => k = X ∨ k = R ∨ k = U) w ((w.setCell ⟨X, 5, none⟩ (.int .i64 (-1))).setCell ⟨X, 6, none⟩ (.int .i64 (-1))) := ((Same.refl _ w).setCell (p := ⟨X, 5, none⟩) (fun _ => .inl rfl) _).setCell (p := ⟨X, 6, none⟩) (fun _ => .inl rfl) _
  have HX : Hid _ := hx2
  have HR : Hid _ := hR2
  have HD : Hid _ := hD2
  have HU : Hid _ := hU2
  have HSM : Hid _ := hsm2
  have HS : Hid (Sent w B a0 a1) := hs
  have HBW : Hid (B ≤ w.heap.size) := by
    have := lt_of_block hx
    show B ≤ w.heap.size
    omega
  clear hs
  clear hx hR hD hU hx2 hR2 hD2 hU2 hsm2
  go_enter Tryd.func22, Tryd.ntmps22
  go_wp2_with fail
  generalize ((w.setCell ⟨X, 5, none⟩ (.int .i64 (-1))).setCell ⟨X, 6, none⟩ (.int .i64 (-1))) = w0 at *
  clear c5 c6 f5 f6
  have c0 : w0.cell? ⟨X, 0, none⟩ = some (.slice (some ⟨U, 0, none⟩) 4096 4096) := XAt.c0 HX.out
  have c2 : w0.cell? ⟨X, 2, none⟩ = some (.int .i64 0) := XAt.c2 HX.out
  have c3 : w0.cell? ⟨X, 3, none⟩ = some (.int .i64 0) := XAt.c3 HX.out
  have c4 : w0.cell? ⟨X, 4, none⟩ = some .nilIface := XAt.c4 HX.out
  refine wp_loop_rounds 3 ?_
  rw [rounds_succ]
  go_wp2_with fail
  go_quiet (fail)
  go_wp2_with fail
  refine Calls.mono (fill_some X U R D len pr g (-1) (-1) _ HX.out HR.out (HD.out.keep rfl) (HU.out.keep rfl) (by omega) (by omega) hap.XR hap.XU hap.RU hap.RD hap.DU) ?_
  rintro e w1 ⟨rfl, hx1, hR1, hU1, hs1⟩
  have hsm1 : Same (fun k => k = X ∨ k = R ∨ k = U) w w1 := (HSM.out.drewN nq).trans hs1 (fun i _ e => e)
  have hD1 : Own w1 D len .u8 5 g := HD.out.keep (hs1.block D HD.out.lt (by have := hap.XD; have := hap.RD; have := hap.DU; omega))
  clear c0 c2 c3 c4 hs1 HX HR HD HU HSM
  obtain ⟨wp, hwp⟩ : ∃ wp, min len 4096 = wp := ⟨_, rfl⟩
  rw [hwp] at hx1 hR1 hU1
  have HWL : Hid (wp = len) := by show wp = len; omega
  have hw3 : decide ((wp : Int) < 3) = true := by simp; omega
  have hw3' : (wp : Int) < 3 := by omega
  have hw4 : decide ((wp : Int) < 4096) = true := by simp; omega
  have c0 : w1.cell? ⟨X, 0, none⟩ = some (.slice (some ⟨U, 0, none⟩) 4096 4096) := XAt.c0 hx1
  have c2 : w1.cell? ⟨X, 2, none⟩ = some (.int .i64 0) := XAt.c2 hx1
  have c3 : w1.cell? ⟨X, 3, none⟩ = some (.int .i64 wp) := XAt.c3 hx1
  have c4 : w1.cell? ⟨X, 4, none⟩ = some .nilIface := XAt.c4 hx1
  have hwl : wp ≤ 4096 := by omega
  have HX : Hid (XAt w1 X U R 0 wp .nilIface (-1) (-1)) := hx1
  have HR : Hid _ := hR1
  have HU : Hid _ := hU1
  have HD : Hid (Own w1 D len .u8 5 g) := hD1
  have HSM : Hid (Same (fun k => k = X ∨ k = R ∨ k = U) w w1) := hsm1
  have HWP : Hid (min len 4096 = wp) := hwp
  clear hx1 hR1 hU1 hD1 hsm1 hwp
  have hszB : B ≤ w.heap.size := by
    have h1 := (Same.refl (fun _ => False) w).size
    have h2 := HS.out.l0
    exact HBW.out
  have HS1 : Hid (Sent w1 B a0 a1) := HS.out.below (HSM.out.below hszB (fun k hk e => by omega))
  go_wp2_with fail
  rw [rounds_succ]
  go_wp2_with fail
  go_quiet (fail)
  go_wp2_with fail
  refine Calls.mono (fill_end X U R wp (some ⟨D, 0, none⟩) len len wp (-1) a0 (-1) (-1) _ HX.out (by omega) HS1.out.e0 HR.out (by rw [HWL.out]; exact Nat.le_refl _) (by omega)) ?_
  rintro e w2 ⟨rfl, hx2, hs2⟩
  have hR2 := (hs2.block R (lt_of_block HR.out) (fun e => hap.XR e.symm)).trans HR.out
  have hU2 : Own w2 U 4096 .u8 5 (fun i => if i < wp then g i else 0) := HU.out.keep (hs2.block U HU.out.lt (fun e => hap.XU e.symm))
  have hD2 : Own w2 D len .u8 5 g := HD.out.keep (hs2.block D HD.out.lt (fun e => hap.XD e.symm))
  have hsm2 : Same (fun k => k = X ∨ k = R ∨ k = U) w w2 := (HSM.out.drewN nq).trans hs2 (fun i _ e => .inl e)
  clear c0 c2 c3 c4 hs2 HX HR HU HD HSM HS HS1
  have c0 : w2.cell? ⟨X, 0, none⟩ = some (.slice (some ⟨U, 0, none⟩) 4096 4096) := XAt.c0 hx2
  have c2 : w2.cell? ⟨X, 2, none⟩ = some (.int .i64 0) := XAt.c2 hx2
  have c3 : w2.cell? ⟨X, 3, none⟩ = some (.int .i64 wp) := XAt.c3 hx2
  have c4 : w2.cell? ⟨X, 4, none⟩ = some (.iface 63 (.pointer (some a0))) := XAt.c4 hx2
  have HX : Hid (XAt w2 X U R 0 wp (.iface 63 (.pointer (some a0))) (-1) (-1)) := hx2
  have HR : Hid (w2.heap[R]? = some (.cells #[.slice (some ⟨D, 0, none⟩) len len, .int .i64 ((wp : Nat) : Int), .int .i64 (-1)] 52 (0, 0))) := hR2
  have HU : Hid (Own w2 U 4096 .u8 5 (fun i => if i < wp then g i else 0)) := hU2
  have HD : Hid (Own w2 D len .u8 5 g) := hD2
  have HSM : Hid (Same (fun k => k = X ∨ k = R ∨ k = U) w w2) := hsm2
  clear hx2 hR2 hU2 hD2 hsm2
  go_wp2_with fail
  rw [rounds_succ]
  go_wp2_with fail
  go_quiet (fail)
  go_wp2_with fail
  go_quiet (fail)
  go_wp2_with fail
  refine Calls.mono (readErr_any X U R 0 wp _ (-1) (-1) _ HX.out) ?_
  rintro e w3 ⟨rfl, hw3e⟩
  have hx3 : XAt w3 X U R 0 wp .nilIface (-1) (-1) := by rw [hw3e]; exact set_blk HX.out 4 _
  have hs3 : Same (· = X) w2 w3 := by rw [hw3e]; exact ((Same.refl (· = X) w2).drewN _).setCell (S := (· = X)) (p := ⟨X, 4, none⟩) (fun _ => rfl) _
  have hR3 := (hs3.block R (lt_of_block HR.out) (fun e => hap.XR e.symm)).trans HR.out
  have hU3 : Own w3 U 4096 .u8 5 (fun i => if i < wp then g i else 0) := HU.out.keep (hs3.block U HU.out.lt (fun e => hap.XU e.symm))
  have hD3 : Own w3 D len .u8 5 g := HD.out.keep (hs3.block D HD.out.lt (fun e => hap.XD e.symm))
  have hsm3 : Same (fun k => k = X ∨ k = R ∨ k = U) w w3 := HSM.out.trans hs3 (fun i _ e => .inl e)
  clear c0 c2 c3 c4 hs3 HX HR HU HD HSM hw3e
  have c0 : w3.cell? ⟨X, 0, none⟩ = some (.slice (some ⟨U, 0, none⟩) 4096 4096) := XAt.c0 hx3
  have c2 : w3.cell? ⟨X, 2, none⟩ = some (.int .i64 0) := XAt.c2 hx3
  have HX : Hid (XAt w3 X U R 0 wp .nilIface (-1) (-1)) := hx3
  have HR : Hid (w3.heap[R]? = some (.cells #[.slice (some ⟨D, 0, none⟩) len len, .int .i64 ((wp : Nat) : Int), .int .i64 (-1)] 52 (0, 0))) := hR3
  have HU : Hid (Own w3 U 4096 .u8 5 (fun i => if i < wp then g i else 0)) := hU3
  have HD : Hid (Own w3 D len .u8 5 g) := hD3
  have HSM : Hid (Same (fun k => k = X ∨ k = R ∨ k = U) w w3) := hsm3
  clear hx3 hR3 hU3 hD3 hsm3
  go_wp2_with fail
  go_quiet (fail)
  go_wp2_with fail
  go_ret2
  refine ⟨⟨.iface 63 (.pointer (some a0)), by rw [show min len 3 = wp by have := HWL.out; omega]; rfl⟩, ?_, HSM.out.still ⟨rfl, rfl, rfl, rfl⟩⟩
  rw [HWP.out]
  exact bst_of (w := w3) ⟨rfl, rfl, rfl, rfl⟩ HX.out HR.out HU.out (.inr ⟨rfl, HD.out⟩)

set_option maxRecDepth 100000 in
set_option maxHeartbeats 4000000 in
theorem peek0 (X U R D : Nat) (da : Option Addr) (pr : Int) (g : Nat → Int) (lb lr : Int) (B : Nat) (a0 a1 : Addr) (w : World) (hs : Sent w B a0 a1) (hBX : B ≤ X) (hx : XAt w X U R 0 0 .nilIface lb lr)
    (hR : w.heap[R]? = some (.cells #[.slice da 0 0, .int .i64 0, .int .i64 pr] 52 (0, 0))) (hU : Own w U 4096 .u8 5 (fun _ => 0)) (hXR : X ≠ R) (hXU : X ≠ U) :
    Calls Tryd.prog 22 #[.pointer (some ⟨X, 0, none⟩), .int .i64 3] w fun e w' => PeekPost X U R D 0 da g w e w' := by
  have c5 := hx.c5
  have c6 := hx.c6
  have f5 := hx.fr 5
  have f6 := hx.fr 6
  have hx2 : XAt ((w.setCell ⟨X, 5, none⟩ (.int .i64 (-1))).setCell ⟨X, 6, none⟩ (.int .i64 (-1))) X U R 0 0 .nilIface (-1) (-1) := set_blk (set_blk hx 5 _) 6 _
  have hsmX : Same (· = X) w ((w.setCell ⟨X, 5, none⟩ (.int .i64 (-1))).setCell ⟨X, 6, none⟩ (.int .i64 (-1))) := ((Same.refl (· = X) w).setCell (S := (· = X)) (p := ⟨X, 5, none⟩) (fun _ => rfl) _).setCell (S := (· = X)) (p := ⟨X, 6, none⟩) (fun _ => rfl) _
  have hszB : B ≤ w.heap.size := by have := lt_of_block hx; omega
  have HX : Hid (XAt ((w.setCell ⟨X, 5, none⟩ (.int .i64 (-1))).setCell ⟨X, 6, none⟩ (.int .i64 (-1))) X U R 0 0 .nilIface (-1) (-1)) := hx2
  have HR : Hid _ := hR
  have HU : Hid _ := hU
  have HSM : Hid _ := hsmX
  have HS : Hid (Sent w B a0 a1) := hs
  clear hx hR hU hx2 hsmX hs
  go_enter Tryd.func22, Tryd.ntmps22
  go_wp2_with fail
  generalize ((w.setCell ⟨X, 5, none⟩ (.int .i64 (-1))).setCell ⟨X, 6, none⟩ (.int .i64 (-1))) = w0 at *
  clear c5 c6 f5 f6
  have c0 : w0.cell? ⟨X, 0, none⟩ = some (.slice (some ⟨U, 0, none⟩) 4096 4096) := XAt.c0 HX.out
  have c2 : w0.cell? ⟨X, 2, none⟩ = some (.int .i64 0) := XAt.c2 HX.out
  have c3 : w0.cell? ⟨X, 3, none⟩ = some (.int .i64 0) := XAt.c3 HX.out
  have c4 : w0.cell? ⟨X, 4, none⟩ = some .nilIface := XAt.c4 HX.out
  have HR0 : Hid (w0.heap[R]? = some (.cells #[.slice da 0 0, .int .i64 ((0 : Nat) : Int), .int .i64 pr] 52 (0, 0))) := (HSM.out.block R (lt_of_block HR.out) (fun e => hXR e.symm)).trans HR.out
  have HS0 : Hid (Sent w0 B a0 a1) := HS.out.below (HSM.out.below hszB (fun k hk e => by omega))
  refine wp_loop_rounds 2 ?_
  rw [rounds_succ]
  go_wp2_with fail
  go_quiet (fail)
  go_wp2_with fail
  refine Calls.mono (fill_end X U R 0 da 0 0 0 pr a0 (-1) (-1) _ HX.out (by omega) HS0.out.e0 HR0.out (by omega) (by omega)) ?_
  rintro e w2 ⟨rfl, hx2, hs2⟩
  have hsm2 : Same (· = X) w w2 := (HSM.out.drewN nq).trans hs2 (fun i _ e => e)
  clear c0 c2 c3 c4 hs2 HX HSM HS HS0 HR0
  have c0 : w2.cell? ⟨X, 0, none⟩ = some (.slice (some ⟨U, 0, none⟩) 4096 4096) := XAt.c0 hx2
  have c2 : w2.cell? ⟨X, 2, none⟩ = some (.int .i64 0) := XAt.c2 hx2
  have c3 : w2.cell? ⟨X, 3, none⟩ = some (.int .i64 0) := XAt.c3 hx2
  have c4 : w2.cell? ⟨X, 4, none⟩ = some (.iface 63 (.pointer (some a0))) := XAt.c4 hx2
  have HX : Hid (XAt w2 X U R 0 0 (.iface 63 (.pointer (some a0))) (-1) (-1)) := hx2
  have HSM : Hid (Same (· = X) w w2) := hsm2
  clear hx2 hsm2
  go_wp2_with fail
  rw [rounds_succ]
  go_wp2_with fail
  go_quiet (fail)
  go_wp2_with fail
  go_quiet (fail)
  go_wp2_with fail
  refine Calls.mono (readErr_any X U R 0 0 _ (-1) (-1) _ HX.out) ?_
  rintro e w3 ⟨rfl, hw3e⟩
  have hx3 : XAt w3 X U R 0 0 .nilIface (-1) (-1) := by rw [hw3e]; exact set_blk HX.out 4 _
  have hs3 : Same (· = X) w2 w3 := by rw [hw3e]; exact ((Same.refl (· = X) w2).drewN _).setCell (S := (· = X)) (p := ⟨X, 4, none⟩) (fun _ => rfl) _
  have hsm3 : Same (· = X) w w3 := HSM.out.trans hs3 (fun i _ e => e)
  clear c0 c2 c3 c4 hs3 HX HSM hw3e
  have c0 : w3.cell? ⟨X, 0, none⟩ = some (.slice (some ⟨U, 0, none⟩) 4096 4096) := XAt.c0 hx3
  have c2 : w3.cell? ⟨X, 2, none⟩ = some (.int .i64 0) := XAt.c2 hx3
  have HX : Hid (XAt w3 X U R 0 0 .nilIface (-1) (-1)) := hx3
  have HSM : Hid (Same (· = X) w w3) := hsm3
  clear hx3 hsm3
  go_wp2_with fail
  go_quiet (fail)
  go_wp2_with fail
  go_ret2
  refine ⟨⟨.iface 63 (.pointer (some a0)), rfl⟩, ?_, ((Same.refl _ w).trans HSM.out (fun i _ e => .inl e)).still ⟨rfl, rfl, rfl, rfl⟩⟩
  exact bst_of (w := w3) (pr := pr) ⟨rfl, rfl, rfl, rfl⟩ HX.out ((HSM.out.block R (lt_of_block HR.out) (fun e => hXR e.symm)).trans HR.out) ((HU.out.keep (HSM.out.block U HU.out.lt (fun e => hXU e.symm))).congr (fun i hi => by simp)) (.inl rfl)
end Go.Proofs.Qxb6615636aDoor
