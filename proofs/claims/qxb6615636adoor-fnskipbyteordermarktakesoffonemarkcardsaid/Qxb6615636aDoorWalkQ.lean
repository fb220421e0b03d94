/-
  THE WALKS of bufio's Read, where the buffer is empty (seat b6615636aD).
-/
import Derived.Test.Qxb6615636aDoorWalkP
namespace Go.Proofs.Qxb6615636aDoor
open Go.ChangeShapes Go.WideShapes Go.ChangeAt Go.RowKit
set_option linter.unusedVariables false

set_option maxRecDepth 100000 in
set_option maxHeartbeats 4000000 in
theorem rd_eof (X U R P wp len dcap : Nat) (da : Option Addr) (pr : Int) (lb lr : Int) (a0 : Addr) (w : World) (hx : XAt w X U R wp wp .nilIface lb lr) (hR : w.heap[R]? = some (.cells #[.slice da len dcap, .int .i64 (len : Nat), .int .i64 pr] 52 (0, 0))) (he : w.cell? ⟨0, 0, none⟩ = some (.iface 63 (.pointer (some a0)))) (hX0 : X ≠ 0) (hl : len ≤ 2097152) (hXR : X ≠ R) :
    Calls Tryd.prog 24 #[.pointer (some ⟨X, 0, none⟩), .slice (some ⟨P, 0, none⟩) 512 512] w fun e w' => e = .returned (.tuple #[.int .i64 0, .iface 63 (.pointer (some a0))]) ∧ Same (· = X) w w' := by
  have c0 := hx.c0
  have c2 := hx.c2
  have c3 := hx.c3
  have c4 := hx.c4
  have hmr := meth_read
  have HX : Hid (XAt w X U R wp wp .nilIface lb lr) := hx
  have HR : Hid _ := hR
  have HE : Hid _ := he
  clear hx hR he
  go_enter Tryd.func24, Tryd.ntmps24
  go_wp2_with fail
  go_quiet (fail)
  have f2 : (w.drewN nq).frozen? ⟨X, 2, none⟩ = false := XAt.fr HX.out 2
  have f3 : (w.drewN nq).frozen? ⟨X, 3, none⟩ = false := XAt.fr HX.out 3
  have hx2 : XAt (((w.drewN nq).setCell ⟨X, 2, none⟩ (.int .i64 0)).setCell ⟨X, 3, none⟩ (.int .i64 0)).drew X U R 0 0 .nilIface lb lr := set_blk (set_blk HX.out 2 _) 3 _
  have hs2 : Same (· = X) w (((w.drewN nq).setCell ⟨X, 2, none⟩ (.int .i64 0)).setCell ⟨X, 3, none⟩ (.int .i64 0)).drew := ((((Same.refl (· = X) w).drewN nq).setCell (S := (· = X)) (p := ⟨X, 2, none⟩) (fun _ => rfl) _).setCell (S := (· = X)) (p := ⟨X, 3, none⟩) (fun _ => rfl) _).drew
  have HX2 : Hid _ := hx2
  have HS2 : Hid _ := hs2
  clear hx2 hs2
  go_wp2_with fail
  clear c0 c2 c3 c4 f2 f3
  generalize ((w.drewN nq).setCell ⟨X, 2, none⟩ (.int .i64 0)).setCell ⟨X, 3, none⟩ (.int .i64 0) = w0 at *
  have HR1 : Hid (w0.drew.heap[R]? = some (.cells #[.slice da len dcap, .int .i64 (len : Nat), .int .i64 pr] 52 (0, 0))) := (HS2.out.block R (lt_of_block HR.out) (fun e => hXR e.symm)).trans HR.out
  have HE1 : Hid (w0.drew.cell? ⟨0, 0, none⟩ = some (.iface 63 (.pointer (some a0)))) := (HS2.out.cell (p := ⟨0, 0, none⟩) (lt_of_cell HE.out) (fun e => hX0 e.symm)).trans HE.out
  have c0 : w0.cell? ⟨X, 0, none⟩ = some (.slice (some ⟨U, 0, none⟩) 4096 4096) := XAt.c0 HX2.out
  have c1 : w0.cell? ⟨X, 1, none⟩ = some (.iface 39 (.pointer (some ⟨R, 0, none⟩))) := XAt.c1 HX2.out
  clear HR HE HX
  go_region_held3 (fun w' => w'.cell? ⟨X, 0, none⟩ = some (.slice (some ⟨U, 0, none⟩) 4096 4096) ∧ w'.cell? ⟨X, 1, none⟩ = some (.iface 39 (.pointer (some ⟨R, 0, none⟩)))) (go_keep)
    (first
      | (go_at_call 46
         refine (readEndB R da len dcap len pr (.iface 63 (.pointer (some a0))) _ _ HR1.out HE1.out (Nat.le_refl _) hl).mono ?_
         rintro e w1 ⟨rfl, hst1⟩
         have HX3 : Hid (XAt w1 X U R 0 0 .nilIface lb lr) := XAt.keep HX2.out (hst1.blk X)
         have d0 : w1.cell? ⟨X, 0, none⟩ = some (.slice (some ⟨U, 0, none⟩) 4096 4096) := XAt.c0 HX3.out
         have d1 : w1.cell? ⟨X, 1, none⟩ = some (.iface 39 (.pointer (some ⟨R, 0, none⟩))) := XAt.c1 HX3.out
         have d4 : w1.cell? ⟨X, 4, none⟩ = some .nilIface := XAt.c4 HX3.out
         have g4 := XAt.fr HX3.out 4
         have q0 : ∀ v, (w1.setCell ⟨X, 4, none⟩ v).cell? ⟨X, 0, none⟩ = some (.slice (some ⟨U, 0, none⟩) 4096 4096) := fun v => XAt.c0 (show XAt _ X U R 0 0 v lb lr from set_blk HX3.out 4 v)
         have q1 : ∀ v, (w1.setCell ⟨X, 4, none⟩ v).cell? ⟨X, 1, none⟩ = some (.iface 39 (.pointer (some ⟨R, 0, none⟩))) := fun v => XAt.c1 (show XAt _ X U R 0 0 v lb lr from set_blk HX3.out 4 v)))
  have hx4 : XAt (w1.setCell ⟨X, 4, none⟩ (.iface 63 (.pointer (some a0)))) X U R 0 0 (.iface 63 (.pointer (some a0))) lb lr := set_blk HX3.out 4 _
  have hs4 : Same (· = X) w (w1.setCell ⟨X, 4, none⟩ (.iface 63 (.pointer (some a0)))) := (HS2.out.still hst1).setCell (S := (· = X)) (p := ⟨X, 4, none⟩) (fun _ => rfl) _
  have HX4 : Hid _ := hx4
  have HS4 : Hid _ := hs4
  clear hx4 hs4 q0 q1 d0 d1 d4 g4
  go_wp2_with fail
  refine Calls.mono (readErr_any X U R 0 0 _ lb lr _ HX4.out) ?_
  rintro e w5 ⟨rfl, hw5⟩
  have HS5 : Hid (Same (· = X) w w5) := by rw [hw5]; exact HS4.out.setCell (S := (· = X)) (p := ⟨X, 4, none⟩) (fun _ => rfl) _
  clear hw5
  go_wp2_with fail
  go_ret2
  exact ⟨rfl, HS5.out⟩

/-- What a read leaves that had to fill the buffer first. -/
def RdFill (X U R P D len pos n : Nat) (g z : Nat → Int) (w w' : World) : Prop :=
  (∃ lb lr, XAt w' X U R n (min (len - pos) 4096) .nilIface lb lr) ∧ w'.heap[R]? = some (.cells #[.slice (some ⟨D, 0, none⟩) len len, .int .i64 ((pos + min (len - pos) 4096 : Nat) : Int), .int .i64 (-1)] 52 (0, 0)) ∧
  (∃ y, Own w' U 4096 .u8 5 y ∧ ∀ i, i < min (len - pos) 4096 → y i = g (pos + i)) ∧ Own w' P 512 .u8 5 (fun i => if i < n then g (pos + i) else z i) ∧ Same (fun k => k = X ∨ k = P ∨ k = R ∨ k = U) w w'

set_option maxRecDepth 100000 in
set_option maxHeartbeats 4000000 in
theorem rd_fill (X U R P D wp len pos : Nat) (pr : Int) (lb lr : Int) (g y0 z : Nat → Int) (w : World) (hx : XAt w X U R wp wp .nilIface lb lr) (hR : w.heap[R]? = some (.cells #[.slice (some ⟨D, 0, none⟩) len len, .int .i64 (pos : Nat), .int .i64 pr] 52 (0, 0))) (hD : Own w D len .u8 5 g) (hU : Own w U 4096 .u8 5 y0) (hP : Own w P 512 .u8 5 z)
    (hpl : pos < len) (hl : len ≤ 2097152) (hap : Apart X U R D) (hXP : X ≠ P) (hUP : U ≠ P) (hRP : R ≠ P) (hDP : D ≠ P) :
    Calls Tryd.prog 24 #[.pointer (some ⟨X, 0, none⟩), .slice (some ⟨P, 0, none⟩) 512 512] w fun e w' => e = .returned (.tuple #[.int .i64 ((min (min (len - pos) 4096) 512 : Nat) : Int), .nilIface]) ∧ RdFill X U R P D len pos (min (min (len - pos) 4096) 512) g z w w' := by
  have c0 := hx.c0
  have c2 := hx.c2
  have c3 := hx.c3
  have c4 := hx.c4
  have hmr := meth_read
  have hXU := hap.XU
  have hXR := hap.XR
  have hRU := hap.RU
  have hXD := hap.XD
  have hRD := hap.RD
  have hDU := hap.DU
  have HX : Hid (XAt w X U R wp wp .nilIface lb lr) := hx
  have HR : Hid _ := hR
  have HD : Hid _ := hD
  have HU : Hid _ := hU
  have HP : Hid _ := hP
  clear hx hR hD hU hP hap
  go_enter Tryd.func24, Tryd.ntmps24
  go_wp2_with fail
  go_quiet (fail)
  have f2 : (w.drewN nq).frozen? ⟨X, 2, none⟩ = false := XAt.fr HX.out 2
  have f3 : (w.drewN nq).frozen? ⟨X, 3, none⟩ = false := XAt.fr HX.out 3
  have hx2 : XAt (((w.drewN nq).setCell ⟨X, 2, none⟩ (.int .i64 0)).setCell ⟨X, 3, none⟩ (.int .i64 0)).drew X U R 0 0 .nilIface lb lr := set_blk (set_blk HX.out 2 _) 3 _
  have hs2 : Same (· = X) w (((w.drewN nq).setCell ⟨X, 2, none⟩ (.int .i64 0)).setCell ⟨X, 3, none⟩ (.int .i64 0)).drew := ((((Same.refl (· = X) w).drewN nq).setCell (S := (· = X)) (p := ⟨X, 2, none⟩) (fun _ => rfl) _).setCell (S := (· = X)) (p := ⟨X, 3, none⟩) (fun _ => rfl) _).drew
  have HX2 : Hid _ := hx2
  have HS2 : Hid _ := hs2
  clear hx2 hs2
  go_wp2_with fail
  clear c0 c2 c3 c4 f2 f3
  generalize ((w.drewN nq).setCell ⟨X, 2, none⟩ (.int .i64 0)).setCell ⟨X, 3, none⟩ (.int .i64 0) = w0 at *
  have HR1 : Hid (w0.drew.heap[R]? = some (.cells #[.slice (some ⟨D, 0, none⟩) len len, .int .i64 (pos : Nat), .int .i64 pr] 52 (0, 0))) := (HS2.out.block R (lt_of_block HR.out) (fun e => hXR e.symm)).trans HR.out
  have HD1 : Hid (Own w0.drew D len .u8 5 g) := HD.out.keep (HS2.out.block D HD.out.lt (fun e => hXD e.symm))
  have HU1 : Hid (Own w0.drew U 4096 .u8 5 y0) := HU.out.keep (HS2.out.block U HU.out.lt (fun e => hXU e.symm))
  have HP1 : Hid (Own w0.drew P 512 .u8 5 z) := HP.out.keep (HS2.out.block P HP.out.lt (fun e => hXP e.symm))
  have c0 : w0.cell? ⟨X, 0, none⟩ = some (.slice (some ⟨U, 0, none⟩) 4096 4096) := XAt.c0 HX2.out
  have c1 : w0.cell? ⟨X, 1, none⟩ = some (.iface 39 (.pointer (some ⟨R, 0, none⟩))) := XAt.c1 HX2.out
  clear HR HD HU HP HX
  go_region_held3 (fun w' => w'.cell? ⟨X, 0, none⟩ = some (.slice (some ⟨U, 0, none⟩) 4096 4096) ∧ w'.cell? ⟨X, 1, none⟩ = some (.iface 39 (.pointer (some ⟨R, 0, none⟩)))) (go_keep)
    (first
      | (go_at_call 46
         refine (readSomeB R D len pos U 4096 4096 4096 pr y0 g _ HR1.out HD1.out HU1.out (Nat.le_refl _) hpl hl hRU hRD hDU).mono ?_
         rintro e w1 ⟨rfl, hrp⟩
         have HX3 : Hid (XAt w1 X U R 0 0 .nilIface lb lr) := XAt.keep HX2.out (hrp.2.2.block X (lt_of_block HX2.out) (by omega))
         have HP3 : Hid (Own w1 P 512 .u8 5 z) := HP1.out.keep (hrp.2.2.block P HP1.out.lt (by omega))
         have HRP : Hid (ReadPost R D len pos U 4096 4096 y0 g w0.drew w1) := hrp
         clear hrp
         have d0 : w1.cell? ⟨X, 0, none⟩ = some (.slice (some ⟨U, 0, none⟩) 4096 4096) := XAt.c0 HX3.out
         have d1 : w1.cell? ⟨X, 1, none⟩ = some (.iface 39 (.pointer (some ⟨R, 0, none⟩))) := XAt.c1 HX3.out
         have d4 : w1.cell? ⟨X, 4, none⟩ = some .nilIface := XAt.c4 HX3.out
         have g4 := XAt.fr HX3.out 4
         have q0 : ∀ v, (w1.setCell ⟨X, 4, none⟩ v).cell? ⟨X, 0, none⟩ = some (.slice (some ⟨U, 0, none⟩) 4096 4096) := fun v => XAt.c0 (show XAt _ X U R 0 0 v lb lr from set_blk HX3.out 4 v)
         have q1 : ∀ v, (w1.setCell ⟨X, 4, none⟩ v).cell? ⟨X, 1, none⟩ = some (.iface 39 (.pointer (some ⟨R, 0, none⟩))) := fun v => XAt.c1 (show XAt _ X U R 0 0 v lb lr from set_blk HX3.out 4 v)))
  have hxA : XAt (w1.setCell ⟨X, 4, none⟩ .nilIface) X U R 0 0 .nilIface lb lr := set_blk HX3.out 4 _
  have hRA : (w1.setCell ⟨X, 4, none⟩ .nilIface).heap[R]? = some (.cells #[.slice (some ⟨D, 0, none⟩) len len, .int .i64 ((pos + min (len - pos) 4096 : Nat) : Int), .int .i64 (-1)] 52 (0, 0)) := (Below.heap_setCell _ _ _ _ (fun e => hXR e.symm)).trans HRP.out.1
  have hUA : Own (w1.setCell ⟨X, 4, none⟩ .nilIface) U 4096 .u8 5 (fun i => if i < min (len - pos) 4096 then g (pos + i) else y0 i) := HRP.out.2.1.other (a := ⟨X, 4, none⟩) (fun e => hXU e.symm) _
  have hPA : Own (w1.setCell ⟨X, 4, none⟩ .nilIface) P 512 .u8 5 z := HP3.out.other (a := ⟨X, 4, none⟩) (fun e => hXP e.symm) _
  have hsA : Same (fun k => k = X ∨ k = P ∨ k = R ∨ k = U) w (w1.setCell ⟨X, 4, none⟩ .nilIface) := by
    have h1 : Same (fun k => k = X ∨ k = P ∨ k = R ∨ k = U) w w0.drew := (Same.refl _ w).trans HS2.out (fun i _ e => .inl e)
    have h2 : Same (fun k => k = X ∨ k = P ∨ k = R ∨ k = U) w w1 := h1.trans HRP.out.2.2 (fun i _ e => by rcases e with e | e; exact .inr (.inr (.inl e)); exact .inr (.inr (.inr e)))
    exact h2.setCell (p := ⟨X, 4, none⟩) (fun _ => .inl rfl) _
  have hn0 : 0 < min (len - pos) 4096 := by omega
  have hn1 : min (len - pos) 4096 ≤ 4096 := by omega
  clear q0 q1 d0 d1 d4 g4 c0 c1 HX3 HP3 HRP HX2 HS2 HR1 HD1 HU1 HP1
  generalize w1.setCell ⟨X, 4, none⟩ .nilIface = wA at *
  generalize hnn : min (len - pos) 4096 = n1 at *
  have HNN : Hid (min (len - pos) 4096 = n1) := hnn
  clear hnn
  have c3 : wA.cell? ⟨X, 3, none⟩ = some (.int .i64 0) := XAt.c3 hxA
  have f3 := XAt.fr hxA 3
  have hz0 : ((n1 : Int) == 0) = false := by rw [beq_eq_false_iff_ne]; omega
  have hz1 : ¬ (n1 : Int) = 0 := by omega
  have hxB : XAt (wA.setCell ⟨X, 3, none⟩ (.int .i64 n1)) X U R 0 n1 .nilIface lb lr := set_blk hxA 3 _
  have hRB : (wA.setCell ⟨X, 3, none⟩ (.int .i64 n1)).heap[R]? = some (.cells #[.slice (some ⟨D, 0, none⟩) len len, .int .i64 ((pos + n1 : Nat) : Int), .int .i64 (-1)] 52 (0, 0)) := (Below.heap_setCell _ _ _ _ (fun e => hXR e.symm)).trans hRA
  have hUB : Own (wA.setCell ⟨X, 3, none⟩ (.int .i64 n1)).drew U 4096 .u8 5 (fun i => if i < n1 then g (pos + i) else y0 i) := (hUA.other (a := ⟨X, 3, none⟩) (fun e => hXU e.symm) _).keep rfl
  have hPB : Own (wA.setCell ⟨X, 3, none⟩ (.int .i64 n1)).drew P 512 .u8 5 z := (hPA.other (a := ⟨X, 3, none⟩) (fun e => hXP e.symm) _).keep rfl
  have hsB : Same (fun k => k = X ∨ k = P ∨ k = R ∨ k = U) w (wA.setCell ⟨X, 3, none⟩ (.int .i64 n1)).drew := (hsA.setCell (p := ⟨X, 3, none⟩) (fun _ => .inl rfl) _).drew
  have HXB : Hid _ := hxB
  have HRB : Hid _ := hRB
  have HUB : Hid _ := hUB
  have HPB : Hid _ := hPB
  have HSB : Hid _ := hsB
  clear hxA hRA hUA hPA hsA hxB hRB hUB hPB hsB
  go_wp2_with fail
  clear c3 f3
  generalize wA.setCell ⟨X, 3, none⟩ (.int .i64 n1) = wB at *
  have c0 : wB.cell? ⟨X, 0, none⟩ = some (.slice (some ⟨U, 0, none⟩) 4096 4096) := XAt.c0 HXB.out
  have c2 : wB.cell? ⟨X, 2, none⟩ = some (.int .i64 0) := XAt.c2 HXB.out
  have c3 : wB.cell? ⟨X, 3, none⟩ = some (.int .i64 n1) := XAt.c3 HXB.out
  have k0 : (0 : Int) ≤ (n1 : Int) := Int.natCast_nonneg _
  have k2 : (n1 : Int) ≤ 4096 := by omega
  have hrow : Row wB.drew wB.drew.heap.size .u8 (some ⟨U, 0, none⟩) n1 (fun i => g (pos + i)) := ⟨fun _ => ⟨U, 0, rfl, HUB.out.lt, fun i hi => by rw [Nat.zero_add, HUB.out.cell (by omega), if_pos hi]⟩⟩
  obtain ⟨w2, hcp, hP2, hs2⟩ := run_copy_into (P := Tryd.prog) 22 5 Tryd.underlying22 Tryd.size5 P 512 512 512 n1 4096 (some ⟨U, 0, none⟩) .u8 5 z _ _ HPB.out (Nat.le_refl _) hrow
  have hx2 : XAt w2 X U R 0 n1 .nilIface lb lr := XAt.keep HXB.out (hs2.block X (lt_of_block HXB.out) hXP)
  have hU2 : Own w2 U 4096 .u8 5 (fun i => if i < n1 then g (pos + i) else y0 i) := HUB.out.keep (hs2.block U HUB.out.lt hUP)
  have hR2 := (hs2.block R (lt_of_block HRB.out) hRP).trans HRB.out
  have d2 : w2.cell? ⟨X, 2, none⟩ = some (.int .i64 0) := XAt.c2 hx2
  have e2 := XAt.fr hx2 2
  have hm0 : 0 < min n1 512 := by omega
  have hm1 : min n1 512 ≤ n1 := by omega
  generalize hmm : min n1 512 = n at *
  have HMM : Hid (min n1 512 = n) := hmm
  clear hmm
  have HX2 : Hid (XAt w2 X U R 0 n1 .nilIface lb lr) := hx2
  have HU2 : Hid (Own w2 U 4096 .u8 5 (fun i => if i < n1 then g (pos + i) else y0 i)) := hU2
  have HR2 : Hid (w2.heap[R]? = some (.cells #[.slice (some ⟨D, 0, none⟩) len len, .int .i64 ((pos + n1 : Nat) : Int), .int .i64 (-1)] 52 (0, 0))) := hR2
  have HP2 : Hid (Own w2 P 512 .u8 5 (fun i => if i < n then g (pos + i) else z i)) := hP2
  have HSM : Hid (Same (fun k => k = X ∨ k = P ∨ k = R ∨ k = U) w w2) := HSB.out.trans hs2 (fun i _ e => .inr (.inl e))
  clear hx2 hU2 hP2 hs2 hrow hR2 HXB HRB HUB HPB HSB
  go_region
  go_wp2_with fail
  have hx3 : XAt (w2.setCell ⟨X, 2, none⟩ (.int .i64 (n : Int))) X U R n n1 .nilIface lb lr := set_blk HX2.out 2 _
  have hR3 := (Below.heap_setCell w2 ⟨X, 2, none⟩ (.int .i64 (n : Int)) R (fun e => hXR e.symm)).trans HR2.out
  have hU3 : Own (w2.setCell ⟨X, 2, none⟩ (.int .i64 (n : Int))) U 4096 .u8 5 (fun i => if i < n1 then g (pos + i) else y0 i) := HU2.out.other (a := ⟨X, 2, none⟩) (fun e => hXU e.symm) _
  have hP3 : Own (w2.setCell ⟨X, 2, none⟩ (.int .i64 (n : Int))) P 512 .u8 5 (fun i => if i < n then g (pos + i) else z i) := HP2.out.other (a := ⟨X, 2, none⟩) (fun e => hXP e.symm) _
  have hs3 : Same (fun k => k = X ∨ k = P ∨ k = R ∨ k = U) w (w2.setCell ⟨X, 2, none⟩ (.int .i64 (n : Int))) := HSM.out.setCell (p := ⟨X, 2, none⟩) (fun _ => .inl rfl) _
  generalize w2.setCell ⟨X, 2, none⟩ (.int .i64 (n : Int)) = w3 at *
  clear c0 c2 c3 d2 e2 HX2 HU2 HP2 HSM hcp
  obtain ⟨s, hs⟩ : ∃ s, n = s + 1 := ⟨n - 1, by omega⟩
  have hx3' := hx3
  rw [hs] at hx3'
  have c0 : w3.cell? ⟨X, 0, none⟩ = some (.slice (some ⟨U, 0, none⟩) 4096 4096) := XAt.c0 hx3
  have c2 : w3.cell? ⟨X, 2, none⟩ = some (.int .i64 ((s : Int) + 1)) := XAt.c2 hx3'
  have c5 := XAt.c5 hx3
  have c6 := XAt.c6 hx3
  have f5 := XAt.fr hx3 5
  have f6 := XAt.fr hx3 6
  have cu : w3.cell? ⟨U, s, none⟩ = some (.int .u8 (g (pos + s))) := by rw [hU3.cell (by omega), if_pos (by omega)]
  have HX3 : Hid (XAt w3 X U R n n1 .nilIface lb lr) := hx3
  have HU3 : Hid (Own w3 U 4096 .u8 5 (fun i => if i < n1 then g (pos + i) else y0 i)) := hU3
  have HR3 : Hid (w3.heap[R]? = some (.cells #[.slice (some ⟨D, 0, none⟩) len len, .int .i64 ((pos + n1 : Nat) : Int), .int .i64 (-1)] 52 (0, 0))) := hR3
  have HP3 : Hid (Own w3 P 512 .u8 5 (fun i => if i < n then g (pos + i) else z i)) := hP3
  have HS3 : Hid (Same (fun k => k = X ∨ k = P ∨ k = R ∨ k = U) w w3) := hs3
  have hsl : s < 4096 := by omega
  clear hx3 hx3' hU3 hP3 hs3 hs hR3
  go_region
  go_wp2_with fail
  go_ret2
  refine ⟨by rw [HNN.out, HMM.out]; rfl, ?_⟩
  rw [HNN.out, HMM.out]
  unfold RdFill
  rw [HNN.out]
  refine ⟨⟨_, _, set_blk (set_blk HX3.out 5 _) 6 _⟩, ?_, ⟨_, ((HU3.out.other (a := ⟨X, 5, none⟩) (fun e => hXU e.symm) _).other (a := ⟨X, 6, none⟩) (fun e => hXU e.symm) _).keep rfl, fun i hi => by simp [hi]⟩, ((HP3.out.other (a := ⟨X, 5, none⟩) (fun e => hXP e.symm) _).other (a := ⟨X, 6, none⟩) (fun e => hXP e.symm) _).keep rfl, ?_⟩
  · exact ((Below.heap_setCell _ ⟨X, 6, none⟩ _ R (fun e => hXR e.symm)).trans (Below.heap_setCell w3 ⟨X, 5, none⟩ _ R (fun e => hXR e.symm))).trans HR3.out
  · exact ((HS3.out.setCell (p := ⟨X, 5, none⟩) (fun _ => .inl rfl) _).setCell (p := ⟨X, 6, none⟩) (fun _ => .inl rfl) _).drew
end Go.Proofs.Qxb6615636aDoor
