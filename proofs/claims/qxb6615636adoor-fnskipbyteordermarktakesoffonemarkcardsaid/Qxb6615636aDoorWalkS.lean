/-
  THE WALK of readBuffered (seat b6615636aD).
-/
import Derived.Test.Qxb6615636aDoorWalkR
namespace Go.Proofs.Qxb6615636aDoor
open Go.ChangeShapes Go.WideShapes Go.ChangeAt Go.RowKit
set_option linter.unusedVariables false

def EndB (X U R P len q0 : Nat) (g : Nat → Int) (w : World) (e : Ending) (w' : World) : Prop :=
  ∃ a c, e = .returned (.tuple #[.slice a (len - q0) c, .bool true, .bool true, .bool false]) ∧ Row w' w'.heap.size .u8 a (len - q0) (fun i => g (q0 + i)) ∧ (∃ z, Own w' P 512 .u8 5 z) ∧ Same (fun k => k = X ∨ k = P ∨ k = R ∨ k = U) w w'

structure QInv (w wr : World) (B X U R D P len q0 q N : Nat) (da : Option Addr) (v : Value) (a0 a1 : Addr) (g : Nat → Int) : Prop where
  sent : Sent wr B a0 a1
  same : Same (fun k => k = X ∨ k = P ∨ k = R ∨ k = U) w wr
  st : RS wr X U R D len da g q
  buf : ∃ z, Own wr P 512 .u8 5 z
  got : Got wr N v (q - q0) (fun i => g (q0 + i))

theorem same_grown4 {w w1 w2 : World} {X P R U N : Nat} {row : Option Nat} (h : Same (fun k => k = X ∨ k = P ∨ k = R ∨ k = U) w w1) (hN : w.heap.size = N) (hg : w1.grownBy w2 row) (hr : ∀ k, row = some k → N ≤ k) : Below N w1 w2 ∧ Same (fun k => k = X ∨ k = P ∨ k = R ∨ k = U) w w2 := by
  have hb : Below N w1 w2 := (Below.refl N w1).grown hg (by have := h.size; omega) hr
  refine ⟨hb, ⟨hb.os.trans h.os, hb.tape.trans h.tape, hb.output.trans h.output, by have := hb.size; have := h.size; omega, fun k hk hS => (hb.block k (by omega)).trans (h.block k hk hS)⟩⟩

set_option maxHeartbeats 2000000 in
set_option maxRecDepth 100000 in
theorem readBuffered_any (B X U R D P len q0 : Nat) (da : Option Addr) (a0 a1 : Addr) (g z : Nat → Int) (w : World) (hs : Sent w B a0 a1) (hBX : B ≤ X) (hBP : B ≤ P) (hBR : B ≤ R) (hBU : B ≤ U) (hap : ApartP X U R D P) (hst : RS w X U R D len da g q0) (hP : Own w P 512 .u8 5 z) (hl : len ≤ 2097152)
    (hXN : X < w.heap.size) (hUN : U < w.heap.size) (hRN : R < w.heap.size) (hDN : len = 0 ∨ D < w.heap.size) (hq0 : q0 ≤ len) :
    Calls Tryd.prog 16 #[.pointer (some ⟨X, 0, none⟩), .slice (some ⟨P, 0, none⟩) 512 512, .int .i64 len] w fun e w' => EndB X U R P len q0 g w e w' := by
  obtain ⟨i0, hi, hz0, hz1, hz2⟩ := info_parts Tryd.info5
  have hPN := hP.lt
  have h0 : QInv w w B X U R D P len q0 q0 w.heap.size da (.slice none 0 0) a0 a1 g := ⟨hs, Same.refl _ _, hst, ⟨z, hP⟩, by rw [Nat.sub_self]; exact Got.nil _ _ _⟩
  have H0 : Hid (QInv w w B X U R D P len q0 q0 w.heap.size da (.slice none 0 0) a0 a1 g) := h0
  clear h0 hs hP hst
  obtain ⟨N, hN⟩ : ∃ N, w.heap.size = N := ⟨_, rfl⟩
  rw [hN] at H0 hXN hUN hRN hDN hPN
  have HN : Hid (w.heap.size = N) := hN
  have HDN : Hid _ := hDN
  clear hN hDN
  have hXP := hap.XP
  have hUP := hap.UP
  have hRP := hap.RP
  have hDP := hap.DP
  have HAP : Hid _ := hap
  clear hap
  go_enter Tryd.func16, Tryd.ntmps16
  go_wp2_with fail
  go_loopw [10, 11] (fun v i wr => ∃ it q : Nat, it + q0 ≤ q ∧ q0 ≤ q ∧ q ≤ len ∧ i = .int .i64 it ∧ QInv w wr B X U R D P len q0 q N da v a0 a1 g) (fun _ i _ => len + 2 - (intOf i).toNat)
  case atStart => exact ⟨0, q0, by omega, by omega, hq0, rfl, H0.out⟩
  case round =>
    clear H0
    rename_i v i
    obtain ⟨it, q, hit, hqq, hql, rfl, hinv⟩ := hrel
    obtain ⟨va, vc, rfl⟩ := hinv.got.form
    have HINV : Hid (QInv w wr B X U R D P len q0 q N da (.slice va (q - q0) vc) a0 a1 g) := hinv
    clear hinv
    obtain ⟨kk, hkk⟩ : ∃ kk, q - q0 = kk := ⟨_, rfl⟩
    rw [hkk] at HINV
    rw [hkk]
    have hitl : (it : Int) ≤ (len : Int) + 1 := by omega
    by_cases hend : q = len
    · obtain rfl : len = q := hend.symm
      clear hend
      have hkl : kk ≤ len := by omega
      have HKK : Hid (len - q0 = kk) := hkk
      clear hkk
      go_wp2_with fail
      refine Calls.mono (zb_end X U R D P len da g B a0 a1 wr HINV.out.sent hBX HAP.out.ap HINV.out.st hl) ?_
      rintro e w2 ⟨rfl, hsm⟩
      have hgot2 : Got w2 N (.slice va kk vc) kk (fun i => g (q0 + i)) := by
        have := HINV.out.got
        rw [HKK.out] at this
        exact this.same hsm (fun k hk e => by omega)
      have hsm2 : Same (fun k => k = X ∨ k = P ∨ k = R ∨ k = U) w w2 := HINV.out.same.trans hsm (fun i _ e => .inl e)
      obtain ⟨z', hz'⟩ := HINV.out.buf
      have HZ : Hid (Own w2 P 512 .u8 5 z') := hz'.keep (hsm.block P hz'.lt (fun e => hXP e.symm))
      have HGOT : Hid (Got w2 N (.slice va kk vc) kk (fun i => g (q0 + i))) := hgot2
      have HSM : Hid (Same (fun k => k = X ∨ k = P ∨ k = R ∨ k = U) w w2) := hsm2
      clear hsm hgot2 hsm2 hz'
      go_wp2_with (at_builtin; refine wpList_append_own_at _ rfl _ _ 22 rfl N 5 i0 (.int .u8 0) 1 1 Tryd.underlying22 hi hz0 hz1 hz2 rfl (by omega) (.slice va kk vc) kk (vals .u8 (fun i => g (q0 + i)) kk) rfl HGOT.out ⟨P, 0, none⟩ 0 512 (vals .u8 (fun i => g (q0 + (kk + i))) 0) rfl rfl (fun j u h => by simp [vals] at h) (vals_oneCell _ _ _) (by unfold maxLen; omega) (by omega) (by have := HSM.out.size; have := HN.out; omega) ?_)
      intro v3 w3 hown3 hgrow3 _ _
      obtain ⟨hbel3, hsm3⟩ := same_grown4 HSM.out HN.out hgrow3 (Got.own_ge HGOT.out)
      have hgot3 : Got w3 N v3 kk (fun i => g (q0 + i)) := by
        have h := vals_app .u8 (fun i => g (q0 + i)) kk 0
        rw [h, Nat.add_zero] at hown3
        exact hown3
      obtain ⟨va3, vc3, rfl⟩ := hgot3.form
      have HE : Hid (EndB X U R P len q0 g w (.returned (.tuple #[.slice va3 kk vc3, .bool true, .bool true, .bool false])) w3) := by
        refine ⟨va3, vc3, ?_, ?_, ⟨z', HZ.out.keep (hbel3.block P hPN)⟩, hsm3⟩
        · rw [HKK.out]
        · rw [HKK.out]; exact hgot3.row
      clear hown3 hgrow3 hbel3 hsm3 hgot3
      go_wp2_with fail
      refine bodyPost_ret (v := .tuple #[.slice va3 kk vc3, .bool true, .bool true, .bool false]) (by simp [results, Tryd.results16, go_sem]) rfl ?_
      exact HE.out
    · have hlt2 : q < len := by omega
      clear hend
      obtain ⟨z', hOP⟩ := HINV.out.buf
      have hzz := zb_some X U R D P len q da g z' B a0 a1 wr HINV.out.sent hBX hBP hBR hBU HAP.out HINV.out.st hOP hlt2 hl
      have HZZ : Hid _ := hzz
      have hkl : kk ≤ q := by omega
      have HKK : Hid (q - q0 = kk) := hkk
      clear hzz hOP hkk
      go_wp2_with fail
      refine Calls.mono HZZ.out ?_
      rintro e w2 ⟨nn, hk2, hk3, hk4, rfl, hrs, hPo2, hsm⟩
      have hgot2 : Got w2 N (.slice va kk vc) kk (fun i => g (q0 + i)) := by
        have := HINV.out.got
        rw [HKK.out] at this
        exact this.same hsm (fun k hk e => by omega)
      have hsm2 : Same (fun k => k = X ∨ k = P ∨ k = R ∨ k = U) w w2 := HINV.out.same.trans hsm (fun i _ e => e)
      have HGOT : Hid (Got w2 N (.slice va kk vc) kk (fun i => g (q0 + i))) := hgot2
      have HSM : Hid (Same (fun k => k = X ∨ k = P ∨ k = R ∨ k = U) w w2) := hsm2
      have HRS : Hid (RS w2 X U R D len da g (q + nn)) := hrs
      have HPO : Hid (Own w2 P 512 .u8 5 (fun i => if i < nn then g (q + i) else z' i)) := hPo2
      have HS2 : Hid (Sent w2 B a0 a1) := HINV.out.sent.below (hsm.below (by have := HINV.out.same.size; have := HN.out; omega) (fun k hk e => by omega))
      have hkn : kk + nn ≤ len := by have := HKK.out; omega
      have hqk : ∀ i, q0 + (kk + i) = q + i := fun i => by have := HKK.out; omega
      have HQK : Hid _ := hqk
      clear hrs hsm hgot2 hsm2 hPo2 HZZ HINV hqk
      go_wp2_with (at_builtin; refine wpList_append_own_at _ rfl _ _ 22 rfl N 5 i0 (.int .u8 0) 1 1 Tryd.underlying22 hi hz0 hz1 hz2 rfl (by omega) (.slice va kk vc) kk (vals .u8 (fun i => g (q0 + i)) kk) rfl HGOT.out ⟨P, 0, none⟩ nn 512 (vals .u8 (fun i => g (q0 + (kk + i))) nn) rfl (by rw [vals_length]; omega) (news_of_own HPO.out (by omega) (fun i hi => by rw [if_pos hi, HQK.out i])) (vals_oneCell _ _ _) (by unfold maxLen; omega) (by omega) (by have := HSM.out.size; have := HN.out; omega) ?_)
      intro v3 w3 hown3 hgrow3 _ _
      obtain ⟨hbel3, hsm3⟩ := same_grown4 HSM.out HN.out hgrow3 (Got.own_ge HGOT.out)
      have hgot3 : Got w3 N v3 (q + nn - q0) (fun i => g (q0 + i)) := by
        have h := vals_app .u8 (fun i => g (q0 + i)) kk nn
        have e : q + nn - q0 = kk + nn := by have := HKK.out; omega
        rw [h] at hown3
        rw [e]
        exact hown3
      have hinv3 : QInv w w3 B X U R D P len q0 (q + nn) N da v3 a0 a1 g := ⟨HS2.out.below (hbel3.mono (by omega)), hsm3, RS.keep HRS.out (hbel3.block X hXN) (hbel3.block U hUN) (hbel3.block R hRN) (HDN.out.elim .inl (fun h => .inr (hbel3.block D h))), ⟨_, HPO.out.keep (hbel3.block P hPN)⟩, hgot3⟩
      have HI3 : Hid (QInv w w3 B X U R D P len q0 (q + nn) N da v3 a0 a1 g) := hinv3
      clear hown3 hgrow3 hbel3 hsm3 hgot3 hinv3
      go_wp2_with fail
      go_roundw
      case rel => exact ⟨it + 1, q + nn, by omega, by omega, hk4, by go_num, HI3.out⟩
      case measure => simp [intOf]; omega
end Go.Proofs.Qxb6615636aDoor
