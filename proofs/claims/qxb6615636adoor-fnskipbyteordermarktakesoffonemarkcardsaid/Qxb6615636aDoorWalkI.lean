/-
  THE WALKS of zzBytes_FnLimitedTextReadsToItsEnd and readLimited (seat b6615636aD).
-/
import Derived.Test.Qxb6615636aDoorWalkE
import Derived.Deep.AppendLies
namespace Go.Proofs.Qxb6615636aDoor
open Go.ChangeShapes Go.WideShapes Go.ChangeAt Go.RowKit
set_option linter.unusedVariables false

def Fit2 (l0 l2 : Nat) (e : Ending) (w w' : World) : Prop := ∃ b : Bool, e = .returned (.bool b) ∧ Still w w' ∧ (b = true → l0 + l2 ≤ 1048576)

theorem fit12 (a0 a2 : Option Addr) (l0 c0 l2 c2 : Nat) (left : Int) (w : World) (h0 : l0 ≤ 9223372036854775807) (h2 : l2 ≤ 9223372036854775807) :
    Calls Tryd.prog 12 #[.slice a0 l0 c0, .int .i64 left, .slice a2 l2 c2] w fun e w' => Fit2 l0 l2 e w w' := by
  by_cases g1 : 1048576 < l0
  · go_enter Tryd.func12, Tryd.ntmps12
    go_wp2_with fail
    go_ret
    exact ⟨false, rfl, Still.refl _, fun h => by simp at h⟩
  by_cases g2 : 1048576 < l2
  · go_enter Tryd.func12, Tryd.ntmps12
    go_wp2_with fail
    go_ret
    exact ⟨false, rfl, Still.refl _, fun h => by simp at h⟩
  by_cases g3 : 1048576 < l0 + l2
  · have g3' : (1048576 : Int) < (l0 : Int) + (l2 : Int) := by omega
    go_enter Tryd.func12, Tryd.ntmps12
    go_wp2_with fail
    go_ret
    exact ⟨false, rfl, Still.refl _, fun h => by simp at h⟩
  have g3' : ¬ (1048576 : Int) < (l0 : Int) + (l2 : Int) := by omega
  go_enter Tryd.func12, Tryd.ntmps12
  go_wp2_with fail
  go_ret
  exact ⟨true, rfl, Still.refl _, fun _ => by omega⟩

/-- What was read so far: a slice of the call's own. -/
def Got (w : World) (N : Nat) (v : Value) (n : Nat) (g : Nat → Int) : Prop := w.ownsRow N 5 1 v n (vals .u8 g n)
theorem Got.nil (w : World) (N : Nat) (g : Nat → Int) : Got w N (.slice none 0 0) 0 g := ⟨by simp [vals], .inl ⟨rfl, rfl⟩⟩
theorem Got.same {w w' : World} {N n : Nat} {v : Value} {g : Nat → Int} {S : Nat → Prop} (h : Got w N v n g) (hs : Same S w w') (hS : ∀ k, N ≤ k → ¬ S k) : Got w' N v n g := by
  obtain ⟨h1, h2⟩ := h
  refine ⟨h1, ?_⟩
  rcases h2 with h2 | ⟨q, cap, cur, e1, e2, e3, e4⟩
  · exact .inl h2
  · exact .inr ⟨q, cap, cur, e1, e2, (hs.block q (lt_of_block e3) (hS q e2)).trans e3, e4⟩
theorem Got.form {w : World} {N n : Nat} {v : Value} {g : Nat → Int} (h : Got w N v n g) : ∃ a c, v = .slice a n c := by
  rcases h.2 with ⟨h2, h3⟩ | ⟨q, cap, cur, e1, _⟩
  · exact ⟨none, 0, by rw [h2, h3]⟩
  · exact ⟨_, _, e1⟩
theorem Got.row {w : World} {N n c : Nat} {a : Option Addr} {g : Nat → Int} (h : Got w N (.slice a n c) n g) : Row w w.heap.size .u8 a n g := by
  refine ⟨fun h0 => ?_⟩
  obtain ⟨q, cap, e, hb, hlt⟩ := World.ownsRow.form h h0
  cases e
  refine ⟨q, 0, rfl, hlt, fun i hi => ?_⟩
  rw [Nat.zero_add, World.ownsRow.cellAt h i (by omega), vals_at _ _ _ _ hi]
theorem Got.own_ge {w : World} {N n : Nat} {v : Value} {g : Nat → Int} (h : Got w N v n g) : ∀ k, v.ownBlock = some k → N ≤ k := fun k e => (World.ownsRow.lt h k e).1
theorem vals_app (k : IntKind) (g : Nat → Int) (n m : Nat) : vals k g n ++ vals k (fun i => g (n + i)) m = vals k g (n + m) := by
  induction m with
  | zero => simp [vals]
  | succ m ih => rw [vals_succ, ← List.append_assoc, ih, ← Nat.add_assoc, vals_succ]

theorem news_of_own {w : World} {P m n : Nat} {f g : Nat → Int} (ho : Own w P m .u8 5 f) (hn : n ≤ m) (hf : ∀ i, i < n → f i = g i) : ∀ j u, (vals .u8 g n)[j]? = some u → w.cell? ((⟨P, 0, none⟩ : Addr).add j) = some u := by
  intro j u h
  have hj : j < n := by
    have := (List.getElem?_eq_some_iff.1 h).1
    rwa [vals_length] at this
  rw [vals_at _ _ _ _ hj] at h
  rw [add_plain, Nat.zero_add, ho.cell (by omega), hf j hj]
  exact h

/-- Where reading to the end leaves everything. -/
def EndAt (T R P m len L N : Nat) (da : Option Addr) (a0 a1 : Addr) (g : Nat → Int) (w : World) (e : Ending) (w' : World) : Prop :=
  (∃ a c, (len ≤ L ∧ e = .returned (.tuple #[.slice a len c, .bool true, .bool true, .bool false]) ∧ Row w' w'.heap.size .u8 a len g ∧ Txt w' T R da len L len false a1) ∨
    (L < len ∧ e = .returned (.tuple #[.slice a L c, .bool true, .bool false, .bool true]) ∧ Row w' w'.heap.size .u8 a L g ∧ Txt w' T R da len L L true a1)) ∧
  Same (fun k => k = R ∨ k = P ∨ k = T) w w'

/-- At the loop's head. -/
structure RInv (w wr : World) (B T R D P m len L pos N : Nat) (da : Option Addr) (v : Value) (a0 a1 : Addr) (g : Nat → Int) : Prop where
  sent : Sent wr B a0 a1
  same : Same (fun k => k = R ∨ k = P ∨ k = T) w wr
  data : len = 0 ∨ (da = some ⟨D, 0, none⟩ ∧ D ≠ R ∧ D ≠ P ∧ D ≠ T ∧ D < N ∧ Own wr D len .u8 5 g)
  buf : ∃ z, Own wr P m .u8 5 z
  txt : Txt wr T R da len L pos false a1
  got : Got wr N v pos g

theorem same_grown {w w1 w2 : World} {R P T N : Nat} {row : Option Nat} (h : Same (fun k => k = R ∨ k = P ∨ k = T) w w1) (hN : w.heap.size = N) (hg : w1.grownBy w2 row) (hr : ∀ k, row = some k → N ≤ k) : Below N w1 w2 ∧ Same (fun k => k = R ∨ k = P ∨ k = T) w w2 := by
  have hb : Below N w1 w2 := (Below.refl N w1).grown hg (by have := h.size; omega) hr
  refine ⟨hb, ⟨hb.os.trans h.os, hb.tape.trans h.tape, hb.output.trans h.output, by have := hb.size; have := h.size; omega, fun k hk hS => (hb.block k (by omega)).trans (h.block k hk hS)⟩⟩

set_option maxHeartbeats 2000000 in
set_option maxRecDepth 100000 in
theorem readLimited_any (B T R D P m len L : Nat) (da : Option Addr) (a0 a1 : Addr) (g z : Nat → Int) (w : World) (hs : Sent w B a0 a1) (hBR : B ≤ R) (hBT : B ≤ T) (hBP : B ≤ P) (hRP : R ≠ P) (hTR : T ≠ R) (hTP : T ≠ P) (hm0 : 0 < m) (hm : m ≤ 1048576) (hl : len ≤ 1048576) (hL : L < 9223372036854775807)
    (hd : len = 0 ∨ (da = some ⟨D, 0, none⟩ ∧ D ≠ R ∧ D ≠ P ∧ D ≠ T ∧ D < w.heap.size ∧ Own w D len .u8 5 g)) (hP : Own w P m .u8 5 z) (ht : Txt w T R da len L 0 false a1) (hRN : R < w.heap.size) (hTN : T < w.heap.size) :
    Calls Tryd.prog 13 #[.pointer (some ⟨T, 0, none⟩), .slice (some ⟨P, 0, none⟩) m m, .int .i64 len] w fun e w' => EndAt T R P m len L w.heap.size da a0 a1 g w e w' := by
  obtain ⟨i0, hi, hz0, hz1, hz2⟩ := info_parts Tryd.info5
  have hPN := hP.lt
  have h0 : RInv w w B T R D P m len L 0 w.heap.size da (.slice none 0 0) a0 a1 g := ⟨hs, Same.refl _ _, hd, ⟨z, hP⟩, ht, Got.nil _ _ _⟩
  have H0 : Hid (RInv w w B T R D P m len L 0 w.heap.size da (.slice none 0 0) a0 a1 g) := h0
  clear h0 hs hd hP ht
  obtain ⟨N, hN⟩ : ∃ N, w.heap.size = N := ⟨_, rfl⟩
  rw [hN] at H0 hRN hTN hPN ⊢
  have HN : Hid (w.heap.size = N) := hN
  clear hN
  go_enter Tryd.func13, Tryd.ntmps13
  go_wp2_with fail
  go_loopw [10, 11] (fun v i wr => ∃ it pos : Nat, it ≤ pos ∧ pos ≤ len ∧ pos ≤ L ∧ i = .int .i64 it ∧ RInv w wr B T R D P m len L pos N da v a0 a1 g) (fun _ i _ => len + 2 - (intOf i).toNat)
  case atStart => exact ⟨0, 0, Nat.le_refl _, Nat.zero_le _, Nat.zero_le _, rfl, H0.out⟩
  case round =>
    clear H0
    rename_i v i
    obtain ⟨it, pos, hit, hpos, hposL, rfl, hinv⟩ := hrel
    obtain ⟨va, vc, rfl⟩ := hinv.got.form
    have HINV : Hid (RInv w wr B T R D P m len L pos N da (.slice va pos vc) a0 a1 g) := hinv
    clear hinv
    have hitl : (it : Int) ≤ (len : Int) + 1 := by omega
    by_cases hend : pos = len
    · obtain rfl : len = pos := hend.symm
      clear hend
      go_wp2_with fail
      refine Calls.mono (zz_end T R da len L B a0 a1 _ m wr HINV.out.sent hBT hTR hl hL hm HINV.out.txt) ?_
      rintro e w2 ⟨rfl, htx, hsm⟩
      have hgot2 : Got w2 N (.slice va len vc) len g := HINV.out.got.same hsm (fun k hk e => by omega)
      have hsm2 : Same (fun k => k = R ∨ k = P ∨ k = T) w w2 := HINV.out.same.trans hsm (fun i _ e => .inr (.inr e))
      have HGOT : Hid (Got w2 N (.slice va len vc) len g) := hgot2
      have HSM : Hid (Same (fun k => k = R ∨ k = P ∨ k = T) w w2) := hsm2
      have HTX : Hid (Txt w2 T R da len L len false a1) := htx
      clear htx hsm hgot2 hsm2
      go_wp2_with (at_builtin; refine wpList_append_own_at _ rfl _ _ 22 rfl N 5 i0 (.int .u8 0) 1 1 Tryd.underlying22 hi hz0 hz1 hz2 rfl (by omega) (.slice va len vc) len (vals .u8 g len) rfl HGOT.out ⟨P, 0, none⟩ 0 m (vals .u8 (fun i => g (len + i)) 0) rfl rfl (fun j u h => by simp [vals] at h) (vals_oneCell _ _ _) (by unfold maxLen; omega) (by omega) (by have := HSM.out.size; have := HN.out; omega) ?_)
      intro v3 w3 hown3 hgrow3 _ _
      obtain ⟨hbel3, hsm3⟩ := same_grown HSM.out HN.out hgrow3 (HGOT.out.own_ge)
      have hgot3 : Got w3 N v3 (len + 0) g := by rw [vals_app] at hown3; exact hown3
      obtain ⟨va3, vc3, rfl⟩ := hgot3.form
      have htx3 := HTX.out.keep (hbel3.block T hTN) (hbel3.block R hRN)
      have HE : Hid (EndAt T R P m len L N da a0 a1 g w (.returned (.tuple #[.slice va3 (len + 0) vc3, .bool true, .bool true, .bool false])) w3) := ⟨⟨va3, vc3, .inl ⟨hposL, rfl, hgot3.row, htx3⟩⟩, hsm3⟩
      clear hown3 hgrow3 hbel3 hsm3 hgot3 htx3
      go_wp2_with fail
      refine bodyPost_ret (v := .tuple #[.slice va3 (len + 0) vc3, .bool true, .bool true, .bool false]) (by simp [results, Tryd.results13, go_sem]) rfl ?_
      exact HE.out
    · have hlt2 : pos < len := by omega
      clear hend
      obtain ⟨hda, hDR, hDP, hDT, hDN, hOD⟩ : da = some ⟨D, 0, none⟩ ∧ D ≠ R ∧ D ≠ P ∧ D ≠ T ∧ D < N ∧ Own wr D len .u8 5 g := by
        rcases HINV.out.data with e | e
        · omega
        · exact e
      obtain ⟨z', hOP⟩ := HINV.out.buf
      have HDA : Hid (da = some ⟨D, 0, none⟩) := hda
      have HOD : Hid (Own wr D len .u8 5 g) := hOD
      have HOP : Hid (Own wr P m .u8 5 z') := hOP
      clear hOD hOP hda
      by_cases hpast : L < len ∧ L < m + pos
      · obtain ⟨hp1, hp2⟩ := hpast
        go_wp2_with fail
        refine Calls.mono (zz_past T R D len L pos P m B a0 a1 z' g wr HINV.out.sent hBR hBP hBT (HDA.out ▸ HINV.out.txt) HOD.out HOP.out hm hlt2 hl hRP hDR.symm hDP hTR hTP (by omega)) ?_
        rintro e w2 ⟨rfl, htx, hPo2, hsm⟩
        have hgot2 : Got w2 N (.slice va pos vc) pos g := HINV.out.got.same hsm (fun k hk e => by omega)
        have hsm2 : Same (fun k => k = R ∨ k = P ∨ k = T) w w2 := HINV.out.same.trans hsm (fun i _ e => e)
        have HGOT : Hid (Got w2 N (.slice va pos vc) pos g) := hgot2
        have HSM : Hid (Same (fun k => k = R ∨ k = P ∨ k = T) w w2) := hsm2
        have HTX : Hid (Txt w2 T R da len L L true a1) := HDA.out ▸ htx
        have HPO : Hid (Own w2 P m .u8 5 (fun i => if i < L - pos + 1 then g (pos + i) else z' i)) := hPo2
        clear htx hsm hgot2 hsm2 hPo2 HINV HOD HOP
        go_wp2_with (at_builtin; refine wpList_append_own_at _ rfl _ _ 22 rfl N 5 i0 (.int .u8 0) 1 1 Tryd.underlying22 hi hz0 hz1 hz2 rfl (by omega) (.slice va pos vc) pos (vals .u8 g pos) rfl HGOT.out ⟨P, 0, none⟩ (L - pos) m (vals .u8 (fun i => g (pos + i)) (L - pos)) rfl (by rw [vals_length]; omega) (news_of_own HPO.out (by omega) (fun i hi => if_pos (by omega))) (vals_oneCell _ _ _) (by unfold maxLen; omega) (by omega) (by have := HSM.out.size; have := HN.out; omega) ?_)
        intro v3 w3 hown3 hgrow3 _ _
        obtain ⟨hbel3, hsm3⟩ := same_grown HSM.out HN.out hgrow3 (Got.own_ge HGOT.out)
        have hgot3 : Got w3 N v3 L g := by
          rw [vals_app, show pos + (L - pos) = L by omega] at hown3
          exact hown3
        obtain ⟨va3, vc3, rfl⟩ := hgot3.form
        have htx3 := HTX.out.keep (hbel3.block T hTN) (hbel3.block R hRN)
        have HE : Hid (EndAt T R P m len L N da a0 a1 g w (.returned (.tuple #[.slice va3 L vc3, .bool true, .bool false, .bool true])) w3) := ⟨⟨va3, vc3, .inr ⟨hp1, rfl, hgot3.row, htx3⟩⟩, hsm3⟩
        clear hown3 hgrow3 hbel3 hsm3 hgot3 htx3
        go_wp2_with fail
        refine bodyPost_ret (v := .tuple #[.slice va3 L vc3, .bool true, .bool false, .bool true]) (by simp [results, Tryd.results13, go_sem]) rfl ?_
        exact HE.out
      · have hk1 : min (len - pos) m ≤ L - pos := by omega
        have hk2 : 0 < min (len - pos) m := by omega
        have hk3 : min (len - pos) m ≤ m := by omega
        have hk4 : pos + min (len - pos) m ≤ len := by omega
        have hk5 : pos + min (len - pos) m ≤ L := by omega
        clear hpast
        have hzz := zz_some T R D len L pos m B (some ⟨P, 0, none⟩) a0 a1 z' g wr HINV.out.sent hBR hBT (HDA.out ▸ HINV.out.txt) HOD.out (.inr ⟨P, rfl, hBP, HOP.out, hRP, hDP, hTP⟩) hm hlt2 hl hDR.symm hTR hL hk1
        have HZZ : Hid _ := hzz
        clear hzz
        obtain ⟨nn, hnn⟩ : ∃ nn, min (len - pos) m = nn := ⟨_, rfl⟩
        rw [hnn] at hk1 hk2 hk3 hk4 hk5 HZZ
        clear hnn
        go_wp2_with fail
        refine Calls.mono HZZ.out ?_
        rintro e w2 ⟨rfl, htx, hPo2', hsm'⟩
        have hPo2 := hPo2' P rfl hm0
        have hsm : Same (fun k => k = R ∨ k = P ∨ k = T) wr w2 := (Same.refl _ wr).trans hsm' (fun i _ e => by
          rcases e with e | ⟨e, _⟩ | e
          · exact .inl e
          · cases e; exact .inr (.inl rfl)
          · exact .inr (.inr e))
        have hgot2 : Got w2 N (.slice va pos vc) pos g := HINV.out.got.same hsm (fun k hk e => by omega)
        have hsm2 : Same (fun k => k = R ∨ k = P ∨ k = T) w w2 := HINV.out.same.trans hsm (fun i _ e => e)
        have HGOT : Hid (Got w2 N (.slice va pos vc) pos g) := hgot2
        have HSM : Hid (Same (fun k => k = R ∨ k = P ∨ k = T) w w2) := hsm2
        have HTX : Hid (Txt w2 T R da len L (pos + nn) false a1) := HDA.out ▸ htx
        have HPO : Hid (Own w2 P m .u8 5 (fun i => if i < nn then g (pos + i) else z' i)) := hPo2
        have HOD2 : Hid (Own w2 D len .u8 5 g) := HOD.out.keep (hsm.block D HOD.out.lt (by omega))
        have HS2 : Hid (Sent w2 B a0 a1) := HINV.out.sent.below (hsm.below (by have := HINV.out.same.size; have := HN.out; omega) (fun k hk e => by omega))
        clear htx hsm hsm' hgot2 hsm2 hPo2 hPo2' HINV HOD HOP HZZ
        go_wp2_with (at_builtin; refine wpList_append_own_at _ rfl _ _ 22 rfl N 5 i0 (.int .u8 0) 1 1 Tryd.underlying22 hi hz0 hz1 hz2 rfl (by omega) (.slice va pos vc) pos (vals .u8 g pos) rfl HGOT.out ⟨P, 0, none⟩ nn m (vals .u8 (fun i => g (pos + i)) nn) rfl (by rw [vals_length]; omega) (news_of_own HPO.out (by omega) (fun i hi => if_pos hi)) (vals_oneCell _ _ _) (by unfold maxLen; omega) (by omega) (by have := HSM.out.size; have := HN.out; omega) ?_)
        intro v3 w3 hown3 hgrow3 _ _
        obtain ⟨hbel3, hsm3⟩ := same_grown HSM.out HN.out hgrow3 (Got.own_ge HGOT.out)
        have hgot3 : Got w3 N v3 (pos + nn) g := by
          rw [vals_app] at hown3
          exact hown3
        have hinv3 : RInv w w3 B T R D P m len L (pos + nn) N da v3 a0 a1 g := ⟨HS2.out.below (hbel3.mono (by omega)), hsm3, .inr ⟨HDA.out, hDR, hDP, hDT, hDN, HOD2.out.keep (hbel3.block D hDN)⟩, ⟨_, HPO.out.keep (hbel3.block P hPN)⟩, HTX.out.keep (hbel3.block T hTN) (hbel3.block R hRN), hgot3⟩
        have HI3 : Hid (RInv w w3 B T R D P m len L (pos + nn) N da v3 a0 a1 g) := hinv3
        clear hown3 hgrow3 hbel3 hsm3 hgot3 hinv3
        go_wp2_with fail
        go_roundw
        case rel => exact ⟨it + 1, pos + nn, by omega, hk4, hk5, by go_num, HI3.out⟩
        case measure => simp [intOf]; omega
end Go.Proofs.Qxb6615636aDoor
