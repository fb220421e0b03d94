/-
  THE WALKS of SkipByteOrderMark and ZZskipBytes (seat b6615636aD).
-/
import Derived.Test.Qxb6615636aDoorWalkN
namespace Go.Proofs.Qxb6615636aDoor
open Go.ChangeShapes Go.WideShapes Go.ChangeAt Go.RowKit
set_option linter.unusedVariables false

theorem peek_any (X U R D len : Nat) (da : Option Addr) (pr : Int) (g : Nat → Int) (lb lr : Int) (B : Nat) (a0 a1 : Addr) (w : World) (hs : Sent w B a0 a1) (hBX : B ≤ X) (hBR : B ≤ R) (hBU : B ≤ U) (hx : XAt w X U R 0 0 .nilIface lb lr)
    (hR : w.heap[R]? = some (.cells #[.slice da len len, .int .i64 0, .int .i64 pr] 52 (0, 0))) (hd : len = 0 ∨ (da = some ⟨D, 0, none⟩ ∧ Own w D len .u8 5 g)) (hU : Own w U 4096 .u8 5 (fun _ => 0)) (hl : len ≤ 2097152) (hap : Apart X U R D) :
    Calls Tryd.prog 22 #[.pointer (some ⟨X, 0, none⟩), .int .i64 3] w fun e w' => PeekPost X U R D len da g w e w' := by
  rcases hd with rfl | ⟨rfl, hD⟩
  · exact peek0 X U R D da pr g lb lr B a0 a1 w hs hBX hx hR hU hap.XR hap.XU
  · rcases Nat.eq_zero_or_pos len with rfl | h0
    · exact peek0 X U R D _ pr g lb lr B a0 a1 w hs hBX hx hR hU hap.XR hap.XU
    · by_cases h3 : len < 3
      · exact peek12 X U R D len pr g lb lr B a0 a1 w hs hBX hBR hBU hx hR hD hU h0 h3 hap
      · exact peek3 X U R D len pr g lb lr w hx hR hD hU (by omega) hl hap

set_option maxRecDepth 100000 in
set_option maxHeartbeats 4000000 in
theorem skip19 (R D len : Nat) (da : Option Addr) (pr : Int) (g : Nat → Int) (B : Nat) (a0 a1 : Addr) (w : World) (hs : Sent w B a0 a1) (hBR : B ≤ R) (hRN : R < w.heap.size) (hRD : R ≠ D) (hDN : D < w.heap.size)
    (hR : w.heap[R]? = some (.cells #[.slice da len len, .int .i64 0, .int .i64 pr] 52 (0, 0))) (hd : len = 0 ∨ (da = some ⟨D, 0, none⟩ ∧ Own w D len .u8 5 g)) (hl : len ≤ 2097152) (hg : ∀ i, i < len → 0 ≤ g i ∧ g i ≤ 255) :
    Calls Tryd.prog 19 #[.iface 39 (.pointer (some ⟨R, 0, none⟩))] w fun e w' => SkipPost w.heap.size (w.heap.size + 1) R D len da g w e w' := by
  obtain ⟨N, hN⟩ : ∃ N, w.heap.size = N := ⟨_, rfl⟩
  have HR : Hid _ := hR
  have HD : Hid _ := hd
  have HS : Hid _ := hs
  have HG : Hid _ := hg
  have HN : Hid (w.heap.size = N) := hN
  clear hR hd hs hg
  go_enter Tryd.func19, Tryd.ntmps19
  go_wp2_with fail
  refine Calls.mono (newBuf R w) ?_
  rintro e w1 ⟨rfl, hx1, hU1, hb1⟩
  rw [hN] at hx1 hU1 hb1 hRN hDN
  have hap : Apart N (N + 1) R D := ⟨by omega, by omega, by omega, by omega, hRD, by omega⟩
  have hpk := peek_any N (N + 1) R D len da pr g (-1) (-1) B a0 a1 w1 (HS.out.below (hb1.mono (by omega))) (by omega) hBR (by omega) hx1 ((hb1.block R hRN).trans HR.out) (by
    rcases HD.out with e | ⟨e1, e2⟩
    · exact .inl e
    · exact .inr ⟨e1, e2.keep (hb1.block D hDN)⟩) hU1 hl hap
  have HPK : Hid _ := hpk
  have HB1 : Hid (Below N w w1) := hb1
  clear hpk hb1 hx1 hU1
  rw [hN]
  clear hN
  go_wp2_with fail
  refine Calls.mono HPK.out ?_
  rintro e w2 ⟨⟨err, rfl⟩, hst, hsm⟩
  obtain ⟨y, hOU, hy⟩ := hst.u
  have hy' : ∀ i, i < min len 3 → y i = g i := fun i hi => by rw [hy i (by omega)]; congr 1; omega
  have hcv := run_convert_bytes_arg (P := Tryd.prog) w2 22 5 Tryd.underlying22 Tryd.underlying5 (N + 1) 0 (min len 3) 4096 ((List.range (min len 3)).map y) (by simp) (fun i hi => by rw [Nat.zero_add, hOU.cell (by omega)]; simp [hi]) 9 Tryd.underlying9
  have hsm2 : Same (· = R) w w2 := by
    have h1 := HB1.out.size
    have h2 := HN.out
    refine ⟨hsm.os.trans HB1.out.os, hsm.tape.trans HB1.out.tape, hsm.output.trans HB1.out.output, Nat.le_trans HB1.out.size hsm.size, fun k hk hkR => ?_⟩
    rw [hsm.block k (by omega) (by omega), HB1.out.block k (by omega)]
  have HST : Hid (BSt w2 N (N + 1) R D len da g 0 (min len 4096) (min len 4096)) := hst
  have HSM : Hid (Same (· = R) w w2) := hsm2
  clear hst hsm hOU hy hsm2
  generalize hkk : min len 3 = kk at *
  by_cases hb : bom len g
  · have e1 := (peek_str (hkk ▸ hy') HG.out).2 hb
    rw [hkk] at e1
    rw [e1] at hcv
    obtain ⟨lb, lr, hx⟩ := HST.out.x
    have hl3 : 3 ≤ min len 4096 := by have := hb.1; omega
    have hdc := discard3 N (N + 1) R (min len 4096) lb lr w2 hx hl3 (by omega)
    have HDC : Hid _ := hdc
    clear hdc hx hl3 e1
    go_wp2_with fail
    refine Calls.mono HDC.out ?_
    rintro e w3 ⟨rfl, hx3, hs3⟩
    have HP : Hid (SkipPost N (N + 1) R D len da g w (.returned (.pointer (some ⟨N, 0, none⟩))) w3) := by
      have h1 := HSM.out.size
      have h2 := HN.out
      refine ⟨rfl, ⟨hs3.os.trans HSM.out.os, hs3.tape.trans HSM.out.tape, hs3.output.trans HSM.out.output, Nat.le_trans HSM.out.size hs3.size, fun k hk hkR => ?_⟩, 3, .inl ⟨hb, rfl⟩, ⟨⟨_, _, hx3⟩, ?_, ?_, ?_⟩⟩
      · rw [hs3.block k (by omega) (by omega), HSM.out.block k hk hkR]
      · obtain ⟨pr', h⟩ := HST.out.rr
        exact ⟨pr', (hs3.block R (by omega) (by omega)).trans h⟩
      · obtain ⟨y', h, h'⟩ := HST.out.u
        exact ⟨y', h.keep (hs3.block _ h.lt (by omega)), h'⟩
      · rcases HST.out.data with e | ⟨e1, e2⟩
        · exact .inl e
        · exact .inr ⟨e1, e2.keep (hs3.block D (by omega) (by omega))⟩
    clear hx3 hs3
    go_wp2_with fail
    go_ret
    rw [HN.out]
    exact HP.out
  · have e1 : ¬ strOfNums ((List.range kk).map y) = { data := #[239, 187, 191] } := fun e => hb ((peek_str (hkk ▸ hy') HG.out).1 (hkk ▸ e))
    have e2 : ((strOfNums ((List.range kk).map y)).toList == [239, 187, 191]) = false := by
      rw [beq_eq_false_iff_ne]
      intro e
      rw [ByteArray.toList_eq] at e
      apply e1
      generalize strOfNums ((List.range kk).map y) = s at e
      obtain ⟨⟨l⟩⟩ := s
      simp at e
      rw [e]
    clear e1
    go_wp2_with fail
    go_ret
    rw [HN.out]
    exact ⟨rfl, HSM.out, 0, .inr ⟨hb, rfl⟩, HST.out⟩

/-- ZZskipBytes: a new reader, a new buffer. -/
def ZSkip (len : Nat) (da : Option Addr) (D : Nat) (g : Nat → Int) (w : World) (e : Ending) (w' : World) : Prop :=
  e = .returned (.pointer (some ⟨w.heap.size + 1, 0, none⟩)) ∧ Below w.heap.size w w' ∧ ∃ q, ((bom len g ∧ q = 3) ∨ (¬ bom len g ∧ q = 0)) ∧ BSt w' (w.heap.size + 1) (w.heap.size + 2) w.heap.size D len da g q (min len 4096) (min len 4096)

theorem zskip (D len : Nat) (da : Option Addr) (g : Nat → Int) (B : Nat) (a0 a1 : Addr) (w : World) (hs : Sent w B a0 a1) (hB : B ≤ w.heap.size) (hDN : D < w.heap.size) (hd : len = 0 ∨ (da = some ⟨D, 0, none⟩ ∧ Own w D len .u8 5 g)) (hl : len ≤ 2097152) (hg : ∀ i, i < len → 0 ≤ g i ∧ g i ≤ 255) :
    Calls Tryd.prog 15 #[.slice da len len] w fun e w' => ZSkip len da D g w e w' := by
  have hbel : Below w.heap.size w (w.alloc (.cells #[.slice da len len, .int .i64 0, .int .i64 (-1)] 52 (0, 0))) := (Below.refl w.heap.size w).alloc (Nat.le_refl _) _
  have hsz : (w.alloc (.cells #[.slice da len len, .int .i64 0, .int .i64 (-1)] 52 (0, 0))).heap.size = w.heap.size + 1 := World.size_alloc _ _
  have hsk := skip19 w.heap.size D len da (-1) g B a0 a1 (w.alloc (.cells #[.slice da len len, .int .i64 0, .int .i64 (-1)] 52 (0, 0))) (hs.below (hbel.mono hB)) hB (by omega) (by omega) (by omega) (heap_new w _) (by
    rcases hd with e | ⟨e1, e2⟩
    · exact .inl e
    · exact .inr ⟨e1, e2.keep (hbel.block D hDN)⟩) hl hg
  rw [hsz] at hsk
  have HSK : Hid _ := hsk
  have HBEL : Hid _ := hbel
  clear hsk hbel hs hd hg
  go_enter Tryd.func15, Tryd.ntmps15
  go_wp2_with fail
  refine (newReader da len len w).mono ?_
  rintro e w1 ⟨rfl, rfl⟩
  go_wp2_with fail
  refine Calls.mono HSK.out ?_
  rintro e w2 ⟨rfl, hsm, hq⟩
  have HP : Hid (ZSkip len da D g w (.returned (.pointer (some ⟨w.heap.size + 1, 0, none⟩))) w2) := by
    refine ⟨rfl, ⟨hsm.os.trans HBEL.out.os, hsm.tape.trans HBEL.out.tape, hsm.output.trans HBEL.out.output, Nat.le_trans HBEL.out.size hsm.size, fun k hk => ?_⟩, hq⟩
    rw [hsm.block k (by omega) (by omega), HBEL.out.block k hk]
  clear hsm hq
  go_wp2_with fail
  go_ret
  exact HP.out
end Go.Proofs.Qxb6615636aDoor
