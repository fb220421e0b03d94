/-
  THE WALK of FnLimitedTextReadsToItsEnd (seat b6615636aD).
-/
import Derived.Test.Qxb6615636aDoorWalkI
namespace Go.Proofs.Qxb6615636aDoor
open Go.ChangeShapes Go.WideShapes Go.ChangeAt Go.RowKit
set_option linter.unusedVariables false

/-- The text is laid: all that the law's second half leans on. -/
structure Laid4 (w w4 : World) (D P R m len L : Nat) (da : Option Addr) (a0 a1 : Addr) (g z : Nat → Int) : Prop where
  bel : Below w.heap.size w w4
  sent : Sent w4 w.heap.size a0 a1
  ord : w.heap.size ≤ P ∧ P < R ∧ w.heap.size ≤ R ∧ R + 1 < w4.heap.size
  data : len = 0 ∨ (da = some ⟨D, 0, none⟩ ∧ D ≠ R ∧ D ≠ P ∧ D ≠ R + 1 ∧ D < w4.heap.size ∧ Own w4 D len .u8 5 g)
  buf : Own w4 P m .u8 5 z
  txt : Txt w4 (R + 1) R da len L 0 false a1

theorem laid4 {w w1 w2 : World} {m len L : Nat} {da pa : Option Addr} {g z : Nat → Int} {a0 a1 : Addr} (hs : Sent w w.heap.size a0 a1) (hd : Buf w1 w.heap.size da len g) (hb1 : Below w.heap.size w w1) (hp : Buf w2 w1.heap.size pa m z) (hb2 : Below w1.heap.size w1 w2) (hm : 0 < m) :
    ∃ D P, pa = some ⟨P, 0, none⟩ ∧ Laid4 w ((w2.alloc (.cells #[.slice da len len, .int .i64 0, .int .i64 (-1)] 52 (0, 0))).alloc (.cells #[.iface 39 (.pointer (some ⟨w2.heap.size, 0, none⟩)), .int .i64 (L : Int), .nilIface] 46 (0, 0))) D P w2.heap.size m len L da a0 a1 g z := by
  have h1 := hb1.size
  have h2 := hb2.size
  obtain ⟨P, rfl, hP1, hP2⟩ : ∃ P, pa = some ⟨P, 0, none⟩ ∧ w1.heap.size ≤ P ∧ Own w2 P m .u8 5 z := by
    rcases hp with e | e
    · omega
    · exact e
  obtain ⟨D, hD⟩ : ∃ D, len = 0 ∨ (da = some ⟨D, 0, none⟩ ∧ w.heap.size ≤ D ∧ D < w1.heap.size ∧ Own w1 D len .u8 5 g) := by
    rcases hd with e | ⟨D, e1, e2, e3⟩
    · exact ⟨0, .inl e⟩
    · exact ⟨D, .inr ⟨e1, e2, e3.lt, e3⟩⟩
  have hB : Below w2.heap.size w2 ((w2.alloc (.cells #[.slice da len len, .int .i64 0, .int .i64 (-1)] 52 (0, 0))).alloc (.cells #[.iface 39 (.pointer (some ⟨w2.heap.size, 0, none⟩)), .int .i64 (L : Int), .nilIface] 46 (0, 0))) := by
    refine ⟨rfl, rfl, rfl, by simp [World.size_alloc]; omega, fun k hk => ?_⟩
    rw [Below.heap_alloc _ _ _ (by rw [World.size_alloc]; omega), Below.heap_alloc _ _ _ hk]
  have hR : ((w2.alloc (.cells #[.slice da len len, .int .i64 0, .int .i64 (-1)] 52 (0, 0))).alloc (.cells #[.iface 39 (.pointer (some ⟨w2.heap.size, 0, none⟩)), .int .i64 (L : Int), .nilIface] 46 (0, 0))).heap[w2.heap.size]? = some (.cells #[.slice da len len, .int .i64 0, .int .i64 (-1)] 52 (0, 0)) := by
    rw [Below.heap_alloc _ _ _ (by rw [World.size_alloc]; omega)]
    exact heap_new w2 _
  have hT : ((w2.alloc (.cells #[.slice da len len, .int .i64 0, .int .i64 (-1)] 52 (0, 0))).alloc (.cells #[.iface 39 (.pointer (some ⟨w2.heap.size, 0, none⟩)), .int .i64 (L : Int), .nilIface] 46 (0, 0))).heap[w2.heap.size + 1]? = some (.cells #[.iface 39 (.pointer (some ⟨w2.heap.size, 0, none⟩)), .int .i64 (L : Int), .nilIface] 46 (0, 0)) := by
    have := heap_new (w2.alloc (.cells #[.slice da len len, .int .i64 0, .int .i64 (-1)] 52 (0, 0))) (.cells #[.iface 39 (.pointer (some ⟨w2.heap.size, 0, none⟩)), .int .i64 (L : Int), .nilIface] 46 (0, 0))
    rwa [World.size_alloc] at this
  have hsz : ((w2.alloc (.cells #[.slice da len len, .int .i64 0, .int .i64 (-1)] 52 (0, 0))).alloc (.cells #[.iface 39 (.pointer (some ⟨w2.heap.size, 0, none⟩)), .int .i64 (L : Int), .nilIface] 46 (0, 0))).heap.size = w2.heap.size + 1 + 1 := by simp [World.size_alloc]
  generalize ((w2.alloc (.cells #[.slice da len len, .int .i64 0, .int .i64 (-1)] 52 (0, 0))).alloc (.cells #[.iface 39 (.pointer (some ⟨w2.heap.size, 0, none⟩)), .int .i64 (L : Int), .nilIface] 46 (0, 0))) = w3 at *
  have hb3 : Below w.heap.size w w3 := (hb1.trans (hb2.mono h1)).trans (hB.mono (by omega))
  refine ⟨D, P, rfl, hb3, hs.below hb3, ⟨by omega, hP2.lt, by omega, by omega⟩, ?_, hP2.keep (hB.block P hP2.lt), ⟨fun _ => ⟨by simpa [TextAt] using hT, -1, hR⟩, fun e => by cases e⟩⟩
  rcases hD with e | ⟨e1, e2, e3, e4⟩
  · exact .inl e
  · exact .inr ⟨e1, by omega, by omega, by omega, by omega, e4.keep ((hB.block D (by omega)).trans (hb2.block D e3))⟩

theorem data_row {w : World} {D len K : Nat} {da : Option Addr} {g : Nat → Int} (h : len = 0 ∨ (da = some ⟨D, 0, none⟩ ∧ Own w D len .u8 5 g)) (hK : K ≤ len) : Row w w.heap.size .u8 da K g :=
  ⟨fun h0 => by
    rcases h with e | ⟨rfl, e⟩
    · omega
    · exact ⟨D, 0, rfl, e.lt, fun i hi => by rw [Nat.zero_add]; exact e.cell (by omega)⟩⟩

set_option maxRecDepth 100000 in
set_option maxHeartbeats 4000000 in
theorem ends_main (a0' a2' : Option Addr) (len c0 m c2 : Nat) (left : Int) (g z : Nat → Int) (a0 a1 : Addr) (w : World) (hl : len ≤ 9223372036854775807) (hm : m ≤ 9223372036854775807) (hlw : -9223372036854775808 ≤ left ∧ left ≤ 9223372036854775807)
    (hs : Sent w w.heap.size a0 a1) (hnil0 : a0' = none → len = 0 ∧ c0 = 0) (hd : Row w w.heap.size .u8 a0' len g) (hnil2 : a2' = none → m = 0 ∧ c2 = 0) (hp : Row w w.heap.size .u8 a2' m z) :
    Calls Tryd.prog 4 #[.slice a0' len c0, .int .i64 left, .slice a2' m c2] w fun e w' => e = .returned (.bool true) ∧ Below w.heap.size w w' := by
  have HS : Hid _ := hs
  have HD : Hid _ := hd
  have HP : Hid _ := hp
  clear hs hd hp
  go_enter Tryd.func4, Tryd.ntmps4
  go_wp2_with fail
  refine Calls.mono (fit12 a0' a2' len c0 m c2 left w hl hm) ?_
  rintro e w1 ⟨b, rfl, hst, hfit⟩
  cases b with
  | false =>
    go_wp2_with fail
    go_ret
    exact ⟨rfl, hst.below _⟩
  | true =>
  have hfit := hfit rfl
  have hfit' : ¬ (1048576 : Int) < (len : Int) + (m : Int) := by omega
  by_cases hleft : left < 0
  · go_wp2_with fail
    go_ret
    exact ⟨rfl, hst.below _⟩
  by_cases hleft2 : left = 9223372036854775807
  · go_wp2_with fail
    go_ret
    exact ⟨rfl, hst.below _⟩
  have hbeq : (left == (9223372036854775807 : Int)) = false := by simpa using hleft2
  rcases Nat.eq_zero_or_pos m with hm0 | hm0
  · subst hm0
    go_wp2_with fail
    go_ret
    exact ⟨rfl, hst.below _⟩
  obtain ⟨L, rfl⟩ := Int.eq_ofNat_of_zero_le (show 0 ≤ left by omega)
  have hcl := clone_any a0' len c0 _ g w1 (by omega) hnil0 (HD.out.below (hst.below _))
  have HCL : Hid _ := hcl
  clear hcl
  go_wp2_with fail
  refine Calls.mono HCL.out ?_
  rintro e w2 ⟨da, rfl, hda, hb2⟩
  have hszr : w1.heap.size = w.heap.size := by rw [hst.heap]
  have hb2' : Below w.heap.size w w2 := (hst.below _).trans (hb2.mono (by omega))
  have HDA : Hid (Buf w2 w.heap.size da len g) := by rw [hszr] at hda; exact hda
  have hcl := clone_any a2' m c2 _ z w2 (by omega) hnil2 (HP.out.below hb2')
  have HCL2 : Hid _ := hcl
  clear hcl hda hb2
  go_wp2_with fail
  refine Calls.mono HCL2.out ?_
  rintro e w3 ⟨pa, rfl, hpa, hb3⟩
  have HPA : Hid (Buf w3 w2.heap.size pa m z) := hpa
  clear hpa
  go_wp2_with fail
  refine Calls.mono (newText da len len (L : Int) w3) ?_
  rintro e w4 ⟨rfl, rfl⟩
  obtain ⟨D, P, rfl, hinv⟩ := laid4 (L := L) HS.out HDA.out hb2' HPA.out hb3 hm0
  generalize ((w3.alloc (.cells #[.slice da len len, .int .i64 0, .int .i64 (-1)] 52 (0, 0))).alloc (.cells #[.iface 39 (.pointer (some ⟨w3.heap.size, 0, none⟩)), .int .i64 (L : Int), .nilIface] 46 (0, 0))) = w4 at *
  generalize w3.heap.size = R at *
  obtain ⟨o1, o2, o3, o4⟩ := hinv.ord
  have hrl := readLimited_any w.heap.size (R + 1) R D P m len L da a0 a1 g z w4 hinv.sent o3 (by omega) o1 (by omega) (by omega) (by omega) hm0 (by omega) (by omega) (by omega) hinv.data hinv.buf hinv.txt (by omega) o4
  have HRL : Hid _ := hrl
  have HINV : Hid (Laid4 w w4 D P R m len L da a0 a1 g z) := hinv
  clear hrl hinv HCL HCL2 HDA HPA hb3 hb2' hszr hst
  go_wp2_with fail
  refine Calls.mono HRL.out ?_
  rintro e w5 ⟨⟨ga, gc, hres⟩, hsm⟩
  have hd5 : len = 0 ∨ (da = some ⟨D, 0, none⟩ ∧ Own w5 D len .u8 5 g) := by
    rcases HINV.out.data with e | ⟨e1, e2, e3, e4, e5, e6⟩
    · exact .inl e
    · exact .inr ⟨e1, e6.keep (hsm.block D e5 (by omega))⟩
  have hb5' : Below w.heap.size w4 w5 := hsm.below (by omega) (fun k hk e => by omega)
  have hb5 : Below w.heap.size w w5 := HINV.out.bel.trans hb5'
  have hs5 : Sent w5 w.heap.size a0 a1 := HINV.out.sent.below hb5'
  have HS5 : Hid (Sent w5 w.heap.size a0 a1) := hs5
  clear hs5 hb5' hsm HINV HRL
  rcases hres with ⟨hcmp, rfl, hrow, htx⟩ | ⟨hcmp, rfl, hrow, htx⟩
  · have heq := equal_any ga da len gc len _ _ g g w5 (by omega) hrow (data_row hd5 (Nat.le_refl _)) (fun _ _ => rfl)
    have HEQ : Hid _ := heq
    have HTX : Hid (Txt w5 (R + 1) R da len L len false a1) := htx
    clear heq hrow htx hd5
    go_wp2_with fail
    refine Calls.mono HEQ.out ?_
    rintro e w6 ⟨rfl, hst6⟩
    go_wp2_with fail
    refine Calls.mono (zz_end (R + 1) R da len L w.heap.size a0 a1 _ m w6 (HS5.out.below (hst6.below _)) (by omega) (by omega) (by omega) (by omega) (by omega) (HTX.out.keep (hst6.blk _) (hst6.blk _))) ?_
    rintro e w7 ⟨rfl, _, hsm7⟩
    go_wp2_with fail
    go_ret
    exact ⟨rfl, (hb5.trans (hst6.below _)).trans (hsm7.below (by have := hb5.size; rw [hst6.heap]; omega) (fun k hk e => by omega))⟩
  · have heq := equal_any ga da L gc len _ _ g g w5 (by omega) hrow (data_row hd5 (by omega)) (fun _ _ => rfl)
    have HEQ : Hid _ := heq
    have HTX : Hid (Txt w5 (R + 1) R da len L L true a1) := htx
    clear heq hrow htx hd5
    go_wp2_with fail
    refine Calls.mono HEQ.out ?_
    rintro e w6 ⟨rfl, hst6⟩
    go_wp2_with fail
    refine Calls.mono (zz_stopped (R + 1) R da len L L w.heap.size a0 a1 _ w6 (HS5.out.below (hst6.below _)) (HTX.out.keep (hst6.blk _) (hst6.blk _))) ?_
    rintro e w7 ⟨rfl, hst7⟩
    go_wp2_with fail
    go_ret
    exact ⟨rfl, (hb5.trans (hst6.below _)).trans (hst7.below _)⟩
end Go.Proofs.Qxb6615636aDoor
