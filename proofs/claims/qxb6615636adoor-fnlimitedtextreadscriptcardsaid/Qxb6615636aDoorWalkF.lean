/-
  THE WALKS of cloneBufs and zzBytes_FnLimitedTextReadScript (seat b6615636aD).
-/
import Derived.Test.Qxb6615636aDoorWalkE
namespace Go.Proofs.Qxb6615636aDoor
open Go.ChangeShapes Go.WideShapes Go.ChangeAt Go.RowKit
set_option linter.unusedVariables false

/-- A slice of slices of bytes that came in. -/
structure BRow (w : World) (B : Nat) (a : Option Addr) (nb : Nat) (pa : Nat → Option Addr) (m c : Nat → Nat) (f : Nat → Nat → Int) : Prop where
  cells : 0 < nb → ∃ b off, a = some ⟨b, off, none⟩ ∧ b < B ∧ ∀ i, i < nb → w.cell? ⟨b, off + i, none⟩ = some (.slice (pa i) (m i) (c i))
  rows : ∀ i, i < nb → Row w B .u8 (pa i) (m i) (f i)
  nils : ∀ i, i < nb → pa i = none → m i = 0 ∧ c i = 0
  lens : ∀ i, i < nb → m i ≤ 9223372036854775807
theorem BRow.below {w w' : World} {B : Nat} {a : Option Addr} {nb : Nat} {pa : Nat → Option Addr} {m c : Nat → Nat} {f : Nat → Nat → Int} (h : BRow w B a nb pa m c f) (hb : Below B w w') : BRow w' B a nb pa m c f :=
  ⟨fun hl => by
    obtain ⟨b, off, ha, hB, hc⟩ := h.cells hl
    exact ⟨b, off, ha, hB, fun i hi => (hb.cell (p := ⟨b, off + i, none⟩) hB).trans (hc i hi)⟩, fun i hi => (h.rows i hi).below hb, h.nils, h.lens⟩

/-- Block g is a row of n values, none of them frozen. -/
structure OwnV (w : World) (g n : Nat) (t : TypeId) (V : Nat → Value) : Prop where
  arr : ∃ cur : Array Value, w.heap[g]? = some (.cells cur t (0, 0)) ∧ cur.size = n ∧ ∀ i, i < n → cur[i]? = some (V i)
theorem OwnV.cell {w : World} {g n : Nat} {t : TypeId} {V : Nat → Value} (h : OwnV w g n t V) {i : Nat} (hi : i < n) : w.cell? ⟨g, i, none⟩ = some (V i) := by
  obtain ⟨cur, hh, _, hc⟩ := h.arr
  simp [World.cell?, hh, hc i hi]
theorem OwnV.free {w : World} {g n : Nat} {t : TypeId} {V : Nat → Value} (h : OwnV w g n t V) (i : Nat) : w.frozen? ⟨g, i, none⟩ = false := by
  obtain ⟨cur, hh, _, hc⟩ := h.arr
  simp [World.frozen?, hh]
theorem OwnV.lt {w : World} {g n : Nat} {t : TypeId} {V : Nat → Value} (h : OwnV w g n t V) : g < w.heap.size := by
  obtain ⟨cur, hh, _⟩ := h.arr
  exact lt_of_block hh
theorem OwnV.keep {w w' : World} {g n : Nat} {t : TypeId} {V : Nat → Value} (h : OwnV w g n t V) (hb : w'.heap[g]? = w.heap[g]?) : OwnV w' g n t V := by
  obtain ⟨cur, hh, hs, hc⟩ := h.arr
  exact ⟨cur, hb.trans hh, hs, hc⟩
theorem OwnV.set {w : World} {g n : Nat} {t : TypeId} {V : Nat → Value} (h : OwnV w g n t V) {j : Nat} (hj : j < n) (v : Value) : OwnV (w.setCell ⟨g, j, none⟩ v) g n t (fun i => if i = j then v else V i) := by
  obtain ⟨cur, hh, hs, hc⟩ := h.arr
  refine ⟨cur.setIfInBounds j v, ?_, by simpa using hs, fun i hi => ?_⟩
  · simp [World.setCell, Array.getElem?_modify, hh]
  · rw [Array.getElem?_setIfInBounds]
    by_cases e : j = i
    · subst e; simp [hs, hj]
    · rw [if_neg e, if_neg (fun x => e x.symm)]; exact hc i hi
theorem OwnV.of_made1 {w : World} {base g n : Nat} {e : TypeId} {v : Value} (h : w.ownsRow base e 1 (.slice (some ⟨g, 0, none⟩) n n) n (madeCells #[v] n).toList) : OwnV w g n e (fun _ => v) := by
  obtain ⟨_, h2⟩ := h
  rcases h2 with ⟨h, _⟩ | ⟨g', cap, cur, hv, _, hh, _, _, hs, ht⟩
  · simp at h
  · simp only [Value.slice.injEq, Option.some.injEq, Addr.mk.injEq, and_true, true_and] at hv
    obtain ⟨rfl, rfl⟩ := hv
    refine ⟨cur, hh, by omega, fun i hi => ?_⟩
    have hf : ((madeCells #[v] n).toList)[i]? = some v := by rw [toList_madeCells_one]; simp [hi]
    rw [← ht, List.getElem?_take, if_pos (by omega)] at hf
    simpa using hf

theorem Buf.keep {w w' : World} {B : Nat} {a : Option Addr} {n : Nat} {f : Nat → Int} (h : Buf w B a n f) (hb : ∀ g, B ≤ g → g < w.heap.size → w'.heap[g]? = w.heap[g]?) : Buf w' B a n f := by
  rcases h with h | ⟨g, rfl, hB, ho⟩
  · exact .inl h
  · exact .inr ⟨g, rfl, hB, ho.keep (hb g hB ho.lt)⟩
theorem Buf.mono {w : World} {B C : Nat} {a : Option Addr} {n : Nat} {f : Nat → Int} (h : Buf w B a n f) (hC : C ≤ B) : Buf w C a n f := by
  rcases h with h | ⟨g, rfl, hB, ho⟩
  · exact .inl h
  · exact .inr ⟨g, rfl, by omega, ho⟩

/-- The first k of the copies. -/
def Done (w : World) (Q nb k : Nat) (m : Nat → Nat) (f : Nat → Nat → Int) : Prop :=
  ∃ V, OwnV w Q nb 22 V ∧ ∀ j, j < k → ∃ a, V j = .slice a (m j) (m j) ∧ Buf w (Q + 1) a (m j) (f j)
def BufsPost (w : World) (nb : Nat) (m : Nat → Nat) (f : Nat → Nat → Int) (e : Ending) (w' : World) : Prop :=
  ∃ v, e = .returned (.slice v nb nb) ∧ (nb = 0 ∨ v = some ⟨w.heap.size, 0, none⟩ ∧ Done w' w.heap.size nb nb m f) ∧ Below w.heap.size w w'

theorem Done.step {w w1 : World} {Q nb k : Nat} {m : Nat → Nat} {f : Nat → Nat → Int} {v : Option Addr} (h : Done w Q nb k m f) (hk : k < nb) (hb : Below w.heap.size w w1) (hv : Buf w1 w.heap.size v (m k) (f k)) : Done (w1.setCell ⟨Q, k, none⟩ (.slice v (m k) (m k))) Q nb (k + 1) m f := by
  obtain ⟨V, hV, hd⟩ := h
  refine ⟨_, (hV.keep (hb.block Q hV.lt)).set hk (.slice v (m k) (m k)), fun j hj => ?_⟩
  by_cases e : j = k
  · subst e
    refine ⟨v, by simp, ?_⟩
    exact (hv.mono (by have := hV.lt; omega)).keep (fun g hg hgl => Below.heap_setCell w1 ⟨Q, j, none⟩ _ g (by simp; omega))
  · obtain ⟨a, ha, hB⟩ := hd j (by omega)
    refine ⟨a, by simp [e, ha], ?_⟩
    exact hB.keep (fun g hg hgl => (Below.heap_setCell w1 ⟨Q, k, none⟩ _ g (by simp; omega)).trans (hb.block g hgl))
theorem Done.cell {w : World} {Q nb k : Nat} {m : Nat → Nat} {f : Nat → Nat → Int} (h : Done w Q nb k m f) {j : Nat} (hj : j < nb) : ∃ v, w.cell? ⟨Q, j, none⟩ = some v := by
  obtain ⟨V, hV, hd⟩ := h
  exact ⟨_, hV.cell hj⟩
theorem Done.free {w : World} {Q nb k : Nat} {m : Nat → Nat} {f : Nat → Nat → Int} (h : Done w Q nb k m f) (j : Nat) : w.frozen? ⟨Q, j, none⟩ = false := by
  obtain ⟨V, hV, hd⟩ := h
  exact hV.free j

theorem Tryd.info22 : (Tryd.prog.info? 22).map (fun i => (i.zero, i.size, i.bytes)) = some (some (.slice none 0 0), 1, 24) := by kernel_rfl

theorem bufs_nil (w : World) (m : Nat → Nat) (f : Nat → Nat → Int) : Calls Tryd.prog 8 #[.slice none 0 0] w fun e w' => BufsPost w 0 m f e w' := by
  have hq := fun w n c => Lib.run_eql_slice_nil (P := Tryd.prog) w 23 22 none n c 0 0 Tryd.underlying23
  go_enter Tryd.func8, Tryd.ntmps8
  go_wp2
  go_ret
  exact ⟨none, rfl, .inl rfl, Below.refl _ _⟩

theorem bufs_zero (x : Addr) (c : Nat) (m : Nat → Nat) (f : Nat → Nat → Int) (w : World) : Calls Tryd.prog 8 #[.slice (some x) 0 c] w fun e w' => BufsPost w 0 m f e w' := by
  have hq := fun w n c => Lib.run_eql_slice_nil (P := Tryd.prog) w 23 22 (some x) n c 0 0 Tryd.underlying23
  obtain ⟨i0, hi, hz0, hz1, hz2⟩ := info_parts Tryd.info22
  go_enter Tryd.func8, Tryd.ntmps8
  go_wp2_with (at_make; refine wpList_make_full _ rfl _ _ 23 rfl w.heap.size 22 i0 (.slice none 0 0) 1 Tryd.underlying23 hi hz0 hz1 .i64 .i64 _ _ 0 rfl rfl rfl rfl (by rw [hz2]; omega) (by unfold maxLen; omega) (Nat.le_refl _) ?_)
  intro w1 hown hgrow
  have hb := below_made hgrow
  clear hown hgrow
  go_wp2
  refine wp_loop_rounds 1 ?_
  rw [rounds_succ]
  go_wp2
  go_ret
  exact ⟨_, rfl, .inl rfl, hb⟩

set_option maxHeartbeats 1000000 in
theorem bufs_some (a : Addr) (n c cc : Nat) (pa : Nat → Option Addr) (m cp : Nat → Nat) (f : Nat → Nat → Int) (w : World) (hn0 : 0 < n) (hn : n ≤ 1048576) (hrow : BRow w w.heap.size (some a) n pa m cp f) (hm : ∀ i, i < n → m i ≤ 1048576) :
    Calls Tryd.prog 8 #[.slice (some a) n c] w fun e w' => BufsPost w n m f e w' := by
  have hq := fun w n c => Lib.run_eql_slice_nil (P := Tryd.prog) w 23 22 (some a) n c 0 0 Tryd.underlying23
  obtain ⟨i0, hi, hz0, hz1, hz2⟩ := info_parts Tryd.info22
  obtain ⟨b, off, ha, hbw, hc⟩ := hrow.cells hn0
  cases ha
  have HROW : Hid _ := hrow
  have HM : Hid _ := hm
  clear hrow hm
  go_enter Tryd.func8, Tryd.ntmps8
  go_wp2_with (at_make; refine wpList_make_full _ rfl _ _ 23 rfl w.heap.size 22 i0 (.slice none 0 0) 1 Tryd.underlying23 hi hz0 hz1 .i64 .i64 _ _ n rfl rfl rfl rfl (by rw [hz2]; omega) (by unfold maxLen; omega) (Nat.le_refl _) ?_)
  intro w1 hown hgrow
  have hb := below_made hgrow
  have ho : OwnV w1 w.heap.size n 22 (fun _ => .slice none 0 0) := OwnV.of_made1 hown
  clear hown hgrow
  have HC : Hid _ := hc
  clear hc
  go_wp2
  go_loopw [4] (fun i wr => ∃ k : Nat, k ≤ n ∧ i = .int .i64 k ∧ Done wr w.heap.size n k m f ∧ Below w.heap.size w wr) (fun i _ => n - (intOf i).toNat)
  case atStart => exact ⟨0, Nat.zero_le _, rfl, ⟨_, ho, fun j hj => by omega⟩, hb⟩
  case round =>
    obtain ⟨k, hk, rfl, hor, hbel⟩ := hrel
    by_cases hlt : k < n
    · have c1 : wr.cell? ⟨b, off + k, none⟩ = some (.slice (pa k) (m k) (cp k)) := (hbel.cell (p := ⟨b, off + k, none⟩) hbw).trans (HC.out k hlt)
      have hcl := clone_any (pa k) (m k) (cp k) _ (f k) wr (by have := HM.out k hlt; omega) (HROW.out.nils k hlt) ((HROW.out.rows k hlt).below hbel)
      have HCL : Hid _ := hcl
      have HOR : Hid _ := hor
      clear hb ho hor hcl
      go_wp2_with fail
      refine Calls.mono HCL.out ?_
      rintro e w2 ⟨v, rfl, hv, hb2⟩
      have hd2 : Done w2 w.heap.size n k m f := by
        obtain ⟨V, hV, hd⟩ := HOR.out
        exact ⟨V, hV.keep (hb2.block _ hV.lt), fun j hj => by
          obtain ⟨x, hx, hB⟩ := hd j hj
          exact ⟨x, hx, hB.keep (fun g hg hgl => hb2.block g hgl)⟩⟩
      obtain ⟨u, c2⟩ := hd2.cell hlt
      have c3 := hd2.free k
      have HV : Hid _ := hv
      clear hd2 hv
      go_wp2_with fail
      go_roundw
      case rel => exact ⟨k + 1, by omega, by go_num, Done.step HOR.out hlt hb2 HV.out, (hbel.trans (hb2.mono hbel.size)).setCell (Nat.le_refl _) _⟩
      case measure => simp [intOf]; omega
    · go_wp2
      go_ret
      have hkn : k = n := by omega
      subst hkn
      exact ⟨_, rfl, .inr ⟨rfl, hor⟩, hbel⟩

theorem bufs_any (a : Option Addr) (n c : Nat) (pa : Nat → Option Addr) (m cp : Nat → Nat) (f : Nat → Nat → Int) (w : World) (hnil : a = none → n = 0 ∧ c = 0) (hn : n ≤ 1048576) (hrow : BRow w w.heap.size a n pa m cp f) (hm : ∀ i, i < n → m i ≤ 1048576) :
    Calls Tryd.prog 8 #[.slice a n c] w fun e w' => BufsPost w n m f e w' := by
  cases a with
  | none => obtain ⟨rfl, rfl⟩ := hnil rfl; exact bufs_nil w m f
  | some x =>
    rcases Nat.eq_zero_or_pos n with h0 | h0
    · subst h0; exact bufs_zero x c m f w
    · exact bufs_some x n c c pa m cp f w h0 hn hrow hm

/-- What the bound on the total length says where it says yes. -/
def FitPost (len nb : Nat) (m : Nat → Nat) (e : Ending) (w w' : World) : Prop :=
  ∃ b : Bool, e = .returned (.bool b) ∧ Still w w' ∧ (b = true → len ≤ 1048576 ∧ nb ≤ 1048576 ∧ ∀ i, i < nb → m i ≤ 1048576)

set_option maxHeartbeats 1000000 in
theorem fit6 (a0 a : Option Addr) (len c0 n c : Nat) (left : Int) (pa : Nat → Option Addr) (m cp : Nat → Nat) (f : Nat → Nat → Int) (w : World) (hl : len ≤ 9223372036854775807) (hn : n ≤ 9223372036854775807) (hrow : BRow w w.heap.size a n pa m cp f) :
    Calls Tryd.prog 6 #[.slice a0 len c0, .int .i64 left, .slice a n c] w fun e w' => FitPost len n m e w w' := by
  by_cases g1 : 1048576 < len
  · go_enter Tryd.func6, Tryd.ntmps6
    go_wp2_with fail
    go_ret
    exact ⟨false, rfl, Still.refl _, fun h => by simp at h⟩
  by_cases g2 : 1048576 < n
  · go_enter Tryd.func6, Tryd.ntmps6
    go_wp2_with fail
    go_ret
    exact ⟨false, rfl, Still.refl _, fun h => by simp at h⟩
  by_cases g3 : 1048576 < len + n
  · have g3' : (1048576 : Int) < (len : Int) + (n : Int) := by omega
    go_enter Tryd.func6, Tryd.ntmps6
    go_wp2_with fail
    go_ret
    exact ⟨false, rfl, Still.refl _, fun h => by simp at h⟩
  have g3' : ¬ (1048576 : Int) < (len : Int) + (n : Int) := by omega
  rcases Nat.eq_zero_or_pos n with h0 | h0
  · subst h0
    go_enter Tryd.func6, Tryd.ntmps6
    go_wp2_with fail
    refine wp_loop_rounds 1 ?_
    rw [rounds_succ]
    go_wp2_with fail
    go_ret
    exact ⟨true, rfl, Still.refl _, fun h => ⟨by omega, by omega, fun i hi => by omega⟩⟩
  obtain ⟨b, off, rfl, hbw, hc⟩ := hrow.cells h0
  have HC : Hid _ := hc
  have HROW : Hid _ := hrow
  clear hc hrow
  go_enter Tryd.func6, Tryd.ntmps6
  go_wp2_with fail
  go_loopw [7, 8] (fun s i wr => ∃ k t : Nat, k ≤ n ∧ t ≤ 1048576 ∧ s = .int .i64 t ∧ i = .int .i64 k ∧ Still w wr ∧ ∀ j, j < k → m j ≤ 1048576) (fun s i _ => n - (intOf i).toNat)
  case atStart => exact ⟨0, len + n, Nat.zero_le _, by omega, by simp, rfl, Still.refl _, fun j hj => by omega⟩
  case round =>
    obtain ⟨k, t, hk, ht, rfl, rfl, hst, hall⟩ := hrel
    have HALL : Hid _ := hall
    clear hall
    by_cases hlt : k < n
    · have c1 : wr.cell? ⟨b, off + k, none⟩ = some (.slice (pa k) (m k) (cp k)) := (hst.cell _).trans (HC.out k hlt)
      have hmk := HROW.out.lens k hlt
      by_cases q1 : 1048576 < m k
      · go_wp2_with fail
        go_ret
        exact ⟨false, rfl, hst, fun h => by simp at h⟩
      by_cases q2 : 1048576 < t + m k
      · have q2' : (1048576 : Int) < (t : Int) + (m k : Int) := by omega
        go_wp2_with fail
        go_ret
        exact ⟨false, rfl, hst, fun h => by simp at h⟩
      have q2' : ¬ (1048576 : Int) < (t : Int) + (m k : Int) := by omega
      go_wp2_with fail
      go_roundw
      case rel => exact ⟨k + 1, t + m k, by omega, by omega, by simp, by go_num, hst, fun j hj => by
          by_cases e : j = k
          · subst e; omega
          · exact HALL.out j (by omega)⟩
      case measure => simp [intOf]; omega
    · go_wp2_with fail
      go_ret
      exact ⟨true, rfl, hst, fun h => ⟨by omega, by omega, fun i hi => HALL.out i (by omega)⟩⟩
end Go.Proofs.Qxb6615636aDoor
