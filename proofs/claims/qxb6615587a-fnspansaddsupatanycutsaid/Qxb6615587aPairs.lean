/-
  A ROW OF matched THAT ZZspans LAYS (seat b6615587a). No dump is imported.
-/
import Derived.Test.Qxb6615587aFound
namespace Go.Proofs.Qxb6615587a
open Go.RowKit

/-- Block g is a row of n matched, the i-th is (s i, d i). -/
structure Pairs (w : World) (g n : Nat) (s d : Nat → Int) : Prop where
  arr : ∃ cur : Array Value, w.heap[g]? = some (.cells cur 64 (0, 0)) ∧ cur.size = n * 2 ∧ ∀ i, i < n → cur[i * 2]? = some (.int .u64 (s i)) ∧ cur[i * 2 + 1]? = some (.int .u32 (d i))

theorem Pairs.lt {w : World} {g n : Nat} {s d : Nat → Int} (h : Pairs w g n s d) : g < w.heap.size := by
  obtain ⟨cur, hh, _⟩ := h.arr
  exact lt_of_block hh
theorem Pairs.cell {w : World} {g n : Nat} {s d : Nat → Int} (h : Pairs w g n s d) {i : Nat} (hi : i < n) : w.cell? ⟨g, i * 2, none⟩ = some (.int .u64 (s i)) ∧ w.cell? ⟨g, i * 2 + 1, none⟩ = some (.int .u32 (d i)) := by
  obtain ⟨cur, hh, _, hc⟩ := h.arr
  obtain ⟨h1, h2⟩ := hc i hi
  exact ⟨by simp [World.cell?, hh, h1], by simp [World.cell?, hh, h2]⟩
theorem Pairs.free {w : World} {g n : Nat} {s d : Nat → Int} (h : Pairs w g n s d) (i : Nat) : w.frozen? ⟨g, i, none⟩ = false := by
  obtain ⟨cur, hh, _, hc⟩ := h.arr
  simp [World.frozen?, hh]
theorem Pairs.keep {w w' : World} {g n : Nat} {s d : Nat → Int} (h : Pairs w g n s d) (hb : w'.heap[g]? = w.heap[g]?) : Pairs w' g n s d := by
  obtain ⟨cur, hh, hs, hc⟩ := h.arr
  exact ⟨cur, hb.trans hh, hs, hc⟩
theorem Pairs.congr {w : World} {g n : Nat} {s d s' d' : Nat → Int} (h : Pairs w g n s d) (hs : ∀ i, i < n → s i = s' i) (hd : ∀ i, i < n → d i = d' i) : Pairs w g n s' d' := by
  obtain ⟨cur, hh, hz, hc⟩ := h.arr
  exact ⟨cur, hh, hz, fun i hi => by rw [← hs i hi, ← hd i hi]; exact hc i hi⟩
theorem Pairs.set {w : World} {g n : Nat} {s d : Nat → Int} (h : Pairs w g n s d) {j : Nat} (hj : j < n) (x y : Int) :
    Pairs ((w.setCell ⟨g, j * 2, none⟩ (.int .u64 x)).setCell ⟨g, j * 2 + 1, none⟩ (.int .u32 y)) g n (fun i => if i = j then x else s i) (fun i => if i = j then y else d i) := by
  obtain ⟨cur, hh, hs, hc⟩ := h.arr
  refine ⟨(cur.setIfInBounds (j * 2) (.int .u64 x)).setIfInBounds (j * 2 + 1) (.int .u32 y), ?_, by simpa using hs, fun i hi => ?_⟩
  · simp [World.setCell, Array.getElem?_modify, hh]
  · obtain ⟨h1, h2⟩ := hc i hi
    simp only [Array.getElem?_setIfInBounds, Array.size_setIfInBounds]
    by_cases e : i = j
    · subst e
      rw [if_neg (show ¬ i * 2 + 1 = i * 2 by omega), if_pos rfl, if_pos rfl, if_pos (by omega)]
      rw [if_pos (show i * 2 + 1 < cur.size by omega)]
      simp
    · rw [if_neg (show ¬ j * 2 + 1 = i * 2 by omega), if_neg (show ¬ j * 2 = i * 2 by omega), if_neg (show ¬ j * 2 + 1 = i * 2 + 1 by omega), if_neg (show ¬ j * 2 = i * 2 + 1 by omega)]
      simp only [e, if_false]
      exact ⟨h1, h2⟩
theorem made_two (x y : Value) (n i : Nat) (hi : i < n) : (madeCells #[x, y] (n * 2))[i * 2]? = some x ∧ (madeCells #[x, y] (n * 2))[i * 2 + 1]? = some y := by
  unfold madeCells
  have e1 : i * 2 % 2 = 0 := by omega
  have e2 : (i * 2 + 1) % 2 = 1 := by omega
  have h1 : i * 2 < n * 2 := by omega
  have h2 : i * 2 + 1 < n * 2 := by omega
  constructor
  · simp [e1, h1]
  · simp [e2, h2]
theorem Pairs.of_made {w : World} {base g n : Nat} (h : w.ownsRow base 64 2 (.slice (some ⟨g, 0, none⟩) n n) n (madeCells #[.int .u64 0, .int .u32 0] (n * 2)).toList) : Pairs w g n (fun _ => 0) (fun _ => 0) := by
  obtain ⟨_, h2⟩ := h
  rcases h2 with ⟨h, _⟩ | ⟨g', cap, cur, hv, _, hh, _, _, hs, ht⟩
  · simp at h
  · simp only [Value.slice.injEq, Option.some.injEq, Addr.mk.injEq, and_true, true_and] at hv
    obtain ⟨rfl, rfl⟩ := hv
    refine ⟨cur, hh, hs, fun i hi => ?_⟩
    have ec : cur.toList = (madeCells #[.int .u64 0, .int .u32 0] (n * 2)).toList := by
      rw [← ht, List.take_of_length_le (by simp; omega)]
    have ec' : cur = madeCells #[.int .u64 0, .int .u32 0] (n * 2) := Array.toList_inj.1 ec
    rw [ec']
    exact made_two _ _ n i hi

theorem flat_range (s d : Nat → Int) (n : Nat) : ∀ i, i < n → (flat ((List.range n).map (fun i => (s i, d i))))[i * 2]? = some (.int .u64 (s i)) ∧ (flat ((List.range n).map (fun i => (s i, d i))))[i * 2 + 1]? = some (.int .u32 (d i)) := by
  intro i hi
  have := flat_at ((List.range n).map (fun i => (s i, d i))) i (by simpa using hi)
  have e : 2 * i = i * 2 := by omega
  rw [e] at this
  simpa [hi] using this

/-- The row and the variable, as 'found' of the list of pairs. -/
theorem Pairs.finv {w : World} {F g n : Nat} {s d : Nat → Int} (h : Pairs w g n s d) (hn : n ≤ maxLen) (hgF : g ≤ F) (hv : w.heap[F]? = some (.cells #[.slice (some ⟨g, 0, none⟩) n n] 62 (0, 0))) :
    FInv g (some F) w (.slice (some ⟨g, 0, none⟩) n n) ((List.range n).map (fun i => (s i, d i))) := by
  obtain ⟨cur, hh, hs, hc⟩ := h.arr
  refine ⟨hgF, hv, by rw [flat_length], .inr ⟨g, n, cur, by simp, Nat.le_refl _, hh, by simp, hn, hs, ?_⟩⟩
  apply List.ext_getElem?
  intro q
  rw [List.length_map, List.length_range, List.getElem?_take]
  by_cases hq : q < n * 2
  · rw [if_pos hq]
    have hfr := flat_range s d n (q / 2) (by omega)
    have hcr := hc (q / 2) (by omega)
    rcases Nat.mod_two_eq_zero_or_one q with e | e
    · have eq : q / 2 * 2 = q := by omega
      rw [eq] at hfr hcr
      rw [hfr.1]
      simpa using hcr.1
    · have eq : q / 2 * 2 + 1 = q := by omega
      rw [eq] at hfr hcr
      rw [hfr.2]
      simpa using hcr.2
  · rw [if_neg hq, List.getElem?_eq_none (by rw [flat_length]; simp; omega)]

/-- One round of the loop that lays the row. -/
theorem pairs_step {w0 w w2 : World} {F g n k : Nat} {s d : Nat → Int} {u : Array Value} (hp : Pairs w g n (fun j => if j < k then s j else 0) (fun j => if j < k then d j else 0)) (hv : w.heap[F]? = some (.cells u 62 (0, 0))) (hFg : F ≠ g) (hk : k < n) (hbel : Below g w0 w)
    (hh : w2.heap = ((w.setCell ⟨g, k * 2, none⟩ (.int .u64 (s k))).setCell ⟨g, k * 2 + 1, none⟩ (.int .u32 (d k))).heap) (ho : w2.os = w.os) (ht : w2.tape = w.tape) (hu : w2.output = w.output) :
    w2.heap[F]? = some (.cells u 62 (0, 0)) ∧ Pairs w2 g n (fun j => if j < k + 1 then s j else 0) (fun j => if j < k + 1 then d j else 0) ∧ Below g w0 w2 := by
  refine ⟨?_, ?_, ?_⟩
  · rw [hh, Below.heap_setCell _ _ _ _ hFg, Below.heap_setCell _ _ _ _ hFg]; exact hv
  · refine ((hp.set hk (s k) (d k)).congr (fun i hi => ?_) (fun i hi => ?_)).keep (by rw [hh])
    · by_cases e : i = k
      · subst e; simp
      · by_cases e2 : i < k
        · rw [if_neg e, if_pos e2, if_pos (by omega)]
        · rw [if_neg e, if_neg e2, if_neg (by omega)]
    · by_cases e : i = k
      · subst e; simp
      · by_cases e2 : i < k
        · rw [if_neg e, if_pos e2, if_pos (by omega)]
        · rw [if_neg e, if_neg e2, if_neg (by omega)]
  · have h1 : Below g w0 ((w.setCell ⟨g, k * 2, none⟩ (.int .u64 (s k))).setCell ⟨g, k * 2 + 1, none⟩ (.int .u32 (d k))) := (hbel.setCell (p := ⟨g, k * 2, none⟩) (Nat.le_refl _) _).setCell (p := ⟨g, k * 2 + 1, none⟩) (Nat.le_refl _) _
    exact ⟨ho.trans hbel.os, ht.trans hbel.tape, hu.trans hbel.output, by rw [hh]; exact h1.size, fun i hi => by rw [hh]; exact h1.block i hi⟩

/-- One store into a row of the call's own, in a loop. -/
theorem Own.step {w : World} {g n k : Nat} {K : IntKind} {t : TypeId} {f : Nat → Int} (h : Own w g n K t (fun j => if j < k then f j else 0)) (hk : k < n) : Own (w.setCell ⟨g, k, none⟩ (.int K (f k))) g n K t (fun j => if j < k + 1 then f j else 0) :=
  (h.set hk (f k)).congr (fun i hi => by
    by_cases e : i = k
    · subst e; simp
    · by_cases e2 : i < k
      · rw [if_neg e, if_pos e2, if_pos (by omega)]
      · rw [if_neg e, if_neg e2, if_neg (by omega)])
theorem Own.other {w : World} {g n : Nat} {K : IntKind} {t : TypeId} {f : Nat → Int} (h : Own w g n K t f) {a : Addr} (ha : g ≠ a.block) (u : Value) : Own (w.setCell a u) g n K t f := h.keep (Below.heap_setCell w a u g ha)

theorem heap_new (w : World) (o : Obj) : (w.alloc o).heap[w.heap.size]? = some o := by
  show (w.heap.push o)[w.heap.size]? = some o
  rw [Array.getElem?_push, if_pos rfl]

/-- What found holds, read as two rows. -/
theorem FInv.cells {B F : Nat} {w : World} {ao : Option Addr} {n cap : Nat} {tot : List (Int × Int)} (h : FInv B (some F) w (.slice ao n cap) tot) : n = tot.length ∧ (0 < n → ∃ g, ao = some ⟨g, 0, none⟩ ∧ g < w.heap.size ∧ ∀ i, i < n →
    w.cell? ⟨g, i * 2, none⟩ = some (.int .u64 (tot.getD i (0, 0)).1) ∧ w.cell? ⟨g, i * 2 + 1, none⟩ = some (.int .u32 (tot.getD i (0, 0)).2)) := by
  have ho := h.2.2
  have h2 := ho.2
  rcases h2 with ⟨hv, hn⟩ | ⟨g, cp, cur, hv, hg, hh, hle, hm, hs, ht⟩
  · simp at hv
    obtain ⟨_, rfl, _⟩ := hv
    exact ⟨hn.symm, fun h => by omega⟩
  · simp at hv
    obtain ⟨rfl, rfl, rfl⟩ := hv
    refine ⟨rfl, fun _ => ⟨g, rfl, lt_of_block hh, fun i hi => ?_⟩⟩
    have hf := flat_at tot i hi
    have e : 2 * i = i * 2 := by omega
    rw [e] at hf
    rw [ho.cellAt (i * 2) (by omega), ho.cellAt (i * 2 + 1) (by omega)]
    exact hf

end Go.Proofs.Qxb6615587a
