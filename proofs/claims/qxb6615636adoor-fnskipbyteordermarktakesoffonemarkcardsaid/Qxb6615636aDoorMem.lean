/-
  WORDS ON MEMORY for the walks of the seat b6615636aD. No dump is imported.
-/
import Derived.WalkKit
import Derived.Deep.QuietTactic
import Derived.Laws.CopyOwn
import Derived.ProofKit
namespace Go.Proofs.Qxb6615636aDoor
open Go.RowKit Go.ChangeShapes Go.WideShapes Go.ChangeAt

/-- Outside the blocks of S, what was there is as it was; new blocks may lie behind. -/
structure Same (S : Nat → Prop) (w w' : World) : Prop where
  os : w'.os = w.os
  tape : w'.tape = w.tape
  output : w'.output = w.output
  size : w.heap.size ≤ w'.heap.size
  block : ∀ k, k < w.heap.size → ¬ S k → w'.heap[k]? = w.heap[k]?

theorem Same.refl (S : Nat → Prop) (w : World) : Same S w w := ⟨rfl, rfl, rfl, Nat.le_refl _, fun _ _ _ => rfl⟩

theorem Same.trans {S T : Nat → Prop} {a b c : World} (h : Same S a b) (k : Same T b c) (hT : ∀ i, i < a.heap.size → T i → S i) : Same S a c :=
  ⟨k.os.trans h.os, k.tape.trans h.tape, k.output.trans h.output, Nat.le_trans h.size k.size,
   fun i hi hS => (k.block i (Nat.lt_of_lt_of_le hi h.size) (fun ht => hS (hT i hi ht))).trans (h.block i hi hS)⟩

theorem Same.drew {S : Nat → Prop} {a w : World} (h : Same S a w) : Same S a w.drew := ⟨h.os, h.tape, h.output, h.size, h.block⟩
theorem Same.drewN {S : Nat → Prop} {a w : World} (h : Same S a w) (n : Nat) : Same S a (w.drewN n) := ⟨h.os, h.tape, h.output, h.size, h.block⟩

theorem Same.alloc {S : Nat → Prop} {a w : World} (h : Same S a w) (o : Obj) : Same S a (w.alloc o) :=
  ⟨h.os, h.tape, h.output, by rw [World.size_alloc]; have := h.size; omega, fun k hk hS => by
    rw [Below.heap_alloc _ _ _ (by have := h.size; omega)]; exact h.block k hk hS⟩

theorem Same.setCell {S : Nat → Prop} {a w : World} (h : Same S a w) {p : Addr} (hp : p.block < a.heap.size → S p.block) (u : Value) : Same S a (w.setCell p u) :=
  ⟨h.os, h.tape, h.output, by rw [World.size_setCell]; exact h.size, fun k hk hS => by
    rw [Below.heap_setCell _ _ _ _ (fun e => hS (by subst e; exact hp hk))]; exact h.block k hk hS⟩

theorem Same.cell {S : Nat → Prop} {w w' : World} (h : Same S w w') {p : Addr} (hp : p.block < w.heap.size) (hS : ¬ S p.block) : w'.cell? p = w.cell? p := World.cell?_of_block (w := w) (h.block p.block hp hS)

theorem Same.below {S : Nat → Prop} {w w' : World} (h : Same S w w') {B : Nat} (hB : B ≤ w.heap.size) (hS : ∀ k, k < B → ¬ S k) : Below B w w' :=
  ⟨h.os, h.tape, h.output, h.size, fun k hk => h.block k (by omega) (hS k hk)⟩

theorem Same.of_below {S : Nat → Prop} {w w' : World} (h : Below w.heap.size w w') : Same S w w' :=
  ⟨h.os, h.tape, h.output, h.size, fun k hk _ => h.block k hk⟩

theorem lt_of_cell {w : World} {p : Addr} {v : Value} (h : w.cell? p = some v) : p.block < w.heap.size := by
  unfold World.cell? at h
  by_cases hl : p.block < w.heap.size
  · exact hl
  · rw [Array.getElem?_eq_none (by omega)] at h
    simp at h

/-- A slice of 'len' integers of kind k, the i-th is 'f i'; its array lies below block B. -/
structure Row (w : World) (B : Nat) (k : IntKind) (a : Option Addr) (len : Nat) (f : Nat → Int) : Prop where
  cells : 0 < len → ∃ b off, a = some ⟨b, off, none⟩ ∧ b < B ∧ ∀ i, i < len → w.cell? ⟨b, off + i, none⟩ = some (.int k (f i))

theorem Row.below {w w' : World} {B : Nat} {k : IntKind} {a : Option Addr} {len : Nat} {f : Nat → Int} (h : Row w B k a len f) (hb : Below B w w') : Row w' B k a len f :=
  ⟨fun hl => by
    obtain ⟨b, off, ha, hB, hc⟩ := h.cells hl
    exact ⟨b, off, ha, hB, fun i hi => (hb.cell (p := ⟨b, off + i, none⟩) hB).trans (hc i hi)⟩⟩

theorem Row.mono {w : World} {B B' : Nat} {k : IntKind} {a : Option Addr} {len : Nat} {f : Nat → Int} (h : Row w B k a len f) (hB : B ≤ B') : Row w B' k a len f :=
  ⟨fun hl => by
    obtain ⟨b, off, ha, hb, hc⟩ := h.cells hl
    exact ⟨b, off, ha, by omega, hc⟩⟩

theorem Row.congr {w : World} {B : Nat} {k : IntKind} {a : Option Addr} {len : Nat} {f g : Nat → Int} (h : Row w B k a len f) (hfg : ∀ i, i < len → f i = g i) : Row w B k a len g :=
  ⟨fun hl => by
    obtain ⟨b, off, ha, hb, hc⟩ := h.cells hl
    exact ⟨b, off, ha, hb, fun i hi => by rw [hc i hi, hfg i hi]⟩⟩

/-- A row that the call itself has laid, as a 'Row'. -/
theorem Row.of_owns {w : World} {base e : Nat} {k : IntKind} {g cap n : Nat} {xs : List Int} {f : Nat → Int} (h : w.ownsRow base e 1 (.slice (some ⟨g, 0, none⟩) n cap) n (xs.map (Value.int k)))
    (hf : ∀ i, i < n → f i = xs.getD i 0) : Row w w.heap.size k (some ⟨g, 0, none⟩) n f :=
  ⟨fun hl => by
    have hlen : xs.length = n := by have := h.1; simpa using this
    have hc : ∀ i, i < n → w.cell? ⟨g, 0 + i, none⟩ = some (.int k (f i)) := by
      intro i hi
      rw [Nat.zero_add, h.cellAt i (by omega), hf i hi]
      simp [List.getElem?_eq_getElem (show i < xs.length by omega)]
    exact ⟨g, 0, rfl, lt_of_cell (hc 0 hl), hc⟩⟩

theorem cell_set_other {w : World} {g j b o : Nat} {v : Value} (h : b ≠ g) : (w.setCell ⟨g, j, none⟩ v).cell? ⟨b, o, none⟩ = w.cell? ⟨b, o, none⟩ :=
  World.cell?_of_block (Below.heap_setCell w ⟨g, j, none⟩ v b h)
theorem Same.set_at (w : World) (g j : Nat) (v : Value) : Same (· = g) w (w.setCell ⟨g, j, none⟩ v) := (Same.refl (· = g) w).setCell (S := (· = g)) (p := ⟨g, j, none⟩) (fun _ => rfl) v

/-- Block g is a row of n integers of kind k, the i-th is 'f i', none of them frozen. -/
structure Own (w : World) (g n : Nat) (k : IntKind) (t : TypeId) (f : Nat → Int) : Prop where
  arr : ∃ cur : Array Value, w.heap[g]? = some (.cells cur t (0, 0)) ∧ cur.size = n ∧ ∀ i, i < n → cur[i]? = some (.int k (f i))

theorem Own.of_owns {w : World} {base g n : Nat} {k : IntKind} {e : TypeId} {xs : List Value} {f : Nat → Int} (h : w.ownsRow base e 1 (.slice (some ⟨g, 0, none⟩) n n) n xs)
    (hf : ∀ i, i < n → xs[i]? = some (.int k (f i))) : Own w g n k e f := by
  obtain ⟨_, h2⟩ := h
  rcases h2 with ⟨h, _⟩ | ⟨g', cap, cur, hv, _, hh, _, _, hs, ht⟩
  · simp at h
  · simp only [Value.slice.injEq, Option.some.injEq, Addr.mk.injEq, and_true, true_and] at hv
    obtain ⟨rfl, rfl⟩ := hv
    refine ⟨cur, hh, by omega, fun i hi => ?_⟩
    have := hf i hi
    rw [← ht, List.getElem?_take, if_pos (by omega)] at this
    simpa using this

theorem Own.of_made {w : World} {base g n : Nat} {k : IntKind} {e : TypeId} (h : w.ownsRow base e 1 (.slice (some ⟨g, 0, none⟩) n n) n (madeCells (Value.int k 0).cells (n * 1)).toList) : Own w g n k e (fun _ => 0) := by
  refine Own.of_owns h (fun i hi => ?_)
  have e1 : (Value.int k 0).cells = #[.int k 0] := rfl
  rw [e1, toList_madeCells_one]
  simp [hi]

theorem Own.of_made1 {w : World} {base g n : Nat} {k : IntKind} {e : TypeId} (h : w.ownsRow base e 1 (.slice (some ⟨g, 0, none⟩) n n) n (madeCells #[Value.int k 0] n).toList) : Own w g n k e (fun _ => 0) :=
  Own.of_made (by rw [Nat.mul_one]; exact h)

theorem below_made {w w1 : World} (h : w.grownBy w1 none) : Below w.heap.size w w1 := (Below.refl _ _).grown h (Nat.le_refl _) (fun k e => by cases e)

theorem Own.lt {w : World} {g n : Nat} {k : IntKind} {t : TypeId} {f : Nat → Int} (h : Own w g n k t f) : g < w.heap.size := by
  obtain ⟨cur, hh, _⟩ := h.arr
  exact lt_of_block hh

theorem Own.cell {w : World} {g n : Nat} {k : IntKind} {t : TypeId} {f : Nat → Int} (h : Own w g n k t f) {i : Nat} (hi : i < n) : w.cell? ⟨g, i, none⟩ = some (.int k (f i)) := by
  obtain ⟨cur, hh, _, hc⟩ := h.arr
  simp [World.cell?, hh, hc i hi]

theorem Own.free {w : World} {g n : Nat} {k : IntKind} {t : TypeId} {f : Nat → Int} (h : Own w g n k t f) (i : Nat) : w.frozen? ⟨g, i, none⟩ = false := by
  obtain ⟨cur, hh, _, hc⟩ := h.arr
  simp [World.frozen?, hh]

theorem Own.set {w : World} {g n : Nat} {k : IntKind} {t : TypeId} {f : Nat → Int} (h : Own w g n k t f) {j : Nat} (hj : j < n) (v : Int) : Own (w.setCell ⟨g, j, none⟩ (.int k v)) g n k t (fun i => if i = j then v else f i) := by
  obtain ⟨cur, hh, hs, hc⟩ := h.arr
  refine ⟨cur.setIfInBounds j (.int k v), ?_, by simpa using hs, fun i hi => ?_⟩
  · simp [World.setCell, Array.getElem?_modify, hh]
  · rw [Array.getElem?_setIfInBounds]
    by_cases e : j = i
    · subst e; simp [hs, hj]
    · rw [if_neg e, if_neg (fun x => e x.symm)]; exact hc i hi

theorem Own.congr {w : World} {g n : Nat} {k : IntKind} {t : TypeId} {f f' : Nat → Int} (h : Own w g n k t f) (hf : ∀ i, i < n → f i = f' i) : Own w g n k t f' := by
  obtain ⟨cur, hh, hs, hc⟩ := h.arr
  exact ⟨cur, hh, hs, fun i hi => by rw [hc i hi, hf i hi]⟩

theorem Own.keep {w w' : World} {g n : Nat} {k : IntKind} {t : TypeId} {f : Nat → Int} (h : Own w g n k t f) (hb : w'.heap[g]? = w.heap[g]?) : Own w' g n k t f := by
  obtain ⟨cur, hh, hs, hc⟩ := h.arr
  exact ⟨cur, hb.trans hh, hs, hc⟩

theorem Own.row {w : World} {g n : Nat} {k : IntKind} {t : TypeId} {f : Nat → Int} (h : Own w g n k t f) : Row w w.heap.size k (some ⟨g, 0, none⟩) n f :=
  ⟨fun _ => ⟨g, 0, rfl, h.lt, fun i hi => by rw [Nat.zero_add]; exact h.cell hi⟩⟩

/-- One store into a row of the call's own, in a loop. -/
theorem Own.step {w : World} {g n k : Nat} {K : IntKind} {t : TypeId} {f : Nat → Int} (h : Own w g n K t (fun j => if j < k then f j else 0)) (hk : k < n) : Own (w.setCell ⟨g, k, none⟩ (.int K (f k))) g n K t (fun j => if j < k + 1 then f j else 0) :=
  (h.set hk (f k)).congr (fun i hi => by
    by_cases e : i = k
    · subst e; simp
    · by_cases e2 : i < k
      · rw [if_neg e, if_pos e2, if_pos (by omega)]
      · rw [if_neg e, if_neg e2, if_neg (by omega)])
theorem Own.other {w : World} {g n : Nat} {K : IntKind} {t : TypeId} {f : Nat → Int} (h : Own w g n K t f) {a : Addr} (ha : g ≠ a.block) (u : Value) : Own (w.setCell a u) g n K t f := h.keep (Below.heap_setCell w a u g ha)

theorem heap_new (w : World) (o : Obj) : (w.alloc o).heap[w.heap.size]? = some o := by
  show (w.heap.push o)[w.heap.size]? = some o
  rw [Array.getElem?_push, if_pos rfl]

/-- The first k values of a function, as cells. -/
def vals (k : IntKind) (f : Nat → Int) (n : Nat) : List Value := (List.range n).map (fun i => .int k (f i))
theorem vals_succ (k : IntKind) (f : Nat → Int) (n : Nat) : vals k f (n + 1) = vals k f n ++ [.int k (f n)] := by simp [vals, List.range_succ]
theorem vals_length (k : IntKind) (f : Nat → Int) (n : Nat) : (vals k f n).length = n := by simp [vals]
theorem vals_at (k : IntKind) (f : Nat → Int) (n i : Nat) (h : i < n) : (vals k f n)[i]? = some (.int k (f i)) := by simp [vals, h]

theorem vals_oneCell (k : IntKind) (f : Nat → Int) (n : Nat) : ∀ v ∈ vals k f n, v.oneCell' = true := by
  intro v hv
  simp [vals] at hv
  obtain ⟨i, _, rfl⟩ := hv
  simp [Value.oneCell']


/-- copy(dst, src): dst a row of the call's own from its head on, src as it lies: as many cells as the shorter has go over. -/
theorem run_copy_into {P : Program} {w : World} (dT elem : TypeId) (hu : P.underlying dT = some (.slice elem)) (hsz : (P.info? elem).map (·.size) = some 1) (g M dLen dCap sLen sCap : Nat) (sp : Option Addr) (k : IntKind) (t : TypeId) (z c : Nat → Int) (B : Nat)
    (hown : Own w g M k t z) (hd : dLen ≤ M) (hrow : Row w B k sp sLen c) :
    ∃ w2, (∀ ty, (Builtin.copy_ #[dT, dT] ty #[.slice (some ⟨g, 0, none⟩) dLen dCap, .slice sp sLen sCap]).run P w = .ok (goInt ((min sLen dLen : Nat) : Int)) w2) ∧ Own w2 g M k t (fun i => if i < min sLen dLen then c i else z i) ∧ Same (· = g) w w2 := by
  obtain ⟨cur, hh, hsz', hc⟩ := hown.arr
  rcases Nat.eq_zero_or_pos (min sLen dLen) with h0 | h0
  · rw [h0]
    exact ⟨w, fun ty => run_copy_none w dT dT ty elem _ sp dLen dCap sLen sCap hu hsz h0, hown.congr (fun i hi => by simp), Same.refl _ _⟩
  · obtain ⟨b, off, rfl, hB, hcc⟩ := hrow.cells (by omega)
    have hl : (vals k c (min sLen dLen)).length = min sLen dLen := vals_length k c _
    refine ⟨_, fun ty => by
      have hr := run_copy_row (P := P) w dT dT ty elem g 0 dLen dCap ⟨b, off, none⟩ sLen sCap cur t (vals k c (min sLen dLen)) hu hsz hh hl (fun j v hj => ?_) (by rw [hl]; omega) (vals_oneCell k c _)
      · rw [hl] at hr
        exact hr
      · have hjn : j < min sLen dLen := by
          have := (List.getElem?_eq_some_iff.1 hj).1
          rwa [hl] at this
        rw [vals_at k c _ j hjn] at hj
        simp at hj
        subst hj
        rw [add_plain]
        exact hcc j (by omega), ⟨_, setRow_heap w g cur _ t _ hh, ?_, fun i hi => ?_⟩, ?_⟩
    · simp [hl]; omega
    · rw [Nat.zero_add]
      by_cases hi2 : i < min sLen dLen
      · rw [if_pos hi2]
        have hv := vals_at k c _ i hi2
        rw [List.getElem?_toArray, List.take_zero, List.nil_append, List.getElem?_append_left (by omega)]
        exact hv
      · rw [if_neg hi2]
        rw [List.getElem?_toArray, List.take_zero, List.nil_append, List.getElem?_append_right (by omega), List.getElem?_drop, hl, show min sLen dLen + (i - min sLen dLen) = i by omega]
        simpa using hc i hi
    · exact ⟨rfl, rfl, rfl, by simp [World.setRow], fun q hq hne => setRow_other w g q _ hne⟩

end Go.Proofs.Qxb6615636aDoor
