/-
  WHAT HOLDS AT THE HEAD OF THE SCRIPT's LOOP (seat b6615636aD).
-/
import Derived.Test.Qxb6615636aDoorWalkF
namespace Go.Proofs.Qxb6615636aDoor
open Go.ChangeShapes Go.WideShapes Go.ChangeAt Go.RowKit
set_option linter.unusedVariables false

theorem Own.len_eq {w : World} {g n n' : Nat} {k k' : IntKind} {t t' : TypeId} {f f' : Nat → Int} (h : Own w g n k t f) (h' : Own w g n' k' t' f') : n = n' := by
  obtain ⟨c, hh, hs, _⟩ := h.arr
  obtain ⟨c', hh', hs', _⟩ := h'.arr
  rw [hh] at hh'
  cases hh'
  omega

/-- One of the buffers: no bytes, or an array of the call's own. -/
def BufIn (w : World) (Q R : Nat) (a : Option Addr) (n : Nat) (z : Nat → Int) : Prop := n = 0 ∨ ∃ P, a = some ⟨P, 0, none⟩ ∧ Q < P ∧ P < R ∧ Own w P n .u8 5 z

structure Inv3 (w wr : World) (B D Q R nb len left pos : Nat) (st : Bool) (da v : Option Addr) (g : Nat → Int) (m : Nat → Nat) (a0 a1 : Addr) : Prop where
  bel : Below B w wr
  sent : Sent wr B a0 a1
  ord : B ≤ Q ∧ Q ≤ R ∧ R + 1 < wr.heap.size
  data : len = 0 ∨ (da = some ⟨D, 0, none⟩ ∧ B ≤ D ∧ D < Q ∧ Own wr D len .u8 5 g)
  bufs : nb = 0 ∨ (v = some ⟨Q, 0, none⟩ ∧ Q < R ∧ ∃ V, OwnV wr Q nb 22 V ∧ ∀ j, j < nb → ∃ a z, V j = .slice a (m j) (m j) ∧ BufIn wr Q R a (m j) z)
  txt : Txt wr (R + 1) R da len left pos st a1

theorem Inv3.step {w wr w2 : World} {B D Q R nb len left pos pos2 : Nat} {st st2 : Bool} {da v : Option Addr} {g : Nat → Int} {m : Nat → Nat} {a0 a1 : Addr} (h : Inv3 w wr B D Q R nb len left pos st da v g m a0 a1) {S : Nat → Prop} (hs : Same S wr w2)
    (hk : ∀ k, S k → k = R ∨ k = R + 1 ∨ (Q < k ∧ k < R ∧ ∀ n z, Own wr k n .u8 5 z → ∃ z', Own w2 k n .u8 5 z')) (ht : Txt w2 (R + 1) R da len left pos2 st2 a1) : Inv3 w w2 B D Q R nb len left pos2 st2 da v g m a0 a1 := by
  obtain ⟨o1, o2, o3⟩ := h.ord
  have hB : Below B wr w2 := hs.below (by omega) (fun k hk1 hS => by rcases hk k hS with e | e | ⟨e, _⟩ <;> omega)
  refine ⟨h.bel.trans hB, h.sent.below hB, ⟨o1, o2, by have := hs.size; omega⟩, ?_, ?_, ht⟩
  · rcases h.data with e | ⟨e1, e2, e3, e4⟩
    · exact .inl e
    · exact .inr ⟨e1, e2, e3, e4.keep (hs.block D (by omega) (fun hS => by rcases hk D hS with e | e | ⟨e, _⟩ <;> omega))⟩
  · rcases h.bufs with e | ⟨e1, e2, V, hV, hd⟩
    · exact .inl e
    · refine .inr ⟨e1, e2, V, hV.keep (hs.block Q (by omega) (fun hS => by rcases hk Q hS with e | e | ⟨e, _⟩ <;> omega)), fun j hj => ?_⟩
      obtain ⟨a, z, ha, hb⟩ := hd j hj
      rcases hb with hb | ⟨P, rfl, hP1, hP2, ho⟩
      · exact ⟨a, z, ha, .inl hb⟩
      · by_cases hS : S P
        · rcases hk P hS with e | e | ⟨_, _, e⟩
          · omega
          · omega
          · obtain ⟨z', hz'⟩ := e _ _ ho
            exact ⟨_, z', ha, .inr ⟨P, rfl, hP1, hP2, hz'⟩⟩
        · exact ⟨_, z, ha, .inr ⟨P, rfl, hP1, hP2, ho.keep (hs.block P (by omega) hS)⟩⟩

theorem Inv3.below {w wr w2 : World} {B D Q R nb len left pos : Nat} {st : Bool} {da v : Option Addr} {g : Nat → Int} {m : Nat → Nat} {a0 a1 : Addr} (h : Inv3 w wr B D Q R nb len left pos st da v g m a0 a1) (hs : Below wr.heap.size wr w2) : Inv3 w w2 B D Q R nb len left pos st da v g m a0 a1 :=
  h.step (S := fun _ => False) (Same.of_below hs) (fun k e => e.elim) (h.txt.keep (hs.block _ h.ord.2.2) (hs.block _ (by have := h.ord.2.2; omega)))

theorem Inv3.still {w wr w2 : World} {B D Q R nb len left pos : Nat} {st : Bool} {da v : Option Addr} {g : Nat → Int} {m : Nat → Nat} {a0 a1 : Addr} (h : Inv3 w wr B D Q R nb len left pos st da v g m a0 a1) (hs : Still wr w2) : Inv3 w w2 B D Q R nb len left pos st da v g m a0 a1 := h.below (hs.below _)

theorem BufIn.row {w : World} {Q R : Nat} {a : Option Addr} {n : Nat} {z : Nat → Int} (h : BufIn w Q R a n z) : Row w w.heap.size .u8 a n z :=
  ⟨fun hl => by
    rcases h with h | ⟨P, rfl, _, _, ho⟩
    · omega
    · exact ho.row.cells hl⟩
theorem BufIn.nil {w : World} {Q R : Nat} {a : Option Addr} {n : Nat} {z : Nat → Int} (h : BufIn w Q R a n z) : a = none → n = 0 ∧ n = 0 := by
  intro e
  rcases h with h | ⟨P, rfl, _⟩
  · exact ⟨h, h⟩
  · simp at e
theorem BufIn.below {w w' : World} {Q R : Nat} {a : Option Addr} {n : Nat} {z : Nat → Int} (h : BufIn w Q R a n z) (hb : Below w.heap.size w w') : BufIn w' Q R a n z := by
  rcases h with h | ⟨P, rfl, h1, h2, ho⟩
  · exact .inl h
  · exact .inr ⟨P, rfl, h1, h2, ho.keep (hb.block P ho.lt)⟩

/-- The state at the loop's first head. -/
theorem Inv3.start {w w1 w2 : World} {nb len left : Nat} {da v : Option Addr} {g : Nat → Int} {m : Nat → Nat} {f : Nat → Nat → Int} {a0 a1 : Addr} (hs : Sent w w.heap.size a0 a1) (hd : Buf w1 w.heap.size da len g) (hb1 : Below w.heap.size w w1) (hv : nb = 0 ∨ v = some ⟨w1.heap.size, 0, none⟩ ∧ Done w2 w1.heap.size nb nb m f) (hb2 : Below w1.heap.size w1 w2) :
    ∃ D, Inv3 w ((w2.alloc (.cells #[.slice da len len, .int .i64 0, .int .i64 (-1)] 52 (0, 0))).alloc (.cells #[.iface 39 (.pointer (some ⟨w2.heap.size, 0, none⟩)), .int .i64 (left : Int), .nilIface] 46 (0, 0))) w.heap.size D w1.heap.size w2.heap.size nb len left 0 false da v g m a0 a1 := by
  have h1 := hb1.size
  have h2 := hb2.size
  obtain ⟨D, hD⟩ : ∃ D, len = 0 ∨ (da = some ⟨D, 0, none⟩ ∧ w.heap.size ≤ D ∧ D < w1.heap.size ∧ Own w1 D len .u8 5 g) := by
    rcases hd with e | ⟨D, e1, e2, e3⟩
    · exact ⟨0, .inl e⟩
    · exact ⟨D, .inr ⟨e1, e2, e3.lt, e3⟩⟩
  have hB : Below w2.heap.size w2 ((w2.alloc (.cells #[.slice da len len, .int .i64 0, .int .i64 (-1)] 52 (0, 0))).alloc (.cells #[.iface 39 (.pointer (some ⟨w2.heap.size, 0, none⟩)), .int .i64 (left : Int), .nilIface] 46 (0, 0))) := by
    refine ⟨rfl, rfl, rfl, by simp [World.size_alloc]; omega, fun k hk => ?_⟩
    rw [Below.heap_alloc _ _ _ (by rw [World.size_alloc]; omega), Below.heap_alloc _ _ _ hk]
  have hR : ((w2.alloc (.cells #[.slice da len len, .int .i64 0, .int .i64 (-1)] 52 (0, 0))).alloc (.cells #[.iface 39 (.pointer (some ⟨w2.heap.size, 0, none⟩)), .int .i64 (left : Int), .nilIface] 46 (0, 0))).heap[w2.heap.size]? = some (.cells #[.slice da len len, .int .i64 0, .int .i64 (-1)] 52 (0, 0)) := by
    rw [Below.heap_alloc _ _ _ (by rw [World.size_alloc]; omega)]
    exact heap_new w2 _
  have hT : ((w2.alloc (.cells #[.slice da len len, .int .i64 0, .int .i64 (-1)] 52 (0, 0))).alloc (.cells #[.iface 39 (.pointer (some ⟨w2.heap.size, 0, none⟩)), .int .i64 (left : Int), .nilIface] 46 (0, 0))).heap[w2.heap.size + 1]? = some (.cells #[.iface 39 (.pointer (some ⟨w2.heap.size, 0, none⟩)), .int .i64 (left : Int), .nilIface] 46 (0, 0)) := by
    have := heap_new (w2.alloc (.cells #[.slice da len len, .int .i64 0, .int .i64 (-1)] 52 (0, 0))) (.cells #[.iface 39 (.pointer (some ⟨w2.heap.size, 0, none⟩)), .int .i64 (left : Int), .nilIface] 46 (0, 0))
    rwa [World.size_alloc] at this
  have hsz : ((w2.alloc (.cells #[.slice da len len, .int .i64 0, .int .i64 (-1)] 52 (0, 0))).alloc (.cells #[.iface 39 (.pointer (some ⟨w2.heap.size, 0, none⟩)), .int .i64 (left : Int), .nilIface] 46 (0, 0))).heap.size = w2.heap.size + 1 + 1 := by simp [World.size_alloc]
  generalize ((w2.alloc (.cells #[.slice da len len, .int .i64 0, .int .i64 (-1)] 52 (0, 0))).alloc (.cells #[.iface 39 (.pointer (some ⟨w2.heap.size, 0, none⟩)), .int .i64 (left : Int), .nilIface] 46 (0, 0))) = w3 at *
  have hb3 : Below w.heap.size w w3 := (hb1.trans (hb2.mono h1)).trans (hB.mono (by omega))
  refine ⟨D, hb3, hs.below hb3, ⟨h1, h2, by omega⟩, ?_, ?_, ⟨fun _ => ⟨by simpa [TextAt] using hT, -1, hR⟩, fun e => by cases e⟩⟩
  · rcases hD with e | ⟨e1, e2, e3, e4⟩
    · exact .inl e
    · exact .inr ⟨e1, e2, e3, e4.keep ((hB.block D (by omega)).trans (hb2.block D e3))⟩
  · rcases hv with e | ⟨e, V, hV, hd⟩
    · exact .inl e
    · refine .inr ⟨e, hV.lt, V, hV.keep (hB.block _ hV.lt), fun j hj => ?_⟩
      obtain ⟨a, ha, hb⟩ := hd j hj
      refine ⟨a, f j, ha, ?_⟩
      rcases hb with hb | ⟨P, rfl, hP, ho⟩
      · exact .inl hb
      · exact .inr ⟨P, rfl, by omega, ho.lt, ho.keep (hB.block P ho.lt)⟩
/-- The two buffers of a round behind a read: the one read into, and the copy of what it held. -/
structure Pair (w : World) (ap vb : Option Addr) (n : Nat) (y z : Nat → Int) : Prop where
  cells : 0 < n → ∃ P b, ap = some ⟨P, 0, none⟩ ∧ vb = some ⟨b, 0, none⟩ ∧ (∀ i, i < n → w.cell? ⟨P, i, none⟩ = some (.int .u8 (y i))) ∧ ∀ i, i < n → w.cell? ⟨b, i, none⟩ = some (.int .u8 (z i))
theorem Pair.still {w w' : World} {ap vb : Option Addr} {n : Nat} {y z : Nat → Int} (h : Pair w ap vb n y z) (hs : Still w w') : Pair w' ap vb n y z :=
  ⟨fun h0 => by
    obtain ⟨P, b, e1, e2, c1, c2⟩ := h.cells h0
    exact ⟨P, b, e1, e2, fun i hi => (hs.cell _).trans (c1 i hi), fun i hi => (hs.cell _).trans (c2 i hi)⟩⟩
theorem Pair.rows {w : World} {ap vb : Option Addr} {n : Nat} {y z : Nat → Int} (h : Pair w ap vb n y z) : (∃ B, Row w B .u8 ap n y) ∧ ∃ C, Row w C .u8 vb n z :=
  ⟨⟨w.heap.size, ⟨fun h0 => by
    obtain ⟨P, b, e1, e2, c1, c2⟩ := h.cells h0
    exact ⟨P, 0, e1, lt_of_cell (c1 0 h0), fun i hi => by rw [Nat.zero_add]; exact c1 i hi⟩⟩⟩, w.heap.size, ⟨fun h0 => by
    obtain ⟨P, b, e1, e2, c1, c2⟩ := h.cells h0
    exact ⟨b, 0, e2, lt_of_cell (c2 0 h0), fun i hi => by rw [Nat.zero_add]; exact c2 i hi⟩⟩⟩
theorem pair_of {w1 w2 : World} {Q R N : Nat} {ap vb : Option Addr} {n : Nat} {y z : Nat → Int} {S : Nat → Prop} (hp : BufIn w1 Q R ap n z) (hv : Buf w1 N vb n z) (hN : R + 1 < N) (hs : Same S w1 w2) (hS : ∀ k, S k → k ≤ R + 1) (ho : ∀ P, ap = some ⟨P, 0, none⟩ → 0 < n → Own w2 P n .u8 5 y) : Pair w2 ap vb n y z := by
  refine ⟨fun h0 => ?_⟩
  rcases hp with e | ⟨P, rfl, _, _, hP⟩
  · omega
  rcases hv with e | ⟨b, rfl, hb, hB⟩
  · omega
  refine ⟨P, b, rfl, rfl, fun i hi => (ho P rfl h0).cell hi, fun i hi => ?_⟩
  rw [hs.cell (p := ⟨b, i, none⟩) hB.lt (fun e => by have := hS _ e; simp at this; omega)]
  exact hB.cell hi
theorem BufIn.own {w1 w2 : World} {Q R : Nat} {ap : Option Addr} {n : Nat} {z : Nat → Int} {S : Nat → Prop} (hp : BufIn w1 Q R ap n z) (hs : Same S w1 w2) (hS : ∀ k, S k → ¬ (Q < k ∧ k < R)) : ∀ P, ap = some ⟨P, 0, none⟩ → 0 < n → Own w2 P n .u8 5 z := by
  intro P e h0
  rcases hp with h | ⟨P', rfl, h1, h2, hP⟩
  · omega
  · cases e
    exact hP.keep (hs.block P hP.lt (fun e => hS P e ⟨h1, h2⟩))
end Go.Proofs.Qxb6615636aDoor
