/-
  WHERE FnSpansAgreesWithLinearScan STANDS IN HER TWO LOOPS (seat b6615587a): her own rows.
-/
import Derived.Test.Qxb6615587aWalkK
namespace Go.Proofs.Qxb6615587a
open Go.ChangeShapes Go.WideShapes Go.ChangeAt Go.RowKit
set_option linter.unusedVariables false

/-- What ZZspans gives, found used or not. -/
def ZAny (uf : Bool) (f c : Nat → Int) (base n : Int) (a t : Nat) (items : List (Int × Int)) (w : World) (e : Ending) (w' : World) : Prop :=
  ∃ v1 v2, e = .returned (.tuple #[.int .i64 ((hits f n a t).length : Int), .int .i64 (bestOf f (hits f n a t)), v1, v2]) ∧ Below w.heap.size w w' ∧ (uf = false → v1 = .slice none 0 0 ∧ v2 = .slice none 0 0) ∧
    (uf = true → ∃ ga gd T, w.heap.size ≤ ga ∧ w.heap.size ≤ gd ∧ T = (items ++ outs f c base (hits f n a t)).length ∧ v1 = .slice (some ⟨ga, 0, none⟩) T T ∧ v2 = .slice (some ⟨gd, 0, none⟩) T T ∧
      Own w' ga T .u64 23 (fun i => ((items ++ outs f c base (hits f n a t)).getD i (0, 0)).1) ∧ Own w' gd T .u32 34 (fun i => ((items ++ outs f c base (hits f n a t)).getD i (0, 0)).2))

theorem zspans_any (uf : Bool) (X N : Nat) (wa ca ra : Option Addr) (nc np b1 o1 c1 b2 o2 c2 : Nat) (f c r s d : Nat → Int) (base n : Int) (a t : Nat) (w : World) (hf : ∀ i, 0 ≤ f i ∧ f i ≤ 4294967295) (hN : N ≤ 65536) (hnc : nc ≤ 65536) (hnp : np ≤ 65536)
    (hx : Idx w w.heap.size X wa ca ra N N nc f c r) (hat : a ≤ t) (htN : t ≤ N) (htc : t ≤ nc) (hfit : Fit f a t) (hrk : RKA f r a t) (hb1 : b1 < w.heap.size) (hb2 : b2 < w.heap.size) (hs : ∀ i, i < np → w.cell? ⟨b1, o1 + i, none⟩ = some (.int .u64 (s i))) (hd : ∀ i, i < np → w.cell? ⟨b2, o2 + i, none⟩ = some (.int .u32 (d i))) :
    Calls Try.prog 10 #[.pointer (some ⟨X, 0, none⟩), .int .i64 a, .int .i64 t, .int .i64 n, .bool uf, .slice (some ⟨b1, o1, none⟩) np c1, .slice (some ⟨b2, o2, none⟩) np c2, .int .u64 base] w fun e w' => ZAny uf f c base n a t ((List.range np).map (fun i => (s i, d i))) w e w' := by
  cases uf with
  | false =>
    refine (zspans_nil X N wa ca ra _ _ nc np c1 np c2 f c r base n a t w hf hN hnc hx hat htN htc hfit hrk).mono fun e w' ⟨he, hb⟩ => ?_
    exact ⟨_, _, he, hb, fun _ => ⟨rfl, rfl⟩, fun h => by simp at h⟩
  | true =>
    refine (zspans_some X N wa ca ra nc np b1 o1 c1 b2 o2 c2 f c r s d base n a t w hf hN hnc hnp hx hat htN htc hfit hrk hb1 hb2 hs hd).mono fun e w' ⟨ga, gd, T, q1, q2, q3, he, p1, p2, hb⟩ => ?_
    exact ⟨_, _, he, hb, fun h => by simp at h, fun _ => ⟨ga, gd, T, q1, q2, q3, rfl, rfl, p1, p2⟩⟩

theorem Own.grown {w w' : World} {g n : Nat} {K : IntKind} {t : TypeId} {f : Nat → Int} {row : Option Nat} (h : Own w g n K t f) (hg : w.grownBy w' row) (hne : some g ≠ row) : Own w' g n K t f := h.keep (hg.block g h.lt hne)
theorem Own.alloc {w : World} {g n : Nat} {K : IntKind} {t : TypeId} {f : Nat → Int} (h : Own w g n K t f) (o : Obj) : Own (w.alloc o) g n K t f := h.keep (Below.heap_alloc w o g h.lt)

theorem cell_new_at (w : World) (x : Value) (t : TypeId) (H : Nat) (h : w.heap.size = H) : ∀ j u, [x][j]? = some u → (w.alloc (.cells #[x] t)).cell? ((⟨H, 0, none⟩ : Addr).add j) = some u := by
  subst h
  exact cell_one_new w x t

/-- HER FIRST LOOP, k rounds gone: the prior rows (blocks A, B) and the wanted ones (blocks C, D). -/
structure Pri (w : World) (A B C D np k : Nat) (s d : Nat → Int) : Prop where
  a : Own w A np .u64 23 (fun j => if j < k then s j else 0)
  b : Own w B np .u32 34 (fun j => if j < k then d j else 0)
  c : w.ownsRow 0 23 1 (.slice (some ⟨C, 0, none⟩) k np) k (vals .u64 s k)
  d : w.ownsRow 0 34 1 (.slice (some ⟨D, 0, none⟩) k np) k (vals .u32 d k)

theorem Pri.c2 {w : World} {A B C D np k : Nat} {s d : Nat → Int} (h : Pri w A B C D np k s d) (h1 : A ≠ C) (h2 : B ≠ C) (x y : Value) :
    ((w.setCell ⟨A, k, none⟩ x).setCell ⟨B, k, none⟩ y).ownsRow 0 23 1 (.slice (some ⟨C, 0, none⟩) k np) k (vals .u64 s k) :=
  ownsRow_setCell_other (ownsRow_setCell_other h.c (by simp [Value.ownBlock]; omega) x) (by simp [Value.ownBlock]; omega) y

theorem Pri.d2 {w w1 : World} {A B C D np k : Nat} {s d : Nat → Int} {o : Obj} (h : Pri w A B C D np k s d) (h1 : A ≠ D) (h2 : B ≠ D) (h3 : C ≠ D) {x y : Value} (hg : (((w.setCell ⟨A, k, none⟩ x).setCell ⟨B, k, none⟩ y).alloc o).grownBy w1 (some C)) :
    w1.ownsRow 0 34 1 (.slice (some ⟨D, 0, none⟩) k np) k (vals .u32 d k) :=
  ((ownsRow_setCell_other (ownsRow_setCell_other h.d (by simp [Value.ownBlock]; omega) x) (by simp [Value.ownBlock]; omega) y).alloc o).kept hg (.inr (by simp [Value.ownBlock]; omega))

theorem Pri.step {w w1 w2 : World} {A B C D np k : Nat} {s d : Nat → Int} {o1 o2 : Obj} (h : Pri w A B C D np k s d) (hk : k < np) (hAB : A < B) (hBC : B < C) (hCD : C < D)
    (hg1 : (((w.setCell ⟨A, k, none⟩ (.int .u64 (s k))).setCell ⟨B, k, none⟩ (.int .u32 (d k))).alloc o1).grownBy w1 (some C)) (hc : w1.ownsRow 0 23 1 (.slice (some ⟨C, 0, none⟩) (k + 1) np) (k + 1) (vals .u64 s k ++ [.int .u64 (s k)]))
    (hg2 : (w1.alloc o2).grownBy w2 (some D)) (hd : w2.ownsRow 0 34 1 (.slice (some ⟨D, 0, none⟩) (k + 1) np) (k + 1) (vals .u32 d k ++ [.int .u32 (d k)])) : Pri w2 A B C D np (k + 1) s d := by
  refine ⟨?_, ?_, ?_, by rw [vals_succ]; exact hd⟩
  · exact (((((h.a.step hk).other (a := ⟨B, k, none⟩) (by simp; omega) _).alloc o1).grown hg1 (by simp; omega)).alloc o2).grown hg2 (by simp; omega)
  · exact (((((h.b.other (a := ⟨A, k, none⟩) (by simp; omega) _).step hk).alloc o1).grown hg1 (by simp; omega)).alloc o2).grown hg2 (by simp; omega)
  · rw [vals_succ]
    exact (hc.alloc o2).kept hg2 (.inr (by simp [Value.ownBlock]; omega))

theorem Pri.below {w0 w w1 w2 : World} {A B C D k E : Nat} {x y : Value} {o1 o2 : Obj} (hb : Below E w0 w) (hE : E ≤ w.heap.size) (hA : E ≤ A) (hB : E ≤ B) (hC : E ≤ C) (hD : E ≤ D)
    (hg1 : (((w.setCell ⟨A, k, none⟩ x).setCell ⟨B, k, none⟩ y).alloc o1).grownBy w1 (some C)) (hg2 : (w1.alloc o2).grownBy w2 (some D)) : Below E w0 w2 := by
  have h1 := (((hb.setCell (p := ⟨A, k, none⟩) hA x).setCell (p := ⟨B, k, none⟩) hB y).alloc (by simp; omega) o1).grown hg1 (by simp; omega) (fun q e => by simp at e; omega)
  have hs := hg1.size
  simp at hs
  exact (h1.alloc (by omega) o2).grown hg2 (by simp; omega) (fun q e => by simp at e; omega)

theorem Pri.start {w3 w4 w5 w6 w7 : World} {np : Nat} {s d : Nat → Int} (o4 : Own w4 w3.heap.size np .u64 23 (fun _ => 0)) (o5 : Own w5 w4.heap.size np .u32 34 (fun _ => 0)) (b5 : w4.grownBy w5 none) (b6 : w5.grownBy w6 none) (b7 : w6.grownBy w7 none)
    (o6 : w6.ownsRow 0 23 1 (.slice (some ⟨w5.heap.size, 0, none⟩) 0 np) 0 []) (o7 : w7.ownsRow 0 34 1 (.slice (some ⟨w6.heap.size, 0, none⟩) 0 np) 0 []) :
    Pri w7 w3.heap.size w4.heap.size w5.heap.size w6.heap.size np 0 s d :=
  ⟨(((o4.grown b5 (by simp)).grown b6 (by simp)).grown b7 (by simp)).congr (fun i _ => by simp), ((o5.grown b6 (by simp)).grown b7 (by simp)).congr (fun i _ => by simp), o6.kept b7 (.inr (by simp [Value.ownBlock])), o7⟩

/-- The key that her scan keeps beside its best place. -/
def lkey (f : Nat → Int) (b : Int) : Int := if b < 0 then 0 else key (f b.toNat)
/-- Where her scan stands. -/
def LS (f : Nat → Int) (n : Int) (a k : Nat) (hs : List Nat) (L : Nat) (be bk : Int) : Prop := hs = hits f n a k ∧ L = hs.length ∧ be = bestOf f hs ∧ bk = lkey f be

theorem LS.start (f : Nat → Int) (n : Int) (a : Nat) : LS f n a a [] 0 (-1) 0 := ⟨(hits_self f n a).symm, rfl, rfl, rfl⟩
theorem LS.miss {f : Nat → Int} {n : Int} {a k : Nat} {hs : List Nat} {L : Nat} {be bk : Int} (h : LS f n a k hs L be bk) (hak : a ≤ k) (hm : hit f n k = false) : LS f n a (k + 1) hs L be bk := by
  obtain ⟨h1, h2, h3, h4⟩ := h
  refine ⟨?_, h2, h3, h4⟩
  rw [hits_succ f n a k hak, hm, ← h1]
  simp
theorem LS.hit {f : Nat → Int} {n : Int} {a k : Nat} {hs : List Nat} {L : Nat} {be bk : Int} (h : LS f n a k hs L be bk) (hak : a ≤ k) (hm : hit f n k = true) (be' : Int) (hbe : be' = if be < 0 ∨ key (f k) < bk then (k : Int) else be) : LS f n a (k + 1) (hs ++ [k]) (L + 1) be' (lkey f be') := by
  obtain ⟨h1, h2, h3, h4⟩ := h
  refine ⟨?_, by simp [h2], ?_, rfl⟩
  · rw [hits_succ f n a k hak, hm, ← h1]
    simp
  · rw [bestOf_snoc, ← h3, hbe, h4]
    unfold better lkey
    have e : (0 : Int) ≤ (k : Int) := Int.natCast_nonneg k
    by_cases hb : be < 0
    · simp [hb]
    · simp only [hb, e, false_or, if_false, true_and, Int.toNat_natCast]
theorem LS.bounds {f : Nat → Int} {n : Int} {a k : Nat} {hs : List Nat} {L : Nat} {be bk : Int} (h : LS f n a k hs L be bk) : hs.length = L ∧ L ≤ k - a ∧ -1 ≤ be := by
  obtain ⟨h1, h2, h3, h4⟩ := h
  refine ⟨h2.symm, ?_, by rw [h3]; exact bestOf_ge f _⟩
  rw [h2, h1]
  exact hits_length f n a k
theorem lkey_nat (f : Nat → Int) (k : Nat) : lkey f ((k : Nat) : Int) = key (f k) := by
  unfold lkey
  rw [if_neg (by omega), Int.toNat_natCast]

/-- HER SECOND LOOP: the wanted rows, wherever they lie by now. -/
structure Scan (f c : Nat → Int) (base n : Int) (a k : Nat) (np : Nat) (s d : Nat → Int) (C D : Nat) (w0 w : World) (hs1 hs2 : List Nat) (v1 v2 : Value) : Prop where
  o1 : w.ownsRow 0 23 1 v1 (np + hs1.length) (vals .u64 s np ++ hs1.map (fun i => .int .u64 (bits .or .u64 base (key (f i)))))
  o2 : w.ownsRow 0 34 1 v2 (np + hs2.length) (vals .u32 d np ++ hs2.map (fun i => .int .u32 (c i)))
  m1 : v1.ownBlock = some C ∨ ∀ q, v1.ownBlock = some q → w0.heap.size ≤ q
  m2 : v2.ownBlock = some D ∨ ∀ q, v2.ownBlock = some q → w0.heap.size ≤ q
  same : Same (fun q => q = C ∨ q = D) w0 w

theorem Scan.apart {f c : Nat → Int} {base n : Int} {a k np : Nat} {s d : Nat → Int} {C D : Nat} {w0 w : World} {hs1 hs2 : List Nat} {v1 v2 : Value} (h : Scan f c base n a k np s d C D w0 w hs1 hs2 v1 v2) : ∀ q, v1.ownBlock = some q → v2.ownBlock ≠ some q := by
  intro q e1 e2
  have h1 := h.o1.2
  have h2 := h.o2.2
  rcases h1 with ⟨rfl, _⟩ | ⟨g, cap, cur, rfl, _, hh, _⟩
  · simp [Value.ownBlock] at e1
  · rcases h2 with ⟨rfl, _⟩ | ⟨g', cap', cur', rfl, _, hh', _⟩
    · simp [Value.ownBlock] at e2
    · simp [Value.ownBlock] at e1 e2
      subst e1
      subst e2
      rw [hh] at hh'
      simp at hh'

theorem ownsRow_lt {w : World} {e : TypeId} {v : Value} {n : Nat} {xs : List Value} (h : w.ownsRow 0 e 1 v n xs) : ∀ k, v.ownBlock = some k → k < w.heap.size := fun k e => (h.lt k e).2

/-- One append to the first of the wanted rows. -/
theorem Scan.app1 {f c : Nat → Int} {base n : Int} {a k np g cap : Nat} {s d : Nat → Int} {C D : Nat} {w0 w w1 : World} {hs1 hs2 : List Nat} {v1 v2 : Value} {o : Obj} {i : Nat} (h : Scan f c base n a k np s d C D w0 w hs1 hs2 v1 v2)
    (hown : w1.ownsRow 0 23 1 (.slice (some ⟨g, 0, none⟩) (np + hs1.length + 1) cap) (np + hs1.length + 1) (vals .u64 s np ++ (hs1.map (fun i => .int .u64 (bits .or .u64 base (key (f i)))) ++ [.int .u64 (bits .or .u64 base (key (f i)))])))
    (hgrow : (w.alloc o).grownBy w1 v1.ownBlock) (hat : v1.ownBlock = some g ∨ g = w.heap.size + 1) :
    Scan f c base n a k np s d C D w0 w1 (hs1 ++ [i]) hs2 (.slice (some ⟨g, 0, none⟩) (np + hs1.length + 1) cap) v2 := by
  have hsz := h.same.size
  refine ⟨?_, ?_, ?_, h.m2, ?_⟩
  · have e : np + (hs1 ++ [i]).length = np + hs1.length + 1 := by simp; omega
    rw [e, List.map_append]
    exact hown
  · refine (h.o2.alloc o).kept hgrow ?_
    by_cases e : v2.ownBlock = none
    · exact .inl e
    · right
      intro e2
      cases hv : v2.ownBlock with
      | none => exact e hv
      | some q => exact h.apart q (e2 ▸ hv) hv
  · rcases hat with e | e
    · rcases h.m1 with m | m
      · left; simp [Value.ownBlock]; rw [e] at m; simpa using m
      · right; intro q hq; simp [Value.ownBlock] at hq; subst hq; exact m g e
    · right; intro q hq; simp [Value.ownBlock] at hq; omega
  · refine ⟨hgrow.os.trans h.same.os, hgrow.tape.trans h.same.tape, hgrow.output.trans h.same.output, by have := hgrow.size; simp at this; omega, fun q hq hS => ?_⟩
    have hne : some q ≠ v1.ownBlock := by
      intro e
      rcases h.m1 with m | m
      · rw [m] at e; simp at e; exact hS (.inl e)
      · have := m q e.symm; omega
    rw [hgrow.block q (by simp; omega) hne, Below.heap_alloc _ _ _ (by omega)]
    exact h.same.block q hq hS

/-- One append to the second. -/
theorem Scan.app2 {f c : Nat → Int} {base n : Int} {a k np g cap : Nat} {s d : Nat → Int} {C D : Nat} {w0 w w1 : World} {hs1 hs2 : List Nat} {v1 v2 : Value} {o : Obj} {i : Nat} (h : Scan f c base n a k np s d C D w0 w hs1 hs2 v1 v2)
    (hown : w1.ownsRow 0 34 1 (.slice (some ⟨g, 0, none⟩) (np + hs2.length + 1) cap) (np + hs2.length + 1) (vals .u32 d np ++ (hs2.map (fun i => .int .u32 (c i)) ++ [.int .u32 (c i)])))
    (hgrow : (w.alloc o).grownBy w1 v2.ownBlock) (hat : v2.ownBlock = some g ∨ g = w.heap.size + 1) :
    Scan f c base n a k np s d C D w0 w1 hs1 (hs2 ++ [i]) v1 (.slice (some ⟨g, 0, none⟩) (np + hs2.length + 1) cap) := by
  have hsz := h.same.size
  refine ⟨?_, ?_, h.m1, ?_, ?_⟩
  · refine (h.o1.alloc o).kept hgrow ?_
    by_cases e : v1.ownBlock = none
    · exact .inl e
    · right
      intro e2
      cases hv : v1.ownBlock with
      | none => exact e hv
      | some q => exact h.apart q hv (e2 ▸ hv)
  · have e : np + (hs2 ++ [i]).length = np + hs2.length + 1 := by simp; omega
    rw [e, List.map_append]
    exact hown
  · rcases hat with e | e
    · rcases h.m2 with m | m
      · left; simp [Value.ownBlock]; rw [e] at m; simpa using m
      · right; intro q hq; simp [Value.ownBlock] at hq; subst hq; exact m g e
    · right; intro q hq; simp [Value.ownBlock] at hq; omega
  · refine ⟨hgrow.os.trans h.same.os, hgrow.tape.trans h.same.tape, hgrow.output.trans h.same.output, by have := hgrow.size; simp at this; omega, fun q hq hS => ?_⟩
    have hne : some q ≠ v2.ownBlock := by
      intro e
      rcases h.m2 with m | m
      · rw [m] at e; simp at e; exact hS (.inr e)
      · have := m q e.symm; omega
    rw [hgrow.block q (by simp; omega) hne, Below.heap_alloc _ _ _ (by omega)]
    exact h.same.block q hq hS

/-- An owned row of integers out of a list of pairs, as a 'Row'. -/
theorem row_of_owns {w : World} {e : TypeId} {v : Value} {n : Nat} {k : IntKind} {tot : List (Int × Int)} {φ : Int × Int → Int} (h : w.ownsRow 0 e 1 v n (tot.map (fun p => .int k (φ p)))) : ∃ ao cap, v = .slice ao n cap ∧ Row w w.heap.size k ao n (fun i => φ (tot.getD i (0, 0))) := by
  have hl : tot.length = n := by have := h.1; simpa using this
  rcases h.2 with ⟨rfl, rfl⟩ | ⟨g, cap, cur, rfl, _, hh, _⟩
  · exact ⟨none, 0, rfl, ⟨fun h => by omega⟩⟩
  · refine ⟨_, cap, rfl, ⟨fun h0 => ⟨g, 0, rfl, lt_of_block hh, fun i hi => ?_⟩⟩⟩
    rw [Nat.zero_add, h.cellAt i (by omega)]
    have hi' : i < tot.length := by omega
    simp [hi']

theorem vals_items (k : IntKind) (s d : Nat → Int) (n : Nat) : vals .u64 s n = ((List.range n).map (fun i => (s i, d i))).map (fun p => .int .u64 p.1) ∧ vals .u32 d n = ((List.range n).map (fun i => (s i, d i))).map (fun p => .int .u32 p.2) := by
  simp [vals]

theorem Scan.row1 {f c : Nat → Int} {base n : Int} {a k np : Nat} {s d : Nat → Int} {C D : Nat} {w0 w : World} {hs1 hs2 : List Nat} {v1 v2 : Value} (h : Scan f c base n a k np s d C D w0 w hs1 hs2 v1 v2) :
    ∃ ao cap, v1 = .slice ao (np + hs1.length) cap ∧ Row w w.heap.size .u64 ao (np + hs1.length) (fun i => (((List.range np).map (fun i => (s i, d i)) ++ outs f c base hs1).getD i (0, 0)).1) := by
  refine row_of_owns (e := 23) (φ := Prod.fst) ?_
  have := h.o1
  rw [(vals_items .u64 s d np).1] at this
  rw [List.map_append]
  have e : (outs f c base hs1).map (fun p => Value.int .u64 p.1) = hs1.map (fun i => .int .u64 (bits .or .u64 base (key (f i)))) := by simp [outs]
  rw [e]
  exact this
theorem Scan.row2 {f c : Nat → Int} {base n : Int} {a k np : Nat} {s d : Nat → Int} {C D : Nat} {w0 w : World} {hs1 hs2 : List Nat} {v1 v2 : Value} (h : Scan f c base n a k np s d C D w0 w hs1 hs2 v1 v2) :
    ∃ ao cap, v2 = .slice ao (np + hs2.length) cap ∧ Row w w.heap.size .u32 ao (np + hs2.length) (fun i => (((List.range np).map (fun i => (s i, d i)) ++ outs f c base hs2).getD i (0, 0)).2) := by
  refine row_of_owns (e := 34) (φ := Prod.snd) ?_
  have := h.o2
  rw [(vals_items .u32 s d np).2] at this
  rw [List.map_append]
  have e : (outs f c base hs2).map (fun p => Value.int .u32 p.2) = hs2.map (fun i => .int .u32 (c i)) := by simp [outs]
  rw [e]
  exact this

theorem grown_of_below {w w' : World} (h : Below w.heap.size w w') : w.grownBy w' none := ⟨h.os, h.tape, h.output, h.size, fun k hk _ => h.block k hk⟩

theorem Scan.start {w8 w9 : World} {A B C D np : Nat} {s d : Nat → Int} (f c : Nat → Int) (base n : Int) (a : Nat) (h : Pri w8 A B C D np np s d) (hb : Below w8.heap.size w8 w9) :
    Scan f c base n a a np s d C D w9 w9 [] [] (.slice (some ⟨C, 0, none⟩) np np) (.slice (some ⟨D, 0, none⟩) np np) :=
  ⟨by simpa using h.c.kept (grown_of_below hb) (.inr (by simp [Value.ownBlock])), by simpa using h.d.kept (grown_of_below hb) (.inr (by simp [Value.ownBlock])), .inl rfl, .inl rfl, Same.refl _ _⟩

theorem Scan.again {f c : Nat → Int} {base n : Int} {a k k' np : Nat} {s d : Nat → Int} {C D : Nat} {w0 w : World} {hs1 hs2 : List Nat} {v1 v2 : Value} (h : Scan f c base n a k np s d C D w0 w hs1 hs2 v1 v2) : Scan f c base n a k' np s d C D w0 w hs1 hs2 v1 v2 := ⟨h.o1, h.o2, h.m1, h.m2, h.same⟩

theorem Own.same {S : Nat → Prop} {w w' : World} {g n : Nat} {K : IntKind} {t : TypeId} {f : Nat → Int} (h : Own w g n K t f) (hs : Same S w w') (hg : ¬ S g) : Own w' g n K t f := h.keep (hs.block g h.lt hg)

end Go.Proofs.Qxb6615587a
