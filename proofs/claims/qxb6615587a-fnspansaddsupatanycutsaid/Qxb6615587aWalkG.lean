/-
  WHERE spans STANDS BETWEEN ITS CALLS (seat b6615587a): the three variables of its own, found, and what is kept.
-/
import Derived.Test.Qxb6615587aWalkF
namespace Go.Proofs.Qxb6615587a
open Go.ChangeShapes Go.WideShapes Go.ChangeAt Go.RowKit
set_option linter.unusedVariables false

/-- A place in the answer of a search: none, or a place below N whose range is well formed. -/
def Okp (f : Nat → Int) (N : Nat) (q : Int) : Prop := q = -1 ∨ ∃ i : Nat, i < N ∧ q = (i : Int) ∧ lo (f i) ≤ hi (f i)

theorem okp_best {f : Nat → Int} {n : Int} {a t N : Nat} (hfit : Fit f a t) (ht : t ≤ N) : Okp f N (bestOf f (hits f n a t)) := by
  rcases bestOf_mem f (hits f n a t) with ⟨_, h⟩ | ⟨i, hi, h⟩
  · exact .inl h
  · obtain ⟨h1, h2, _⟩ := mem_hits hi
    exact .inr ⟨i, by omega, h, (hfit.1 i h1 h2).2⟩

theorem add_any (Lc Lb Lx B X N : Nat) (wa ca ra : Option Addr) (nc : Nat) (f c r : Nat → Int) (cnt h be q : Int) (w : World) (hf : ∀ i, 0 ≤ f i ∧ f i ≤ 4294967295) (hx : Idx w B X wa ca ra N N nc f c r) (hN : N ≤ 65536)
    (hc : w.heap[Lc]? = some (.cells #[.int .i64 cnt] 3 (0, 0))) (hb : w.heap[Lb]? = some (.cells #[.int .i64 be] 3 (0, 0))) (hne : Lc ≠ Lb) (hlx : w.cell? ⟨Lx, 0, none⟩ = some (.pointer (some ⟨X, 0, none⟩))) (x1 : Lx ≠ Lc) (hBc : B ≤ Lc)
    (c0 : 0 ≤ cnt) (c1 : cnt ≤ 65536) (c2 : 0 ≤ h) (c3 : h ≤ 65536) (hbe : Okp f N be) (hq : Okp f N q) :
    Calls Try.prog 18 #[.int .i64 h, .int .i64 q, .pointer (some ⟨Lc, 0, none⟩), .pointer (some ⟨Lb, 0, none⟩), .pointer (some ⟨Lx, 0, none⟩)] w fun e w' => e = .returned (.tuple #[]) ∧ AddPost Lc Lb (cnt + h) (better f be q) w w' := by
  rcases hq with rfl | ⟨j, hj, rfl, hj2⟩
  · rw [better_neg f be (-1) (by omega)]
    exact add_none Lc Lb Lx X cnt be h w hc hb hne c0 c1 c2 c3
  · rcases hbe with rfl | ⟨i, hi, rfl, hi2⟩
    · rw [better_none f (j : Int) (Int.natCast_nonneg j)]
      exact add_first Lc Lb Lx X cnt h j w hc hb hne c0 c1 c2 c3
    · obtain ⟨b, off, rfl, hbB, hwc⟩ := hx.rw.cells (by omega)
      have e : better f (i : Int) (j : Int) = if key (f j) < key (f i) then (j : Int) else (i : Int) := by
        unfold better
        have e1 : (0 : Int) ≤ (j : Int) := Int.natCast_nonneg j
        have e2 : ¬ (i : Int) < 0 := by omega
        simp only [e1, e2, false_or, true_and, Int.toNat_natCast]
      rw [e]
      exact add_two Lc Lb Lx X b off N f cnt h i j w hc hb hne c0 c1 c2 c3 hN hi hj x1 (by have := hx.lt; omega) (by omega) hlx hx.cw (hwc i hi) (hwc j hj) (hf i).1 (hf i).2 hi2 (hf j).1 (hf j).2 hj2

/-- Where spans stands: the variables x, count, best of its own (blocks S, S + 1, S + 2, S the heap's size at the call), what is found so far. -/
structure SpanAt (B : Nat) (fp : Option Nat) (f c : Nat → Int) (base n : Int) (X a p : Nat) (v : Value) (items : List (Int × Int)) (w wr : World) (cnt be : Int) (v' : Value) (its : List (Int × Int)) : Prop where
  box : wr.heap[w.heap.size]? = some (.cells #[.pointer (some ⟨X, 0, none⟩)] 29 (0, 0))
  vcnt : wr.heap[w.heap.size + 1]? = some (.cells #[.int .i64 cnt] 3 (0, 0))
  vbst : wr.heap[w.heap.size + 1 + 1]? = some (.cells #[.int .i64 be] 3 (0, 0))
  inv : FInv B fp wr v' its
  tch : Touch fp w wr v v'
  hcnt : cnt = ((hits f n a p).length : Int)
  hbe : be = bestOf f (hits f n a p)
  hits' : its = items ++ outs f c base (hits f n a p)

/-- A block of a variable is no row of matched. -/
theorem not_tch {B : Nat} {fp : Option Nat} {wr : World} {v' : Value} {its : List (Int × Int)} {k : Nat} {x : Array Value} {t : TypeId} (h : FInv B fp wr v' its) (hk : wr.heap[k]? = some (.cells x t (0, 0))) (ht : t ≠ 64) (hF : ∀ F, fp = some F → F ≠ k) : ¬ Tch fp v' k := by
  intro ht'
  rcases ht' with e | ⟨e0, e⟩
  · exact hF k e rfl
  · cases fp with
    | none => exact e0 rfl
    | some F =>
      obtain ⟨_, h2⟩ := h.2.2
      rcases h2 with ⟨rfl, _⟩ | ⟨g, cap, cur, rfl, _, hh, _⟩
      · simp [Value.ownBlock] at e
      · simp [Value.ownBlock] at e
        subst e
        rw [hh] at hk
        simp at hk
        exact ht hk.2.symm

theorem fp_lt {B : Nat} {fp : Option Nat} {w : World} {v : Value} {items : List (Int × Int)} (h : FInv B fp w v items) : ∀ F, fp = some F → F < w.heap.size := by
  intro F e
  subst e
  exact h.var_lt

/-- Behind a call that appends: the variables are as they were. -/
theorem SpanAt.mid {B : Nat} {fp : Option Nat} {f c : Nat → Int} {base n : Int} {X a p : Nat} {v : Value} {items : List (Int × Int)} {w wr w2 : World} {cnt be : Int} {v' v2 : Value} {its : List (Int × Int)} (h : SpanAt B fp f c base n X a p v items w wr cnt be v' its)
    (h0 : FInv B fp w v items) (ht : Touch fp wr w2 v' v2) :
    w2.heap[w.heap.size]? = some (.cells #[.pointer (some ⟨X, 0, none⟩)] 29 (0, 0)) ∧ w2.heap[w.heap.size + 1]? = some (.cells #[.int .i64 cnt] 3 (0, 0)) ∧ w2.heap[w.heap.size + 1 + 1]? = some (.cells #[.int .i64 be] 3 (0, 0)) := by
  have hF := fp_lt h0
  refine ⟨(ht.same.block _ (lt_of_block h.box) (not_tch h.inv h.box (by decide) (fun F e => by have := hF F e; omega))).trans h.box,
    (ht.same.block _ (lt_of_block h.vcnt) (not_tch h.inv h.vcnt (by decide) (fun F e => by have := hF F e; omega))).trans h.vcnt,
    (ht.same.block _ (lt_of_block h.vbst) (not_tch h.inv h.vbst (by decide) (fun F e => by have := hF F e; omega))).trans h.vbst⟩

/-- .. and behind the closure: one part further. -/
theorem SpanAt.add {B : Nat} {fp : Option Nat} {f c : Nat → Int} {base n : Int} {X a p q : Nat} {v : Value} {items : List (Int × Int)} {w wr w2 w3 : World} {cnt be : Int} {v' v2 : Value} {its : List (Int × Int)} (h : SpanAt B fp f c base n X a p v items w wr cnt be v' its)
    (h0 : FInv B fp w v items) (hpq : a ≤ p ∧ p ≤ q) (hi : FInv B fp w2 v2 (its ++ outs f c base (hits f n p q))) (ht : Touch fp wr w2 v' v2)
    (hadd : AddPost (w.heap.size + 1) (w.heap.size + 1 + 1) (cnt + ((hits f n p q).length : Int)) (better f be (bestOf f (hits f n p q))) w2 w3) :
    SpanAt B fp f c base n X a q v items w w3 (cnt + ((hits f n p q).length : Int)) (better f be (bestOf f (hits f n p q))) v2 (its ++ outs f c base (hits f n p q)) := by
  obtain ⟨m1, m2, m3⟩ := h.mid h0 ht
  obtain ⟨a1, a2, a3⟩ := hadd
  have hF := fp_lt h0
  have hcut := hits_cut f n a p q hpq.1 hpq.2
  refine ⟨?_, a1, a2, ?_, ?_, ?_, ?_, ?_⟩
  · rw [a3.block _ (lt_of_block m1) (by omega)]; exact m1
  · refine hi.keep (fun k hk htk => a3.block k hk (fun e => ?_))
    rcases e with e | e
    · subst e
      exact not_tch hi m2 (by decide) (fun F e => by have := hF F e; omega) htk
    · subst e
      exact not_tch hi m3 (by decide) (fun F e => by have := hF F e; omega) htk
  · refine (h.tch.trans ht).new (a3.below (by have := h.tch.same.size; have := ht.same.size; omega) (fun k hk e => by omega))
  · rw [hcut, h.hcnt]; simp
  · rw [hcut, h.hbe, bestOf_append]
  · rw [hcut, h.hits']; simp [outs]

theorem SpanAt.bounds {B : Nat} {fp : Option Nat} {f c : Nat → Int} {base n : Int} {X a p : Nat} {v : Value} {items : List (Int × Int)} {w wr : World} {cnt be : Int} {v' : Value} {its : List (Int × Int)} (h : SpanAt B fp f c base n X a p v items w wr cnt be v' its) :
    0 ≤ cnt ∧ cnt ≤ (p - a : Nat) ∧ its.length ≤ items.length + (p - a) := by
  have hl := hits_length f n a p
  rw [h.hcnt, h.hits']
  refine ⟨by omega, by omega, ?_⟩
  simp [outs]
  omega

/-- The end. -/
theorem SpanAt.stop {B : Nat} {fp : Option Nat} {f c : Nat → Int} {base n : Int} {X a p t : Nat} {v : Value} {items : List (Int × Int)} {w wr w' : World} {cnt be : Int} {v' : Value} {its : List (Int × Int)} (h : SpanAt B fp f c base n X a p v items w wr cnt be v' its)
    (he : Qxb6615587a.hits f n a t = Qxb6615587a.hits f n a p) (hw : w'.heap = wr.heap) (ho : w'.os = wr.os) (ht : w'.tape = wr.tape) (hu : w'.output = wr.output) : SpanPost B fp f c base n a t v items w (.returned (.tuple #[.int .i64 cnt, .int .i64 be])) w' := by
  have hb : Below wr.heap.size wr w' := ⟨ho, ht, hu, by rw [hw]; exact Nat.le_refl _, fun k _ => by rw [hw]⟩
  unfold SpanPost
  rw [he, ← h.hcnt, ← h.hbe, ← h.hits']
  exact ⟨rfl, v', h.inv.below hb, h.tch.new (hb.mono h.tch.same.size)⟩

/-- The start: three new blocks. -/
theorem SpanAt.start {B : Nat} {fp : Option Nat} {v : Value} {items : List (Int × Int)} {w : World} (f c : Nat → Int) (base n : Int) (X a : Nat) (h : FInv B fp w v items) :
    SpanAt B fp f c base n X a a v items w (((w.alloc (.cells #[.pointer (some ⟨X, 0, none⟩)] 29)).alloc (.cells #[.int .i64 0] 3)).alloc (.cells #[.int .i64 (-1)] 3)) 0 (-1) v items := by
  have hb : Below w.heap.size w (((w.alloc (.cells #[.pointer (some ⟨X, 0, none⟩)] 29)).alloc (.cells #[.int .i64 0] 3)).alloc (.cells #[.int .i64 (-1)] 3)) :=
    (((Below.refl _ _).alloc (Nat.le_refl _) _).alloc (by simp) _).alloc (by simp; omega) _
  have e0 := hits_self f n a
  refine ⟨?_, ?_, ?_, h.below hb, Touch.of_below hb v, by rw [e0]; rfl, by rw [e0]; rfl, by rw [e0]; simp [outs]⟩
  · show (((w.heap.push _).push _).push _)[w.heap.size]? = _
    simp only [Array.getElem?_push, Array.size_push]
    rw [if_neg (by omega), if_neg (by omega), if_pos trivial]
  · show (((w.heap.push _).push _).push _)[w.heap.size + 1]? = _
    simp only [Array.getElem?_push, Array.size_push]
    rw [if_neg (by omega), if_pos trivial]
  · show (((w.heap.push _).push _).push _)[w.heap.size + 1 + 1]? = _
    simp only [Array.getElem?_push, Array.size_push]
    rw [if_pos trivial]

/-- The reach's word at every depth. -/
def RKA (f r : Nat → Int) (a t : Nat) : Prop := ∀ q, RK f r q a t
theorem RK.all {f r : Nat → Int} : ∀ (q2 q a t : Nat), t ≤ a + q → RK f r q a t → RK f r q2 a t := by
  intro q2
  induction q2 with
  | zero => intro q a t _ _; trivial
  | succ q2 ih =>
    intro q a t hq h
    by_cases hs : t ≤ a + 32
    · exact .inl hs
    · cases q with
      | zero => omega
      | succ q =>
        rcases h with h | ⟨h1, h2, h3, h4⟩
        · exact .inl h
        · exact .inr ⟨h1, h2, ih q _ _ (by omega) h3, ih q _ _ (by omega) h4⟩
theorem RKA.of {f r : Nat → Int} {q a t : Nat} (hq : t ≤ a + q) (h : RK f r q a t) : RKA f r a t := fun q2 => RK.all q2 q a t hq h
theorem RKA.part {f r : Nat → Int} {a t : Nat} (h : RKA f r a t) (hs : a + 32 < t) :
    (∀ i, a ≤ i → i < t → hi (f i) ≤ r ((a + t) / 2)) ∧ (0 ≤ r ((a + t) / 2) ∧ r ((a + t) / 2) ≤ 65535) ∧ RKA f r a ((a + t) / 2) ∧ RKA f r ((a + t) / 2 + 1) t := by
  have := fun q => h (q + 1)
  have h' : ∀ q, (∀ i, a ≤ i → i < t → hi (f i) ≤ r ((a + t) / 2)) ∧ (0 ≤ r ((a + t) / 2) ∧ r ((a + t) / 2) ≤ 65535) ∧ RK f r q a ((a + t) / 2) ∧ RK f r q ((a + t) / 2 + 1) t := by
    intro q
    rcases this q with h1 | h1
    · omega
    · exact h1
  exact ⟨(h' 0).1, (h' 0).2.1, fun q => (h' q).2.2.1, fun q => (h' q).2.2.2⟩

end Go.Proofs.Qxb6615587a
