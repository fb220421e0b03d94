/-
  WORDS ON 'found' (*[]matched): what it holds, and what a call that appends to it may touch (seat b6615587a). No dump is imported.
-/
import Derived.Test.Qxb6615587aMem
import Derived.Deep.AppendLies
namespace Go.Proofs.Qxb6615587a
open Go.RowKit

def flat (items : List (Int × Int)) : List Value := items.flatMap (fun p => [.int .u64 p.1, .int .u32 p.2])

theorem flat_append (a b : List (Int × Int)) : flat (a ++ b) = flat a ++ flat b := by simp [flat]
theorem flat_one (s c : Int) : flat [(s, c)] = [.int .u64 s, .int .u32 c] := rfl
theorem flat_length (a : List (Int × Int)) : (flat a).length = a.length * 2 := by
  induction a with
  | nil => rfl
  | cons x l ih =>
    have : flat (x :: l) = .int .u64 x.1 :: .int .u32 x.2 :: flat l := rfl
    rw [this]; simp [ih]; omega
theorem flat_at (a : List (Int × Int)) : ∀ i, i < a.length → (flat a)[2 * i]? = some (.int .u64 (a.getD i (0, 0)).1) ∧ (flat a)[2 * i + 1]? = some (.int .u32 (a.getD i (0, 0)).2) := by
  induction a with
  | nil => intro i h; simp at h
  | cons x l ih =>
    intro i h
    have : flat (x :: l) = .int .u64 x.1 :: .int .u32 x.2 :: flat l := rfl
    rw [this]
    cases i with
    | zero => simp
    | succ i =>
      have e : 2 * (i + 1) = 2 * i + 1 + 1 := by omega
      have := ih i (by simpa using h)
      rw [e]
      simpa using this

/-- The variable F holds the slice v, which owns the items; F and v's array lie from block B on. Where found is nil nothing is said. -/
def FInv (B : Nat) (fp : Option Nat) (w : World) (v : Value) (items : List (Int × Int)) : Prop :=
  match fp with
  | none => True
  | some F => B ≤ F ∧ w.heap[F]? = some (.cells #[v] 62 (0, 0)) ∧ w.ownsRow B 64 2 v items.length (flat items)

/-- What may be touched: the variable, and v's array. -/
def Tch (fp : Option Nat) (v : Value) (k : Nat) : Prop := fp = some k ∨ (fp ≠ none ∧ v.ownBlock = some k)

structure Touch (fp : Option Nat) (w w' : World) (v v' : Value) : Prop where
  same : Same (Tch fp v) w w'
  moves : v'.ownBlock = v.ownBlock ∨ ∀ k, v'.ownBlock = some k → w.heap.size ≤ k

theorem Touch.refl (fp : Option Nat) (w : World) (v : Value) : Touch fp w w v v := ⟨Same.refl _ _, .inl rfl⟩

theorem Touch.trans {fp : Option Nat} {a b c : World} {u v x : Value} (h : Touch fp a b u v) (k : Touch fp b c v x) : Touch fp a c u x := by
  refine ⟨h.same.trans k.same (fun i hi ht => ?_), ?_⟩
  · rcases ht with ht | ⟨h0, ht⟩
    · exact .inl ht
    · rcases h.moves with m | m
      · exact .inr ⟨h0, m ▸ ht⟩
      · have := m i ht; omega
  · rcases k.moves with m | m
    · rcases h.moves with q | q
      · exact .inl (m.trans q)
      · exact .inr (fun i hi => q i (m ▸ hi))
    · exact .inr (fun i hi => Nat.le_trans h.same.size (m i hi))

theorem Touch.drew {fp : Option Nat} {a b : World} {u v : Value} (h : Touch fp a b u v) : Touch fp a b.drew u v := ⟨h.same.drew, h.moves⟩
theorem Touch.drewN {fp : Option Nat} {a b : World} {u v : Value} (h : Touch fp a b u v) (n : Nat) : Touch fp a (b.drewN n) u v := ⟨h.same.drewN n, h.moves⟩
theorem Touch.of_below {fp : Option Nat} {a b : World} (h : Below a.heap.size a b) (v : Value) : Touch fp a b v v := ⟨Same.of_below h, .inl rfl⟩
/-- A step that leaves what was there at the start alone. -/
theorem Touch.new {fp : Option Nat} {a b c : World} {u v : Value} (h : Touch fp a b u v) (k : Below a.heap.size b c) : Touch fp a c u v :=
  ⟨⟨k.os.trans h.same.os, k.tape.trans h.same.tape, k.output.trans h.same.output, Nat.le_trans h.same.size k.size, fun i hi hS => (k.block i hi).trans (h.same.block i hi hS)⟩, h.moves⟩

theorem FInv.own_lt {B F : Nat} {w : World} {v : Value} {items : List (Int × Int)} (h : FInv B (some F) w v items) : ∀ k, v.ownBlock = some k → B ≤ k ∧ k < w.heap.size := h.2.2.lt
theorem FInv.var_lt {B F : Nat} {w : World} {v : Value} {items : List (Int × Int)} (h : FInv B (some F) w v items) : F < w.heap.size := lt_of_block h.2.1
theorem FInv.apart {B F : Nat} {w : World} {v : Value} {items : List (Int × Int)} (h : FInv B (some F) w v items) : v.ownBlock ≠ some F := by
  intro e
  obtain ⟨_, hv, ho⟩ := h
  obtain ⟨_, h2⟩ := ho
  rcases h2 with ⟨rfl, _⟩ | ⟨g, cap, cur, rfl, _, hh, _⟩
  · simp [Value.ownBlock] at e
  · simp [Value.ownBlock] at e
    subst e
    rw [hh] at hv
    simp at hv

theorem Touch.below {B : Nat} {fp : Option Nat} {w w' : World} {v v' : Value} {items : List (Int × Int)} (h : Touch fp w w' v v') (hf : FInv B fp w v items) (hB : B ≤ w.heap.size) : Below B w w' := by
  refine h.same.below hB (fun k hk ht => ?_)
  rcases ht with ht | ⟨h0, ht⟩
  · subst ht
    have := hf.1
    omega
  · cases fp with
    | none => exact h0 rfl
    | some F => have := hf.own_lt k ht; omega

/-- What found holds stays while other blocks are written or made. -/
theorem FInv.keep {B : Nat} {fp : Option Nat} {w w' : World} {v : Value} {items : List (Int × Int)} (h : FInv B fp w v items) (hk : ∀ k, k < w.heap.size → Tch fp v k → w'.heap[k]? = w.heap[k]?) : FInv B fp w' v items := by
  cases fp with
  | none => trivial
  | some F =>
    refine ⟨h.1, (hk F h.var_lt (.inl rfl)).trans h.2.1, ?_⟩
    obtain ⟨h1, h2⟩ := h.2.2
    refine ⟨h1, ?_⟩
    rcases h2 with h2 | ⟨g, cap, cur, hv, hg, hh, r⟩
    · exact .inl h2
    · exact .inr ⟨g, cap, cur, hv, hg, (hk g (lt_of_block hh) (.inr ⟨by simp, by rw [hv]; rfl⟩)).trans hh, r⟩

theorem FInv.below {B : Nat} {fp : Option Nat} {w w' : World} {v : Value} {items : List (Int × Int)} (h : FInv B fp w v items) (hb : Below w.heap.size w w') : FInv B fp w' v items := h.keep (fun k hk _ => hb.block k hk)

/-- ONE APPEND: the new element's block, the append, the store into the variable; draws anywhere. -/
theorem found_step {B F g cap : Nat} {w wa w1 w2 : World} {v : Value} {items : List (Int × Int)} {s c : Int} (h : FInv B (some F) w v items) (hwa : Below w.heap.size w wa) (hsz : wa.heap.size = w.heap.size + 1)
    (hown : w1.ownsRow B 64 2 (.slice (some ⟨g, 0, none⟩) (items.length + 1) cap) (items.length + 1) (flat items ++ [.int .u64 s, .int .u32 c])) (hgrow : wa.grownBy w1 v.ownBlock) (hat : v.ownBlock = some g ∨ g = w.heap.size + 1)
    (hw2 : w2.heap = (w1.setCell ⟨F, 0, none⟩ (.slice (some ⟨g, 0, none⟩) (items.length + 1) cap)).heap) (ho : w2.os = w1.os) (ht : w2.tape = w1.tape) (hu : w2.output = w1.output) :
    FInv B (some F) w2 (.slice (some ⟨g, 0, none⟩) (items.length + 1) cap) (items ++ [(s, c)]) ∧ Touch (some F) w w2 v (.slice (some ⟨g, 0, none⟩) (items.length + 1) cap) := by
  have hF := h.var_lt
  have hFne : v.ownBlock ≠ some F := h.apart
  have hgF : g ≠ F := by
    intro e
    subst e
    rcases hat with e | e
    · exact hFne e
    · omega
  have hFa : wa.heap[F]? = some (.cells #[v] 62 (0, 0)) := (hwa.block F hF).trans h.2.1
  have hF1 : w1.heap[F]? = some (.cells #[v] 62 (0, 0)) := (hgrow.block F (by omega) (Ne.symm hFne)).trans hFa
  refine ⟨⟨h.1, ?_, ?_⟩, ⟨?_, ?_⟩⟩
  · rw [hw2]; exact one_setCell hF1
  · have ho1 := ownsRow_setCell_other hown (a := ⟨F, 0, none⟩) (by simp [Value.ownBlock]; exact hgF) (.slice (some ⟨g, 0, none⟩) (items.length + 1) cap)
    obtain ⟨q1, q2⟩ := ho1
    have el : (items ++ [(s, c)]).length = items.length + 1 := by simp
    rw [el, flat_append, flat_one]
    refine ⟨q1, ?_⟩
    rw [hw2]
    exact q2
  · refine ⟨ho.trans (hgrow.os.trans hwa.os), ht.trans (hgrow.tape.trans hwa.tape), hu.trans (hgrow.output.trans hwa.output), ?_, fun k hk hS => ?_⟩
    · rw [hw2, World.size_setCell]; have := hgrow.size; omega
    · rw [hw2, Below.heap_setCell _ _ _ _ (fun e => hS (.inl (by rw [e]))), hgrow.block k (by omega) (fun e => hS (.inr ⟨by simp, e.symm⟩)), hwa.block k hk]
  · rcases hat with e | e
    · left; rw [e]; rfl
    · right
      intro k hk
      simp [Value.ownBlock] at hk
      omega

theorem wrap_sum (a k : Nat) (h : a + k ≤ 1000000) : IntKind.i64.wrap ((a : Int) + (k : Int)) = (a : Int) + (k : Int) := by
  rw [IntKind.wrap_i64]; omega
theorem toNat_sum (a k : Nat) : ((a : Int) + (k : Int)).toNat = a + k := by omega
theorem wrap_u64_key {x : Int} (h0 : 0 ≤ x) (h1 : x < 4294967295) : IntKind.u64.wrap x = x := by
  rw [IntKind.wrap_u64]; omega

theorem FInv.shape {B F : Nat} {w : World} {v : Value} {items : List (Int × Int)} (h : FInv B (some F) w v items) : ∃ ao n cap, v = .slice ao n cap := by
  obtain ⟨_, h2⟩ := h.2.2
  rcases h2 with ⟨rfl, _⟩ | ⟨g, cap, cur, rfl, _⟩
  · exact ⟨_, _, _, rfl⟩
  · exact ⟨_, _, _, rfl⟩

end Go.Proofs.Qxb6615587a
