/-
  THE PLAIN MATHEMATICS of the seat b6615587a: no Go in sight. Ranges packed in one number (start: the low 16 bits; end: the high ones), those that hold n, the best of them, and what the reach of a tree of ranges must say.
-/
namespace Go.Proofs.Qxb6615587a

def lo (r : Int) : Int := r % 65536
def hi (r : Int) : Int := r / 65536
def key (r : Int) : Int := (hi r - lo r) * 65536 + (65535 - lo r)

/-- The domain of a subnet's ranges: starts from 1 on, no end below its start, sorted by start. -/
def Fit (f : Nat → Int) (a b : Nat) : Prop :=
  (∀ i, a ≤ i → i < b → 1 ≤ lo (f i) ∧ lo (f i) ≤ hi (f i)) ∧ (∀ i, a < i → i < b → lo (f (i - 1)) ≤ lo (f i))

theorem Fit.sub {f : Nat → Int} {a b a' b' : Nat} (h : Fit f a b) (ha : a ≤ a') (hb : b' ≤ b) : Fit f a' b' :=
  ⟨fun i h1 h2 => h.1 i (by omega) (by omega), fun i h1 h2 => h.2 i (by omega) (by omega)⟩

theorem Fit.mono {f : Nat → Int} {a b : Nat} (h : Fit f a b) (i : Nat) (hi1 : a ≤ i) : ∀ d, i + d < b → lo (f i) ≤ lo (f (i + d)) := by
  intro d
  induction d with
  | zero => intro _; simp
  | succ d ih =>
    intro hd
    have h1 := ih (by omega)
    have h2 := h.2 (i + (d + 1)) (by omega) (by omega)
    have e : i + (d + 1) - 1 = i + d := by omega
    rw [e] at h2
    omega

theorem Fit.le {f : Nat → Int} {a b : Nat} (h : Fit f a b) {i j : Nat} (hi1 : a ≤ i) (hij : i ≤ j) (hj : j < b) : lo (f i) ≤ lo (f j) := by
  have := h.mono i hi1 (j - i) (by omega)
  have e : i + (j - i) = j := by omega
  rw [e] at this
  exact this

theorem key_bounds {r : Int} (h0 : 0 ≤ r) (h1 : r ≤ 4294967295) (h2 : 1 ≤ lo r) (h3 : lo r ≤ hi r) : 0 ≤ key r ∧ key r < 4294967295 := by
  unfold key; unfold lo hi at *; omega

def hit (f : Nat → Int) (n : Int) (i : Nat) : Bool := decide (lo (f i) ≤ n) && decide (n ≤ hi (f i))

/-- The places from a up to b, b not among them, whose ranges hold n. -/
def hits (f : Nat → Int) (n : Int) (a b : Nat) : List Nat := (List.range' a (b - a)).filter (hit f n)

theorem hits_length (f : Nat → Int) (n : Int) (a b : Nat) : (hits f n a b).length ≤ b - a := by
  unfold hits
  have := List.length_filter_le (hit f n) (List.range' a (b - a))
  simpa using this

theorem hits_cut (f : Nat → Int) (n : Int) (a c b : Nat) (h1 : a ≤ c) (h2 : c ≤ b) : hits f n a b = hits f n a c ++ hits f n c b := by
  unfold hits
  rw [← List.filter_append]
  congr 1
  have e : b - a = (c - a) + (b - c) := by omega
  rw [e, ← List.range'_append_1]
  congr 2
  omega

theorem hits_nil (f : Nat → Int) (n : Int) (a b : Nat) (h : ∀ i, a ≤ i → i < b → hit f n i = false) : hits f n a b = [] := by
  unfold hits
  rw [List.filter_eq_nil_iff]
  intro i hi
  rw [List.mem_range'_1] at hi
  simp [h i hi.1 (by omega)]

theorem hits_self (f : Nat → Int) (n : Int) (a : Nat) : hits f n a a = [] := hits_nil f n a a (fun i h1 h2 => by omega)

theorem hits_one (f : Nat → Int) (n : Int) (a : Nat) : hits f n a (a + 1) = if hit f n a then [a] else [] := by
  unfold hits
  have e : a + 1 - a = 1 := by omega
  rw [e]
  simp [List.range', List.filter]
  cases hit f n a <;> simp

theorem hits_succ (f : Nat → Int) (n : Int) (a b : Nat) (h : a ≤ b) : hits f n a (b + 1) = hits f n a b ++ if hit f n b then [b] else [] := by
  rw [hits_cut f n a b (b + 1) h (by omega), hits_one]

theorem mem_hits {f : Nat → Int} {n : Int} {a b i : Nat} (h : i ∈ hits f n a b) : a ≤ i ∧ i < b ∧ hit f n i = true := by
  unfold hits at h
  rw [List.mem_filter, List.mem_range'_1] at h
  exact ⟨h.1.1, by omega, h.2⟩

/-- Of two places (-1: none) the better one: the second only where its key is smaller. -/
def better (f : Nat → Int) (b x : Int) : Int := if 0 ≤ x ∧ (b < 0 ∨ key (f x.toNat) < key (f b.toNat)) then x else b

def bestOf (f : Nat → Int) (l : List Nat) : Int := l.foldl (fun (b : Int) (i : Nat) => better f b (i : Int)) (-1)

theorem better_neg (f : Nat → Int) (b x : Int) (h : x < 0) : better f b x = b := by unfold better; rw [if_neg (by omega)]
theorem better_none (f : Nat → Int) (x : Int) (h : 0 ≤ x) : better f (-1) x = x := by unfold better; rw [if_pos (by omega)]
theorem better_none' (f : Nat → Int) (x : Int) (h : -1 ≤ x) : better f (-1) x = x := by
  unfold better
  split <;> omega

theorem better_assoc (f : Nat → Int) (a b c : Int) (_ha : -1 ≤ a) (_hb : -1 ≤ b) (_hc : -1 ≤ c) : better f (better f a b) c = better f a (better f b c) := by
  unfold better
  by_cases h1 : 0 ≤ b <;> by_cases h2 : 0 ≤ c <;> by_cases h3 : a < 0 <;> by_cases h4 : b < 0 <;> by_cases h5 : key (f b.toNat) < key (f a.toNat) <;> by_cases h6 : key (f c.toNat) < key (f b.toNat) <;>
    by_cases h7 : key (f c.toNat) < key (f a.toNat) <;> simp [h1, h2, h3, h4, h5, h6, h7] <;> omega

theorem better_ge (f : Nat → Int) (b x : Int) (h : -1 ≤ b) : -1 ≤ better f b x := by
  unfold better
  split <;> omega

theorem fold_better (f : Nat → Int) (l : List Nat) : ∀ b : Int, -1 ≤ b → l.foldl (fun (b : Int) (i : Nat) => better f b (i : Int)) b = better f b (bestOf f l) := by
  induction l with
  | nil => intro b _; simp [bestOf, better]
  | cons x l ih =>
    intro b hb
    have e1 : bestOf f (x :: l) = better f (x : Int) (bestOf f l) := by
      unfold bestOf
      rw [List.foldl_cons, better_none f (x : Int) (by omega)]
      exact ih _ (by omega)
    have hge : -1 ≤ bestOf f l := by
      by_cases hl : l = []
      · subst hl; simp [bestOf]
      · have := ih (-1) (by omega)
        unfold bestOf
        rw [this]
        exact better_ge f _ _ (by omega)
    rw [List.foldl_cons, ih _ (better_ge f _ _ hb), e1, better_assoc f _ _ _ hb (by omega) hge]

theorem bestOf_append (f : Nat → Int) (l m : List Nat) : bestOf f (l ++ m) = better f (bestOf f l) (bestOf f m) := by
  have hge : -1 ≤ bestOf f l := by
    unfold bestOf
    rw [fold_better f l (-1) (by omega)]
    exact better_ge f _ _ (by omega)
  rw [← fold_better f m _ hge]
  unfold bestOf
  rw [List.foldl_append]

theorem bestOf_nil (f : Nat → Int) : bestOf f [] = -1 := rfl
theorem bestOf_ge (f : Nat → Int) (l : List Nat) : -1 ≤ bestOf f l := by
  unfold bestOf
  rw [fold_better f l (-1) (by omega)]
  exact better_ge f _ _ (by omega)
theorem bestOf_snoc (f : Nat → Int) (l : List Nat) (i : Nat) : bestOf f (l ++ [i]) = better f (bestOf f l) (i : Int) := by
  rw [bestOf_append]
  congr 1

theorem bestOf_mem (f : Nat → Int) (l : List Nat) : (l = [] ∧ bestOf f l = -1) ∨ ∃ i ∈ l, bestOf f l = (i : Int) := by
  induction l with
  | nil => exact .inl ⟨rfl, rfl⟩
  | cons x l ih =>
    right
    have e : bestOf f (x :: l) = better f (x : Int) (bestOf f l) := by
      have := bestOf_append f [x] l
      have e1 : bestOf f [x] = (x : Int) := better_none f (x : Int) (Int.natCast_nonneg x)
      rw [e1] at this
      exact this
    rcases ih with ⟨_, h⟩ | ⟨i, hi, h⟩
    · exact ⟨x, by simp, by rw [e, h, better_neg f _ _ (by omega)]⟩
    · rw [e, h]
      unfold better
      split
      · exact ⟨i, by simp [hi], rfl⟩
      · exact ⟨x, by simp, rfl⟩

/-- WHAT THE REACH MUST SAY: the root of each part longer than 32 holds no less than every end in its part. 'm': how deep is looked. -/
def RK (f r : Nat → Int) : Nat → Nat → Nat → Prop
  | 0, _, _ => True
  | m + 1, a, b => b ≤ a + 32 ∨ ((∀ i, a ≤ i → i < b → hi (f i) ≤ r ((a + b) / 2)) ∧ (0 ≤ r ((a + b) / 2) ∧ r ((a + b) / 2) ≤ 65535) ∧ RK f r m a ((a + b) / 2) ∧ RK f r m ((a + b) / 2 + 1) b)

theorem RK.congr {f r r' : Nat → Int} : ∀ (m a b : Nat), (∀ i, a ≤ i → i < b → r i = r' i) → RK f r m a b → RK f r' m a b := by
  intro m
  induction m with
  | zero => intro a b _ _; trivial
  | succ m ih =>
    intro a b hr h
    rcases h with h | ⟨h1, h2, h3, h4⟩
    · exact .inl h
    · by_cases hs : b ≤ a + 32
      · exact .inl hs
      · right
        have e := hr ((a + b) / 2) (by omega) (by omega)
        rw [← e]
        exact ⟨h1, h2, ih _ _ (fun i x y => hr i (by omega) (by omega)) h3, ih _ _ (fun i x y => hr i (by omega) (by omega)) h4⟩

/-- A part none of whose ends comes up to n holds no range that holds n. -/
theorem hits_low {f : Nat → Int} {n R : Int} {a b : Nat} (h : ∀ i, a ≤ i → i < b → hi (f i) ≤ R) (hn : R < n) : hits f n a b = [] :=
  hits_nil f n a b (fun i x y => by
    have := h i x y
    unfold hit
    have e : decide (n ≤ hi (f i)) = false := by simp; omega
    rw [e]
    simp)

/-- A part whose first start lies beyond n holds none either. -/
theorem hits_high {f : Nat → Int} {n : Int} {a b c : Nat} (h : Fit f c b) (hc : c ≤ a) (hn : n < lo (f a)) : hits f n a b = [] :=
  hits_nil f n a b (fun i x y => by
    have := h.le hc x y
    unfold hit
    have e : decide (lo (f i) ≤ n) = false := by simp; omega
    rw [e]
    simp)

theorem hit_lo {f : Nat → Int} {n : Int} {i : Nat} (h : n < lo (f i)) : hit f n i = false := by
  have e : decide (lo (f i) ≤ n) = false := by simp; omega
  unfold hit
  rw [e]
  simp
theorem hit_hi {f : Nat → Int} {n : Int} {i : Nat} (h : hi (f i) < n) : hit f n i = false := by
  have e : decide (n ≤ hi (f i)) = false := by simp; omega
  unfold hit
  rw [e]
  simp
theorem hit_yes {f : Nat → Int} {n : Int} {i : Nat} (h : lo (f i) ≤ n) (h' : n ≤ hi (f i)) : hit f n i = true := by
  simp [hit, h, h']

end Go.Proofs.Qxb6615587a
