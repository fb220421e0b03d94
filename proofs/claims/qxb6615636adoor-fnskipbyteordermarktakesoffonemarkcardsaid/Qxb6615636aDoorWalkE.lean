/-
  THE WALKS of bytes.NewReader, ZZnewLimitedText and ZZread (seat b6615636aD).
-/
import Derived.Test.Qxb6615636aDoorWalkD
namespace Go.Proofs.Qxb6615636aDoor
open Go.ChangeShapes Go.WideShapes Go.ChangeAt Go.RowKit
set_option linter.unusedVariables false

theorem newReader (a : Option Addr) (n c : Nat) (w : World) : Calls Tryd.prog 17 #[.slice a n c] w fun e w' => e = .returned (.pointer (some ⟨w.heap.size, 0, none⟩)) ∧ w' = w.alloc (.cells #[.slice a n c, .int .i64 0, .int .i64 (-1)] 52 (0, 0)) := by
  go_enter Tryd.func17, Tryd.ntmps17
  go_wp2
  go_ret
  exact ⟨rfl, rfl⟩

theorem newText (a : Option Addr) (n c : Nat) (L : Int) (w : World) : Calls Tryd.prog 9 #[.slice a n c, .int .i64 L] w fun e w' => e = .returned (.pointer (some ⟨w.heap.size + 1, 0, none⟩)) ∧
    w' = (w.alloc (.cells #[.slice a n c, .int .i64 0, .int .i64 (-1)] 52 (0, 0))).alloc (.cells #[.iface 39 (.pointer (some ⟨w.heap.size, 0, none⟩)), .int .i64 L, .nilIface] 46 (0, 0)) := by
  go_enter Tryd.func9, Tryd.ntmps9
  go_wp2_with fail
  refine (newReader a n c w).mono ?_
  rintro e w1 ⟨rfl, rfl⟩
  go_wp2_with fail
  go_ret
  exact ⟨by simp, rfl⟩

/-- How an error answers the three questions. -/
def Asks (err : Value) (w : World) (a0 a1 : Addr) (ok eof past : Bool) : Prop :=
  (binOp .eql 44 err .nilIface).run Tryd.prog w = .ok (.bool ok) w ∧ (binOp .eql 44 err (.iface 63 (.pointer (some a0)))).run Tryd.prog w = .ok (.bool eof) w ∧ (binOp .eql 44 err (.iface 63 (.pointer (some a1)))).run Tryd.prog w = .ok (.bool past) w

theorem run_eql_iface_nil_right {P : Program} {w : World} {ti : TypeId} {ms : Array (String × TypeId)} (tp : TypeId) (v : Value) (hi : P.underlying ti = some (.interface ms)) :
    (binOp .eql ti (.iface tp v) .nilIface).run P w = .ok (.bool false) w := by
  have h : ∀ d : Nat, (Op.equalIn (d + 1) ti (.iface tp v) .nilIface).run P w = .ok false w := fun d => by simp [Op.equalIn, run_underlying hi]
  simp only [binOp]
  simp [Op.equal, Op.maxDepth, h 9999]
theorem run_eql_nil_nil {P : Program} {w : World} {ti : TypeId} {ms : Array (String × TypeId)} (hi : P.underlying ti = some (.interface ms)) :
    (binOp .eql ti .nilIface .nilIface).run P w = .ok (.bool true) w := by
  have h : ∀ d : Nat, (Op.equalIn (d + 1) ti .nilIface .nilIface).run P w = .ok true w := fun d => by simp [Op.equalIn, run_underlying hi]
  simp only [binOp]
  simp [Op.equal, Op.maxDepth, h 9999]

theorem asks_nil {w : World} (a0 a1 : Addr) : Asks .nilIface w a0 a1 true false false :=
  ⟨run_eql_nil_nil Tryd.underlying44, run_eql_iface_nil_left _ _ _ Tryd.underlying44, run_eql_iface_nil_left _ _ _ Tryd.underlying44⟩
theorem asks_eof {w : World} {B : Nat} {a0 a1 : Addr} (h : Sent w B a0 a1) : Asks (.iface 63 (.pointer (some a0))) w a0 a1 false true false := by
  obtain ⟨i, hi, hc⟩ := Tryd.info63
  obtain ⟨j, hj, hs⟩ := Tryd.info82
  obtain ⟨c0, t0, b0⟩ := h.b0
  obtain ⟨c1, t1, b1⟩ := h.b1
  exact ⟨run_eql_iface_nil_right _ _ Tryd.underlying44, run_eql_iface_ptr_same _ a0 Tryd.underlying44 Tryd.underlying63 hi hc hj, run_eql_iface_ptr_other _ Tryd.underlying44 Tryd.underlying63 hi hc hj hs h.ne b0 b1⟩
theorem asks_past {w : World} {B : Nat} {a0 a1 : Addr} (h : Sent w B a0 a1) : Asks (.iface 63 (.pointer (some a1))) w a0 a1 false false true := by
  obtain ⟨i, hi, hc⟩ := Tryd.info63
  obtain ⟨j, hj, hs⟩ := Tryd.info82
  obtain ⟨c0, t0, b0⟩ := h.b0
  obtain ⟨c1, t1, b1⟩ := h.b1
  exact ⟨run_eql_iface_nil_right _ _ Tryd.underlying44, run_eql_iface_ptr_other _ Tryd.underlying44 Tryd.underlying63 hi hc hj hs h.ne.symm b1 b0, run_eql_iface_ptr_same _ a1 Tryd.underlying44 Tryd.underlying63 hi hc hj⟩

theorem zz_of_nil (t p : Value) (n : Int) (eof past : Bool) (B : Nat) (a0 a1 : Addr) (Post : World → Prop) (w : World) (hc : Calls Tryd.prog 18 #[t, p] w fun e w' => e = .returned (.tuple #[.int .i64 n, (Value.nilIface)]) ∧ Post w')
    (hs : ∀ w', Post w' → Sent w' B a0 a1) (ha : ∀ w', Sent w' B a0 a1 → Asks (Value.nilIface) w' a0 a1 true eof past) :
    Calls Tryd.prog 10 #[t, p] w fun e w' => e = .returned (.tuple #[.int .i64 n, .bool true, .bool eof, .bool past]) ∧ ∃ w1, Post w1 ∧ Still w1 w' := by
  have HC : Hid _ := hc
  have HS : Hid _ := hs
  have HA : Hid _ := ha
  clear hc hs ha
  go_enter Tryd.func10, Tryd.ntmps10
  go_wp2_with fail
  refine Calls.mono HC.out ?_
  rintro e w1 ⟨rfl, hp⟩
  have hs1 := HS.out w1 hp
  have q1 := fun n => (HA.out (w1.drewN n) (hs1.below ((Still.drewN w1 n).below B))).1
  have q2 := fun n => (HA.out (w1.drewN n) (hs1.below ((Still.drewN w1 n).below B))).2.1
  have q3 := fun n => (HA.out (w1.drewN n) (hs1.below ((Still.drewN w1 n).below B))).2.2
  have e0 := hs1.e0
  have e1 := hs1.e1
  have HP : Hid _ := hp
  clear hp hs1
  go_wp2_with fail
  go_quiet (fail)
  go_wp2_with fail
  refine bodyPost_ret (v := .tuple #[.int .i64 n, .bool true, .bool eof, .bool past]) (by simp [results, Tryd.results10, go_sem]) rfl ?_
  exact ⟨rfl, w1, HP.out, rfl, rfl, rfl, rfl⟩
theorem zz_of_ptr (t p : Value) (n : Int) (a : Addr) (eof past : Bool) (B : Nat) (a0 a1 : Addr) (Post : World → Prop) (w : World) (hc : Calls Tryd.prog 18 #[t, p] w fun e w' => e = .returned (.tuple #[.int .i64 n, (Value.iface 63 (.pointer (some a)))]) ∧ Post w')
    (hs : ∀ w', Post w' → Sent w' B a0 a1) (ha : ∀ w', Sent w' B a0 a1 → Asks (Value.iface 63 (.pointer (some a))) w' a0 a1 false eof past) :
    Calls Tryd.prog 10 #[t, p] w fun e w' => e = .returned (.tuple #[.int .i64 n, .bool false, .bool eof, .bool past]) ∧ ∃ w1, Post w1 ∧ Still w1 w' := by
  have HC : Hid _ := hc
  have HS : Hid _ := hs
  have HA : Hid _ := ha
  clear hc hs ha
  go_enter Tryd.func10, Tryd.ntmps10
  go_wp2_with fail
  refine Calls.mono HC.out ?_
  rintro e w1 ⟨rfl, hp⟩
  have hs1 := HS.out w1 hp
  have q1 := fun n => (HA.out (w1.drewN n) (hs1.below ((Still.drewN w1 n).below B))).1
  have q2 := fun n => (HA.out (w1.drewN n) (hs1.below ((Still.drewN w1 n).below B))).2.1
  have q3 := fun n => (HA.out (w1.drewN n) (hs1.below ((Still.drewN w1 n).below B))).2.2
  have e0 := hs1.e0
  have e1 := hs1.e1
  have HP : Hid _ := hp
  clear hp hs1
  go_wp2_with fail
  go_quiet (fail)
  go_wp2_with fail
  refine bodyPost_ret (v := .tuple #[.int .i64 n, .bool false, .bool eof, .bool past]) (by simp [results, Tryd.results10, go_sem]) rfl ?_
  exact ⟨rfl, w1, HP.out, rfl, rfl, rfl, rfl⟩

theorem Still.blk {a b : World} (h : Still a b) (k : Nat) : b.heap[k]? = a.heap[k]? := by rw [h.heap]
theorem Still.same {a b : World} (h : Still a b) (S : Nat → Prop) : Same S a b := Same.of_below (h.below _)
theorem Same.still {S : Nat → Prop} {a b c : World} (h : Same S a b) (k : Still b c) : Same S a c := h.trans (k.same S) (fun _ _ x => x)

/-- The text's own state: 'pos' bytes handed out of 'left', or stopped. -/
structure Txt (w : World) (T R : Nat) (da : Option Addr) (len left pos : Nat) (stopped : Bool) (a1 : Addr) : Prop where
  live : stopped = false → TextAt w T R ((left - pos : Nat) : Int) .nilIface ∧ ∃ pr : Int, w.heap[R]? = some (.cells #[.slice da len len, .int .i64 pos, .int .i64 pr] 52 (0, 0))
  dead : stopped = true → TextAt w T R 0 (.iface 63 (.pointer (some a1)))

theorem Txt.keep {w w' : World} {T R : Nat} {da : Option Addr} {len left pos : Nat} {st : Bool} {a1 : Addr} (h : Txt w T R da len left pos st a1) (hT : w'.heap[T]? = w.heap[T]?) (hR : w'.heap[R]? = w.heap[R]?) : Txt w' T R da len left pos st a1 :=
  ⟨fun e => by obtain ⟨h1, pr, h2⟩ := h.live e; exact ⟨hT.trans h1, pr, hR.trans h2⟩, fun e => hT.trans (h.dead e)⟩

theorem zz_stopped (T R : Nat) (da : Option Addr) (len left pos B : Nat) (a0 a1 : Addr) (p : Value) (w : World) (hs : Sent w B a0 a1) (ht : Txt w T R da len left pos true a1) :
    Calls Tryd.prog 10 #[.pointer (some ⟨T, 0, none⟩), p] w fun e w' => e = .returned (.tuple #[.int .i64 0, .bool false, .bool false, .bool true]) ∧ Still w w' := by
  refine (zz_of_ptr _ p 0 a1 false true B a0 a1 (fun w' => Still w w') w (lt_stopped T _ _ a1 p w (ht.dead rfl)) (fun w' h => hs.below (h.below B)) (fun w' h => asks_past h)).mono ?_
  rintro e w' ⟨rfl, w1, h1, h2⟩
  exact ⟨rfl, h1.trans h2⟩

theorem zz_end (T R : Nat) (da : Option Addr) (len left B : Nat) (a0 a1 : Addr) (pa : Option Addr) (m : Nat) (w : World) (hs : Sent w B a0 a1) (hBT : B ≤ T) (hTR : T ≠ R) (hl : len ≤ 1048576) (hL : left < 9223372036854775807) (hm : m ≤ 1048576) (ht : Txt w T R da len left len false a1) :
    Calls Tryd.prog 10 #[.pointer (some ⟨T, 0, none⟩), .slice pa m m] w fun e w' => e = .returned (.tuple #[.int .i64 0, .bool false, .bool true, .bool false]) ∧ Txt w' T R da len left len false a1 ∧ Same (· = T) w w' := by
  obtain ⟨h1, pr, h2⟩ := ht.live rfl
  refine (zz_of_ptr _ _ 0 a0 true false B a0 a1 (fun w' => TextAt w' T R ((left - len : Nat) : Int) .nilIface ∧ Same (· = T) w w') w (lt_end T R da len len len (left - len) pr a0 a1 pa m m B w hs hBT h1 h2 (Nat.le_refl _) hl (by omega) (Nat.le_refl _) hm) (fun w' h => ?_) (fun w' h => asks_eof h)).mono ?_
  · exact hs.below (h.2.below (by have := lt_of_block h1; omega) (fun k hk e => by omega))
  · rintro e w' ⟨rfl, w1, ⟨h3, h4⟩, h5⟩
    refine ⟨rfl, ⟨fun _ => ⟨(h5.blk T).trans h3, pr, ((h5.blk R).trans (h4.block R (lt_of_block h2) (fun e => hTR e.symm))).trans h2⟩, fun e => by cases e⟩, h4.still h5⟩

theorem zz_past (T R D len left pos P m B : Nat) (a0 a1 : Addr) (z g : Nat → Int) (w : World) (hs : Sent w B a0 a1) (hBR : B ≤ R) (hBP : B ≤ P) (hBT : B ≤ T) (ht : Txt w T R (some ⟨D, 0, none⟩) len left pos false a1) (hD : Own w D len .u8 5 g) (hP : Own w P m .u8 5 z) (hmc : m ≤ 1048576)
    (hpl : pos < len) (hl : len ≤ 1048576) (hRP : R ≠ P) (hRD : R ≠ D) (hDP : D ≠ P) (hTR : T ≠ R) (hTP : T ≠ P) (hk : left - pos < min (len - pos) m) :
    Calls Tryd.prog 10 #[.pointer (some ⟨T, 0, none⟩), .slice (some ⟨P, 0, none⟩) m m] w fun e w' => e = .returned (.tuple #[.int .i64 ((left - pos : Nat) : Int), .bool false, .bool false, .bool true]) ∧
      Txt w' T R (some ⟨D, 0, none⟩) len left left true a1 ∧ Own w' P m .u8 5 (fun i => if i < left - pos + 1 then g (pos + i) else z i) ∧ Same (fun k => k = R ∨ k = P ∨ k = T) w w' := by
  obtain ⟨h1, pr, h2⟩ := ht.live rfl
  refine (zz_of_ptr _ _ _ a1 false true B a0 a1 (fun w' => LtPast T R D len pos P m (left - pos) a1 z g w w') w (lt_past T R D len pos P m m m (left - pos) B a0 a1 pr z g w hs hBR hBP hBT h1 h2 hD hP (Nat.le_refl _) (Nat.le_refl _) hmc hpl hl hRP hRD hDP hTR hTP hk) (fun w' h => ?_) (fun w' h => asks_past h)).mono ?_
  · exact hs.below (h.2.2.below (by have := lt_of_block h1; omega) (fun k hk e => by omega))
  · rintro e w' ⟨rfl, w1, ⟨h3, h4, h5⟩, h6⟩
    exact ⟨rfl, ⟨fun e => (by cases e), fun _ => (h6.blk T).trans h4⟩, h3.keep (h6.blk P), h5.still h6⟩

theorem zz_some (T R D len left pos m B : Nat) (pa : Option Addr) (a0 a1 : Addr) (z g : Nat → Int) (w : World) (hs : Sent w B a0 a1) (hBR : B ≤ R) (hBT : B ≤ T) (ht : Txt w T R (some ⟨D, 0, none⟩) len left pos false a1) (hD : Own w D len .u8 5 g)
    (hP : m = 0 ∨ ∃ P, pa = some ⟨P, 0, none⟩ ∧ B ≤ P ∧ Own w P m .u8 5 z ∧ R ≠ P ∧ D ≠ P ∧ T ≠ P) (hmc : m ≤ 1048576)
    (hpl : pos < len) (hl : len ≤ 1048576) (hRD : R ≠ D) (hTR : T ≠ R) (hL : left < 9223372036854775807) (hk : min (len - pos) m ≤ left - pos) :
    Calls Tryd.prog 10 #[.pointer (some ⟨T, 0, none⟩), .slice pa m m] w fun e w' => e = .returned (.tuple #[.int .i64 ((min (len - pos) m : Nat) : Int), .bool true, .bool false, .bool false]) ∧
      Txt w' T R (some ⟨D, 0, none⟩) len left (pos + min (len - pos) m) false a1 ∧ (∀ P, pa = some ⟨P, 0, none⟩ → 0 < m → Own w' P m .u8 5 (fun i => if i < min (len - pos) m then g (pos + i) else z i)) ∧ Same (fun k => k = R ∨ (pa = some ⟨k, 0, none⟩ ∧ 0 < m) ∨ k = T) w w' := by
  obtain ⟨h1, pr, h2⟩ := ht.live rfl
  rcases Nat.eq_zero_or_pos m with h0 | h0
  · subst h0
    refine (zz_of_nil _ _ 0 false false B a0 a1 (fun w' => LtZero T R D len pos (left - pos) w w') w (lt_zero T R D len pos 0 (left - pos) pa pr w h1 h2 hpl hl hTR (by omega)) (fun w' h => ?_) (fun w' h => asks_nil a0 a1)).mono ?_
    · exact hs.below (h.2.2.below (by have := lt_of_block h1; omega) (fun k hk e => by omega))
    · rintro e w' ⟨rfl, w1, ⟨h3, h4, h5⟩, h6⟩
      refine ⟨by simp, ⟨fun _ => ⟨?_, -1, ?_⟩, fun e => by cases e⟩, fun P _ h => by omega, ?_⟩
      · have := (h6.blk T).trans h4
        simpa [TextAt] using this
      · have := (h6.blk R).trans h3
        simpa using this
      · refine ((Same.refl _ w).trans h5 (fun i _ e => ?_)).still h6
        rcases e with e | e
        · exact .inl e
        · exact .inr (.inr e)
  · rcases hP with hP | ⟨P, rfl, hBP, hP, hRP, hDP, hTP⟩
    · omega
    refine (zz_of_nil _ _ _ false false B a0 a1 (fun w' => LtSome T R D len pos P m m (left - pos) z g w w') w (lt_some T R D len pos P m m m (left - pos) pr z g w h1 h2 hD hP (Nat.le_refl _) (Nat.le_refl _) hmc hpl hl hRP hRD hDP hTR hTP (by omega) hk) (fun w' h => ?_) (fun w' h => asks_nil a0 a1)).mono ?_
    · exact hs.below (h.2.2.2.below (by have := lt_of_block h1; omega) (fun k hk e => by omega))
    · rintro e w' ⟨rfl, w1, ⟨h3, h4, h5, h7⟩, h6⟩
      refine ⟨rfl, ⟨fun _ => ⟨?_, -1, (h6.blk R).trans h3⟩, fun e => by cases e⟩, fun P' e _ => ?_, ?_⟩
      · rw [show left - (pos + min (len - pos) m) = left - pos - min (len - pos) m by omega]
        exact (h6.blk T).trans h5
      · cases e
        exact h4.keep (h6.blk P)
      · refine ((Same.refl _ w).trans h7 (fun i _ e => ?_)).still h6
        rcases e with e | e | e
        · exact .inl e
        · exact .inr (.inl ⟨by rw [e], h0⟩)
        · exact .inr (.inr e)
end Go.Proofs.Qxb6615636aDoor
