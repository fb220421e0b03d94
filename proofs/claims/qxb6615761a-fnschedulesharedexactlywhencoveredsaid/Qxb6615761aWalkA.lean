/-
  THE WALKS of the seat b6615761a.
-/
import Derived.Test.Qxb6615761aRows
import Derived.WalkKit
import Derived.ProofKit
import Derived.OpenShut
import Derived.ShutString
import Derived.BigQuiet
import Derived.WalkSpells
import Derived.Outline
import Derived.Below
namespace Go.Proofs.Qxb6615761a
open Go.ChangeShapes Go.WideShapes Go.ChangeAt Go.RowKit
set_option linter.unusedVariables false

/-- A *string that came in: nil (no bytes), or a cell below block B. -/
def PS (w : World) (B : Nat) (v : Value) (s : ByteArray) : Prop := (v = .pointer none ∧ s = { data := #[] }) ∨ ∃ x : Addr, v = .pointer (some x) ∧ x.block < B ∧ w.cell? x = some (.string s)
theorem PS.below {w w' : World} {B : Nat} {v : Value} {s : ByteArray} (h : PS w B v s) (hb : Below B w w') : PS w' B v s := by
  rcases h with h | ⟨x, h1, h2, h3⟩
  · exact .inl h
  · exact .inr ⟨x, h1, h2, (hb.cell h2).trans h3⟩

theorem cls10 (B : Nat) (v : Value) (s : ByteArray) (w : World) (h : PS w B v s) : Calls Try.prog 10 #[v] w fun e w' => e = .returned (.string s) ∧ w' = w := by
  rcases h with ⟨rfl, rfl⟩ | ⟨x, rfl, h2, h3⟩
  · go_enter Try.func10, Try.ntmps10
    go_wp2_with fail
    go_ret
    exact ⟨rfl, rfl⟩
  · go_enter Try.func10, Try.ntmps10
    go_wp2_with fail
    go_ret
    exact ⟨rfl, rfl⟩
theorem val6 (B : Nat) (v : Value) (s : ByteArray) (w : World) (h : PS w B v s) : Calls Try.prog 6 #[v] w fun e w' => e = .returned (.string s) ∧ w' = w := by
  rcases h with ⟨rfl, rfl⟩ | ⟨x, rfl, h2, h3⟩
  · go_enter Try.func6, Try.ntmps6
    go_wp2_with fail
    go_ret
    exact ⟨rfl, rfl⟩
  · go_enter Try.func6, Try.ntmps6
    go_wp2_with fail
    go_ret
    exact ⟨rfl, rfl⟩

theorem fit4 (B : Nat) (v0 v1 : Value) (s0 s1 s2 : ByteArray) (n : Int) (w : World) (h0 : PS w B v0 s0) (h1 : PS w B v1 s1) (m0 : s0.size ≤ 9223372036854775807) (m1 : s1.size ≤ 9223372036854775807) (m2 : s2.size ≤ 9223372036854775807) :
    Calls Try.prog 4 #[v0, v1, .string s2, .int .i64 n] w fun e w' => (∃ b : Bool, e = .returned (.bool b)) ∧ w' = w := by
  rcases h0 with ⟨rfl, rfl⟩ | ⟨x, rfl, h2, h3⟩ <;> rcases h1 with ⟨rfl, rfl⟩ | ⟨y, rfl, h4, h5⟩
  all_goals
    go_enter Try.func4, Try.ntmps4
    go_wp2_with fail
  all_goals
    go_ret
    exact ⟨⟨_, rfl⟩, rfl⟩
theorem sched8 (v : Value) (hv : v = .pointer none ∨ ∃ x, v = .pointer (some x)) (B : Nat) (s : ByteArray) (w : World) (hB : B ≤ w.heap.size) (h : PS w B v s) : Calls Try.prog 8 #[.agg #[v]] w fun e w' => e = .returned (.agg #[.string s, .string { data := #[] }]) ∧ Below w.heap.size w w' := by
  have hbel : Below w.heap.size w ((w.alloc (.cells #[v] 27)).alloc (.cells #[.string { data := #[] }, .string { data := #[] }] 34)) := ((Below.refl w.heap.size w).alloc (Nat.le_refl _) _).alloc (by rw [World.size_alloc]; omega) _
  have hc := cls10 B v s _ (h.below (hbel.mono hB))
  have HC : Hid _ := hc
  have HB : Hid _ := hbel
  clear hc hbel h
  rcases hv with rfl | ⟨x, rfl⟩
  · go_enter Try.func8, Try.ntmps8
    go_wp2_with fail
    refine Calls.mono HC.out ?_
    rintro e w1 ⟨rfl, rfl⟩
    go_wp2_with fail
    refine bodyPost_ret (v := .agg #[.string s, .string { data := #[] }]) (by simp [results, Try.results8, go_sem]) rfl ?_
    exact ⟨rfl, ((Below.refl w.heap.size w).alloc (Nat.le_refl _) _).alloc (by rw [World.size_alloc]; omega) _⟩
  · go_enter Try.func8, Try.ntmps8
    go_wp2_with fail
    refine Calls.mono HC.out ?_
    rintro e w1 ⟨rfl, rfl⟩
    go_wp2_with fail
    refine bodyPost_ret (v := .agg #[.string s, .string { data := #[] }]) (by simp [results, Try.results8, go_sem]) rfl ?_
    exact ⟨rfl, ((Below.refl w.heap.size w).alloc (Nat.le_refl _) _).alloc (by rw [World.size_alloc]; omega) _⟩

theorem fields5 (v : Value) (hv : v = .pointer none ∨ ∃ x, v = .pointer (some x)) (B : Nat) (s : ByteArray) (w : World) (hB : B ≤ w.heap.size) (h : PS w B v s) : Calls Try.prog 5 #[.agg #[v]] w fun e w' => e = .returned (.tuple #[.string s, .string { data := #[] }]) ∧ Below w.heap.size w w' := by
  have hbel : Below w.heap.size w (w.alloc (.cells #[v] 27)) := (Below.refl w.heap.size w).alloc (Nat.le_refl _) _
  have hc := sched8 v hv B s (w.alloc (.cells #[v] 27)) (by rw [World.size_alloc]; omega) (h.below (hbel.mono hB))
  have HC : Hid _ := hc
  have HB : Hid _ := hbel
  clear hc hbel h
  rcases hv with rfl | ⟨x, rfl⟩
  · go_enter Try.func5, Try.ntmps5
    go_wp2_with fail
    refine Calls.mono HC.out ?_
    rintro e w1 ⟨rfl, hb1⟩
    go_wp2_with fail
    go_quiet (fail)
    go_wp2_with fail
    go_ret2
    have hsz := hb1.size
    rw [World.size_alloc] at hsz
    have h2 : Below w.heap.size w w1 := HB.out.trans (hb1.mono (by rw [World.size_alloc]; omega))
    exact ⟨rfl, (h2.alloc (by omega) _).trans ⟨rfl, rfl, rfl, Nat.le_refl _, fun _ _ => rfl⟩⟩
  · go_enter Try.func5, Try.ntmps5
    go_wp2_with fail
    refine Calls.mono HC.out ?_
    rintro e w1 ⟨rfl, hb1⟩
    go_wp2_with fail
    go_quiet (fail)
    go_wp2_with fail
    go_ret2
    have hsz := hb1.size
    rw [World.size_alloc] at hsz
    have h2 : Below w.heap.size w w1 := HB.out.trans (hb1.mono (by rw [World.size_alloc]; omega))
    exact ⟨rfl, (h2.alloc (by omega) _).trans ⟨rfl, rfl, rfl, Nat.le_refl _, fun _ _ => rfl⟩⟩

theorem covers9 (v : Value) (hv : v = .pointer none ∨ ∃ x, v = .pointer (some x)) (B : Nat) (s c ch : ByteArray) (d : Int) (b : Bool) (w : World) (hB : B ≤ w.heap.size) (h : PS w B v s) (hb : (s.toList == c.toList) = b) :
    Calls Try.prog 9 #[.agg #[v, .string ch, .int .i64 d, .pointer none], .string c, .string ch, .int .i64 d] w fun e w' => e = .returned (.bool b) ∧ Below w.heap.size w w' := by
  have hbel : Below w.heap.size w (w.alloc (.cells #[v, .string ch, .int .i64 d, .pointer none] 32)) := (Below.refl w.heap.size w).alloc (Nat.le_refl _) _
  have hc := cls10 B v s _ (h.below (hbel.mono hB))
  have HC : Hid _ := hc
  have HB : Hid _ := hbel
  clear hc hbel h
  rcases hv with rfl | ⟨x, rfl⟩ <;> cases b
  all_goals
    go_enter Try.func9, Try.ntmps9
    go_wp2_with fail
    refine Calls.mono HC.out ?_
    rintro e w1 ⟨rfl, rfl⟩
    go_wp2_with fail
    go_ret
    exact ⟨by simp, HB.out⟩
theorem covers7 (v : Value) (hv : v = .pointer none ∨ ∃ x, v = .pointer (some x)) (B : Nat) (s c ch : ByteArray) (d : Int) (b : Bool) (w : World) (hB : B ≤ w.heap.size) (h : PS w B v s) (hb : (s.toList == c.toList) = b) :
    Calls Try.prog 7 #[.agg #[v, .string ch, .int .i64 d, .pointer none], .string c, .string ch, .int .i64 d] w fun e w' => e = .returned (.bool b) ∧ Below w.heap.size w w' := by
  have hbel : Below w.heap.size w (w.alloc (.cells #[v, .string ch, .int .i64 d, .pointer none] 32)) := (Below.refl w.heap.size w).alloc (Nat.le_refl _) _
  have hc := covers9 v hv B s c ch d b (w.alloc (.cells #[v, .string ch, .int .i64 d, .pointer none] 32)) (by rw [World.size_alloc]; omega) (h.below (hbel.mono hB)) hb
  have HC : Hid _ := hc
  have HB : Hid _ := hbel
  clear hc hbel h
  rcases hv with rfl | ⟨x, rfl⟩
  all_goals
    go_enter Try.func7, Try.ntmps7
    go_wp2_with fail
    refine Calls.mono HC.out ?_
    rintro e w1 ⟨rfl, hb1⟩
    go_wp2_with fail
    go_ret
    exact ⟨rfl, HB.out.trans (hb1.mono (by rw [World.size_alloc]; omega))⟩

set_option maxRecDepth 100000 in
set_option maxHeartbeats 2000000 in
theorem law_nn (s0 s1 s2 : ByteArray) (n : Int) (w : World) (h0 : PS w w.heap.size (.pointer none) s0) (h1 : PS w w.heap.size (.pointer none) s1) (m0 : s0.size ≤ 9223372036854775807) (m1 : s1.size ≤ 9223372036854775807) (m2 : s2.size ≤ 9223372036854775807) :
    Calls Try.prog 3 #[.pointer none, .pointer none, .string s2, .int .i64 n] w fun e w' => e = .returned (.bool true) ∧ Below w.heap.size w w' := by
  obtain ⟨b, hb⟩ : ∃ b, (s0.toList == s1.toList) = b := ⟨_, rfl⟩
  have HF : Hid _ := fit4 w.heap.size _ _ s0 s1 s2 n w h0 h1 m0 m1 m2
  have HP0 : Hid (PS w w.heap.size (.pointer none) s0) := h0
  have HP1 : Hid (PS w w.heap.size (.pointer none) s1) := h1
  clear h0 h1
  go_enter Try.func3, Try.ntmps3
  go_wp2_with fail
  refine Calls.mono HF.out ?_
  rintro e w1 ⟨⟨b4, rfl⟩, rfl⟩
  cases b4 with
  | false =>
    go_wp2_with fail
    go_ret
    exact ⟨rfl, Below.refl _ _⟩
  | true =>
  by_cases q2 : 65536 < s2.size
  · go_wp2_with fail
    go_ret
    exact ⟨rfl, Below.refl _ _⟩
  go_wp2_with fail
  refine Calls.mono (fields5 (.pointer none) (.inl rfl) w1.heap.size s0 w1 (Nat.le_refl _) HP0.out) ?_
  rintro e w2 ⟨rfl, hb2⟩
  have HB2 : Hid (Below w1.heap.size w1 w2) := hb2
  clear hb2 
  go_wp2_with fail
  refine Calls.mono (fields5 (.pointer none) (.inl rfl) w1.heap.size s1 w2 HB2.out.size (PS.below HP1.out HB2.out)) ?_
  rintro e w3 ⟨rfl, hb3⟩
  have HB3 : Hid (Below w1.heap.size w1 w3) := HB2.out.trans (hb3.mono HB2.out.size)
  clear hb3
  go_wp2_with fail
  refine Calls.mono (val6 w1.heap.size _ s0 w3 (PS.below HP0.out HB3.out)) ?_
  rintro e w4 ⟨rfl, rfl⟩
  go_wp2_with fail
  refine Calls.mono (val6 w1.heap.size _ s1 w4 (PS.below HP1.out HB3.out)) ?_
  rintro e w5 ⟨rfl, rfl⟩
  go_wp2_with fail
  refine Calls.mono (covers7 (.pointer none) (.inl rfl) w1.heap.size s0 s1 s2 n b w5 HB3.out.size (PS.below HP0.out HB3.out) hb) ?_
  rintro e w6 ⟨rfl, hb6⟩
  have HB6 : Hid (Below w1.heap.size w1 w6) := HB3.out.trans (hb6.mono HB3.out.size)
  clear hb6
  cases b
  · go_wp2_with fail
    go_ret
    exact ⟨rfl, HB6.out⟩
  · go_wp2_with fail
    go_ret
    exact ⟨rfl, HB6.out⟩

set_option maxRecDepth 100000 in
set_option maxHeartbeats 2000000 in
theorem law_np (x1 : Addr) (s0 s1 s2 : ByteArray) (n : Int) (w : World) (c1 : w.cell? x1 = some (.string s1)) (h0 : PS w w.heap.size (.pointer none) s0) (h1 : PS w w.heap.size (.pointer (some x1)) s1) (m0 : s0.size ≤ 9223372036854775807) (m1 : s1.size ≤ 9223372036854775807) (m2 : s2.size ≤ 9223372036854775807) :
    Calls Try.prog 3 #[.pointer none, .pointer (some x1), .string s2, .int .i64 n] w fun e w' => e = .returned (.bool true) ∧ Below w.heap.size w w' := by
  obtain ⟨b, hb⟩ : ∃ b, (s0.toList == s1.toList) = b := ⟨_, rfl⟩
  have HF : Hid _ := fit4 w.heap.size _ _ s0 s1 s2 n w h0 h1 m0 m1 m2
  have HP0 : Hid (PS w w.heap.size (.pointer none) s0) := h0
  have HP1 : Hid (PS w w.heap.size (.pointer (some x1)) s1) := h1
  clear h0 h1
  go_enter Try.func3, Try.ntmps3
  go_wp2_with fail
  refine Calls.mono HF.out ?_
  rintro e w1 ⟨⟨b4, rfl⟩, rfl⟩
  cases b4 with
  | false =>
    go_wp2_with fail
    go_ret
    exact ⟨rfl, Below.refl _ _⟩
  | true =>
  by_cases q1 : 65536 < s1.size
  · go_wp2_with fail
    go_ret
    exact ⟨rfl, Below.refl _ _⟩
  by_cases q2 : 65536 < s2.size
  · go_wp2_with fail
    go_ret
    exact ⟨rfl, Below.refl _ _⟩
  go_wp2_with fail
  refine Calls.mono (fields5 (.pointer none) (.inl rfl) w1.heap.size s0 w1 (Nat.le_refl _) HP0.out) ?_
  rintro e w2 ⟨rfl, hb2⟩
  have HB2 : Hid (Below w1.heap.size w1 w2) := hb2
  clear hb2 c1
  go_wp2_with fail
  refine Calls.mono (fields5 (.pointer (some x1)) (.inr ⟨_, rfl⟩) w1.heap.size s1 w2 HB2.out.size (PS.below HP1.out HB2.out)) ?_
  rintro e w3 ⟨rfl, hb3⟩
  have HB3 : Hid (Below w1.heap.size w1 w3) := HB2.out.trans (hb3.mono HB2.out.size)
  clear hb3
  go_wp2_with fail
  refine Calls.mono (val6 w1.heap.size _ s0 w3 (PS.below HP0.out HB3.out)) ?_
  rintro e w4 ⟨rfl, rfl⟩
  go_wp2_with fail
  refine Calls.mono (val6 w1.heap.size _ s1 w4 (PS.below HP1.out HB3.out)) ?_
  rintro e w5 ⟨rfl, rfl⟩
  go_wp2_with fail
  refine Calls.mono (covers7 (.pointer none) (.inl rfl) w1.heap.size s0 s1 s2 n b w5 HB3.out.size (PS.below HP0.out HB3.out) hb) ?_
  rintro e w6 ⟨rfl, hb6⟩
  have HB6 : Hid (Below w1.heap.size w1 w6) := HB3.out.trans (hb6.mono HB3.out.size)
  clear hb6
  cases b
  · go_wp2_with fail
    go_ret
    exact ⟨rfl, HB6.out⟩
  · go_wp2_with fail
    go_ret
    exact ⟨rfl, HB6.out⟩

set_option maxRecDepth 100000 in
set_option maxHeartbeats 2000000 in
theorem law_pn (x0 : Addr) (s0 s1 s2 : ByteArray) (n : Int) (w : World) (c0 : w.cell? x0 = some (.string s0)) (h0 : PS w w.heap.size (.pointer (some x0)) s0) (h1 : PS w w.heap.size (.pointer none) s1) (m0 : s0.size ≤ 9223372036854775807) (m1 : s1.size ≤ 9223372036854775807) (m2 : s2.size ≤ 9223372036854775807) :
    Calls Try.prog 3 #[.pointer (some x0), .pointer none, .string s2, .int .i64 n] w fun e w' => e = .returned (.bool true) ∧ Below w.heap.size w w' := by
  obtain ⟨b, hb⟩ : ∃ b, (s0.toList == s1.toList) = b := ⟨_, rfl⟩
  have HF : Hid _ := fit4 w.heap.size _ _ s0 s1 s2 n w h0 h1 m0 m1 m2
  have HP0 : Hid (PS w w.heap.size (.pointer (some x0)) s0) := h0
  have HP1 : Hid (PS w w.heap.size (.pointer none) s1) := h1
  clear h0 h1
  go_enter Try.func3, Try.ntmps3
  go_wp2_with fail
  refine Calls.mono HF.out ?_
  rintro e w1 ⟨⟨b4, rfl⟩, rfl⟩
  cases b4 with
  | false =>
    go_wp2_with fail
    go_ret
    exact ⟨rfl, Below.refl _ _⟩
  | true =>
  by_cases q0 : 65536 < s0.size
  · go_wp2_with fail
    go_ret
    exact ⟨rfl, Below.refl _ _⟩
  by_cases q2 : 65536 < s2.size
  · go_wp2_with fail
    go_ret
    exact ⟨rfl, Below.refl _ _⟩
  go_wp2_with fail
  refine Calls.mono (fields5 (.pointer (some x0)) (.inr ⟨_, rfl⟩) w1.heap.size s0 w1 (Nat.le_refl _) HP0.out) ?_
  rintro e w2 ⟨rfl, hb2⟩
  have HB2 : Hid (Below w1.heap.size w1 w2) := hb2
  clear hb2 c0
  go_wp2_with fail
  refine Calls.mono (fields5 (.pointer none) (.inl rfl) w1.heap.size s1 w2 HB2.out.size (PS.below HP1.out HB2.out)) ?_
  rintro e w3 ⟨rfl, hb3⟩
  have HB3 : Hid (Below w1.heap.size w1 w3) := HB2.out.trans (hb3.mono HB2.out.size)
  clear hb3
  go_wp2_with fail
  refine Calls.mono (val6 w1.heap.size _ s0 w3 (PS.below HP0.out HB3.out)) ?_
  rintro e w4 ⟨rfl, rfl⟩
  go_wp2_with fail
  refine Calls.mono (val6 w1.heap.size _ s1 w4 (PS.below HP1.out HB3.out)) ?_
  rintro e w5 ⟨rfl, rfl⟩
  go_wp2_with fail
  refine Calls.mono (covers7 (.pointer (some x0)) (.inr ⟨_, rfl⟩) w1.heap.size s0 s1 s2 n b w5 HB3.out.size (PS.below HP0.out HB3.out) hb) ?_
  rintro e w6 ⟨rfl, hb6⟩
  have HB6 : Hid (Below w1.heap.size w1 w6) := HB3.out.trans (hb6.mono HB3.out.size)
  clear hb6
  cases b
  · go_wp2_with fail
    go_ret
    exact ⟨rfl, HB6.out⟩
  · go_wp2_with fail
    go_ret
    exact ⟨rfl, HB6.out⟩

set_option maxRecDepth 100000 in
set_option maxHeartbeats 2000000 in
theorem law_pp (x0 : Addr) (x1 : Addr) (s0 s1 s2 : ByteArray) (n : Int) (w : World) (c0 : w.cell? x0 = some (.string s0)) (c1 : w.cell? x1 = some (.string s1)) (h0 : PS w w.heap.size (.pointer (some x0)) s0) (h1 : PS w w.heap.size (.pointer (some x1)) s1) (m0 : s0.size ≤ 9223372036854775807) (m1 : s1.size ≤ 9223372036854775807) (m2 : s2.size ≤ 9223372036854775807) :
    Calls Try.prog 3 #[.pointer (some x0), .pointer (some x1), .string s2, .int .i64 n] w fun e w' => e = .returned (.bool true) ∧ Below w.heap.size w w' := by
  obtain ⟨b, hb⟩ : ∃ b, (s0.toList == s1.toList) = b := ⟨_, rfl⟩
  have HF : Hid _ := fit4 w.heap.size _ _ s0 s1 s2 n w h0 h1 m0 m1 m2
  have HP0 : Hid (PS w w.heap.size (.pointer (some x0)) s0) := h0
  have HP1 : Hid (PS w w.heap.size (.pointer (some x1)) s1) := h1
  clear h0 h1
  go_enter Try.func3, Try.ntmps3
  go_wp2_with fail
  refine Calls.mono HF.out ?_
  rintro e w1 ⟨⟨b4, rfl⟩, rfl⟩
  cases b4 with
  | false =>
    go_wp2_with fail
    go_ret
    exact ⟨rfl, Below.refl _ _⟩
  | true =>
  by_cases q0 : 65536 < s0.size
  · go_wp2_with fail
    go_ret
    exact ⟨rfl, Below.refl _ _⟩
  by_cases q1 : 65536 < s1.size
  · go_wp2_with fail
    go_ret
    exact ⟨rfl, Below.refl _ _⟩
  by_cases q2 : 65536 < s2.size
  · go_wp2_with fail
    go_ret
    exact ⟨rfl, Below.refl _ _⟩
  go_wp2_with fail
  refine Calls.mono (fields5 (.pointer (some x0)) (.inr ⟨_, rfl⟩) w1.heap.size s0 w1 (Nat.le_refl _) HP0.out) ?_
  rintro e w2 ⟨rfl, hb2⟩
  have HB2 : Hid (Below w1.heap.size w1 w2) := hb2
  clear hb2 c0 c1
  go_wp2_with fail
  refine Calls.mono (fields5 (.pointer (some x1)) (.inr ⟨_, rfl⟩) w1.heap.size s1 w2 HB2.out.size (PS.below HP1.out HB2.out)) ?_
  rintro e w3 ⟨rfl, hb3⟩
  have HB3 : Hid (Below w1.heap.size w1 w3) := HB2.out.trans (hb3.mono HB2.out.size)
  clear hb3
  go_wp2_with fail
  refine Calls.mono (val6 w1.heap.size _ s0 w3 (PS.below HP0.out HB3.out)) ?_
  rintro e w4 ⟨rfl, rfl⟩
  go_wp2_with fail
  refine Calls.mono (val6 w1.heap.size _ s1 w4 (PS.below HP1.out HB3.out)) ?_
  rintro e w5 ⟨rfl, rfl⟩
  go_wp2_with fail
  refine Calls.mono (covers7 (.pointer (some x0)) (.inr ⟨_, rfl⟩) w1.heap.size s0 s1 s2 n b w5 HB3.out.size (PS.below HP0.out HB3.out) hb) ?_
  rintro e w6 ⟨rfl, hb6⟩
  have HB6 : Hid (Below w1.heap.size w1 w6) := HB3.out.trans (hb6.mono HB3.out.size)
  clear hb6
  cases b
  · go_wp2_with fail
    go_ret
    exact ⟨rfl, HB6.out⟩
  · go_wp2_with fail
    go_ret
    exact ⟨rfl, HB6.out⟩

theorem law3 (v0 v1 : Value) (s0 s1 s2 : ByteArray) (n : Int) (w : World) (h0 : PS w w.heap.size v0 s0) (h1 : PS w w.heap.size v1 s1) (m0 : s0.size ≤ 9223372036854775807) (m1 : s1.size ≤ 9223372036854775807) (m2 : s2.size ≤ 9223372036854775807) :
    Calls Try.prog 3 #[v0, v1, .string s2, .int .i64 n] w fun e w' => e = .returned (.bool true) ∧ Below w.heap.size w w' := by
  have k0 := h0
  have k1 := h1
  rcases h0 with ⟨rfl, _⟩ | ⟨x0, rfl, _, c0⟩ <;> rcases h1 with ⟨rfl, _⟩ | ⟨x1, rfl, _, c1⟩
  · exact law_nn s0 s1 s2 n w k0 k1 m0 m1 m2
  · exact law_np x1 s0 s1 s2 n w c1 k0 k1 m0 m1 m2
  · exact law_pn x0 s0 s1 s2 n w c0 k0 k1 m0 m1 m2
  · exact law_pp x0 x1 s0 s1 s2 n w c0 c1 k0 k1 m0 m1 m2
end Go.Proofs.Qxb6615761a
