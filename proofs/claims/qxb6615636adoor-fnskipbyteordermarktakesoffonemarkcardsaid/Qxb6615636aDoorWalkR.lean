/-
  THE WALKS of ZZreadBuffered and readBuffered (seat b6615636aD).
-/
import Derived.Test.Qxb6615636aDoorWalkQ
import Derived.Test.Qxb6615636aDoorWalkI
namespace Go.Proofs.Qxb6615636aDoor
open Go.ChangeShapes Go.WideShapes Go.ChangeAt Go.RowKit
set_option linter.unusedVariables false

theorem zb_of_nil (t p : Value) (n : Int) (eof past : Bool) (B : Nat) (a0 a1 : Addr) (Post : World → Prop) (w : World) (hc : Calls Tryd.prog 24 #[t, p] w fun e w' => e = .returned (.tuple #[.int .i64 n, (Value.nilIface)]) ∧ Post w')
    (hs : ∀ w', Post w' → Sent w' B a0 a1) (ha : ∀ w', Sent w' B a0 a1 → Asks (Value.nilIface) w' a0 a1 true eof past) :
    Calls Tryd.prog 20 #[t, p] w fun e w' => e = .returned (.tuple #[.int .i64 n, .bool true, .bool eof, .bool past]) ∧ ∃ w1, Post w1 ∧ Still w1 w' := by
  have HC : Hid _ := hc
  have HS : Hid _ := hs
  have HA : Hid _ := ha
  clear hc hs ha
  go_enter Tryd.func20, Tryd.ntmps20
  go_wp2_with fail
  refine Calls.mono HC.out ?_
  rintro e w1 ⟨rfl, hp⟩
  have hs1 := HS.out w1 hp
  have q1 := fun n => (HA.out (w1.drewN n) (hs1.below ((Still.drewN w1 n).below B))).1
  have q2 := fun n => (HA.out (w1.drewN n) (hs1.below ((Still.drewN w1 n).below B))).2.1
  have q3 := fun n => (HA.out (w1.drewN n) (hs1.below ((Still.drewN w1 n).below B))).2.2
  have e0 := hs1.e0
  have e1 := hs1.e1
  have HP : Hid _ := hp
  clear hp hs1
  go_wp2_with fail
  go_quiet (fail)
  go_wp2_with fail
  refine bodyPost_ret (v := .tuple #[.int .i64 n, .bool true, .bool eof, .bool past]) (by simp [results, Tryd.results20, go_sem]) rfl ?_
  exact ⟨rfl, w1, HP.out, rfl, rfl, rfl, rfl⟩
theorem zb_of_ptr (t p : Value) (n : Int) (a : Addr) (eof past : Bool) (B : Nat) (a0 a1 : Addr) (Post : World → Prop) (w : World) (hc : Calls Tryd.prog 24 #[t, p] w fun e w' => e = .returned (.tuple #[.int .i64 n, (Value.iface 63 (.pointer (some a)))]) ∧ Post w')
    (hs : ∀ w', Post w' → Sent w' B a0 a1) (ha : ∀ w', Sent w' B a0 a1 → Asks (Value.iface 63 (.pointer (some a))) w' a0 a1 false eof past) :
    Calls Tryd.prog 20 #[t, p] w fun e w' => e = .returned (.tuple #[.int .i64 n, .bool false, .bool eof, .bool past]) ∧ ∃ w1, Post w1 ∧ Still w1 w' := by
  have HC : Hid _ := hc
  have HS : Hid _ := hs
  have HA : Hid _ := ha
  clear hc hs ha
  go_enter Tryd.func20, Tryd.ntmps20
  go_wp2_with fail
  refine Calls.mono HC.out ?_
  rintro e w1 ⟨rfl, hp⟩
  have hs1 := HS.out w1 hp
  have q1 := fun n => (HA.out (w1.drewN n) (hs1.below ((Still.drewN w1 n).below B))).1
  have q2 := fun n => (HA.out (w1.drewN n) (hs1.below ((Still.drewN w1 n).below B))).2.1
  have q3 := fun n => (HA.out (w1.drewN n) (hs1.below ((Still.drewN w1 n).below B))).2.2
  have e0 := hs1.e0
  have e1 := hs1.e1
  have HP : Hid _ := hp
  clear hp hs1
  go_wp2_with fail
  go_quiet (fail)
  go_wp2_with fail
  refine bodyPost_ret (v := .tuple #[.int .i64 n, .bool false, .bool eof, .bool past]) (by simp [results, Tryd.results20, go_sem]) rfl ?_
  exact ⟨rfl, w1, HP.out, rfl, rfl, rfl, rfl⟩


/-- The reader stands ahead of byte q. -/
def RS (w : World) (X U R D len : Nat) (da : Option Addr) (g : Nat → Int) (q : Nat) : Prop :=
  ∃ r wp pos, BSt w X U R D len da g r wp pos ∧ r ≤ wp ∧ wp ≤ 4096 ∧ wp ≤ pos ∧ pos ≤ len ∧ pos - wp + r = q
theorem BSt.keep {w w' : World} {X U R D len r wp pos : Nat} {da : Option Addr} {g : Nat → Int} (h : BSt w X U R D len da g r wp pos) (hX : w'.heap[X]? = w.heap[X]?) (hU : w'.heap[U]? = w.heap[U]?) (hR : w'.heap[R]? = w.heap[R]?) (hD : len = 0 ∨ w'.heap[D]? = w.heap[D]?) : BSt w' X U R D len da g r wp pos := by
  obtain ⟨⟨lb, lr, h1⟩, ⟨pr, h2⟩, ⟨y, h3, h4⟩, h5⟩ := h
  refine ⟨⟨lb, lr, h1.keep hX⟩, ⟨pr, hR.trans h2⟩, ⟨y, h3.keep hU, h4⟩, ?_⟩
  rcases h5 with e | ⟨e1, e2⟩
  · exact .inl e
  · rcases hD with e | e
    · exact .inl e
    · exact .inr ⟨e1, e2.keep e⟩
theorem RS.keep {w w' : World} {X U R D len q : Nat} {da : Option Addr} {g : Nat → Int} (h : RS w X U R D len da g q) (hX : w'.heap[X]? = w.heap[X]?) (hU : w'.heap[U]? = w.heap[U]?) (hR : w'.heap[R]? = w.heap[R]?) (hD : len = 0 ∨ w'.heap[D]? = w.heap[D]?) : RS w' X U R D len da g q := by
  obtain ⟨r, wp, pos, h1, h2⟩ := h
  exact ⟨r, wp, pos, h1.keep hX hU hR hD, h2⟩

structure ApartP (X U R D P : Nat) : Prop where
  ap : Apart X U R D
  XP : X ≠ P
  UP : U ≠ P
  RP : R ≠ P
  DP : D ≠ P

def ZbSome (X U R D P len q : Nat) (da : Option Addr) (g z : Nat → Int) (w : World) (e : Ending) (w' : World) : Prop :=
  ∃ n, 0 < n ∧ n ≤ 512 ∧ q + n ≤ len ∧ e = .returned (.tuple #[.int .i64 (n : Int), .bool true, .bool false, .bool false]) ∧ RS w' X U R D len da g (q + n) ∧ Own w' P 512 .u8 5 (fun i => if i < n then g (q + i) else z i) ∧ Same (fun k => k = X ∨ k = P ∨ k = R ∨ k = U) w w'

theorem zb_some (X U R D P len q : Nat) (da : Option Addr) (g z : Nat → Int) (B : Nat) (a0 a1 : Addr) (w : World) (hs : Sent w B a0 a1) (hBX : B ≤ X) (hBP : B ≤ P) (hBR : B ≤ R) (hBU : B ≤ U) (hap : ApartP X U R D P) (hst : RS w X U R D len da g q) (hP : Own w P 512 .u8 5 z) (hq : q < len) (hl : len ≤ 2097152) :
    Calls Tryd.prog 20 #[.pointer (some ⟨X, 0, none⟩), .slice (some ⟨P, 0, none⟩) 512 512] w fun e w' => ZbSome X U R D P len q da g z w e w' := by
  obtain ⟨r, wp, pos, ⟨⟨lb, lr, hx⟩, ⟨pr, hR⟩, ⟨y, hU, hy⟩, hd⟩, hr, hw, hwp, hpos, hqe⟩ := hst
  have hXN := lt_of_block hx
  have hRN := lt_of_block hR
  obtain ⟨hap1, hXP, hUP, hRP, hDP⟩ := hap
  obtain ⟨hda, hD⟩ : da = some ⟨D, 0, none⟩ ∧ Own w D len .u8 5 g := by
    rcases hd with e | e
    · omega
    · exact e
  subst hda
  have hap := hap1
  obtain ⟨hXR, hXU, hRU, hXD, hRD, hDU⟩ := hap1
  by_cases hlt : r < wp
  · refine (zb_of_nil _ _ _ false false B a0 a1 (fun w' => RdPost X U R P wp r (min (wp - r) 512) y z w w') w (rd_have X U R P r wp lb lr y z w hx hU hP hlt hw hXU hXP hUP) (fun w' h => ?_) (fun w' h => asks_nil a0 a1)).mono ?_
    · exact hs.below (h.2.2.below (by omega) (fun k hk e => by omega))
    · rintro e w' ⟨rfl, w1, ⟨⟨lb', lr', h1⟩, h2, h3⟩, h4⟩
      have h5 := h3.still h4
      refine ⟨min (wp - r) 512, by omega, by omega, by omega, rfl, ⟨r + min (wp - r) 512, wp, pos, ⟨⟨lb', lr', h1.keep (h4.blk X)⟩, ⟨pr, (h5.block R hRN (by omega)).trans hR⟩, ⟨y, hU.keep (h5.block U hU.lt (by omega)), hy⟩, .inr ⟨rfl, hD.keep (h5.block D hD.lt (by omega))⟩⟩, by omega, hw, hwp, hpos, by omega⟩, (h2.keep (h4.blk P)).congr (fun i hi => ?_), (Same.refl _ w).trans h5 (fun i _ e => by rcases e with e | e; exact .inl e; exact .inr (.inl e))⟩
      by_cases hi2 : i < min (wp - r) 512
      · rw [if_pos hi2, if_pos hi2, hy (r + i) (by omega)]
        congr 1
        omega
      · rw [if_neg hi2, if_neg hi2]
  · obtain rfl : r = wp := by omega
    have hq2 : pos = q := by omega
    subst hq2
    refine (zb_of_nil _ _ _ false false B a0 a1 (fun w' => RdFill X U R P D len pos (min (min (len - pos) 4096) 512) g z w w') w (rd_fill X U R P D r len pos pr lb lr g y z w hx hR hD hU hP hq hl hap hXP hUP hRP hDP) (fun w' h => ?_) (fun w' h => asks_nil a0 a1)).mono ?_
    · exact hs.below (h.2.2.2.2.below (by omega) (fun k hk e => by omega))
    · rintro e w' ⟨rfl, w1, ⟨⟨lb', lr', h1⟩, h2, ⟨y', h6, h7⟩, h8, h3⟩, h4⟩
      have h5 := h3.still h4
      refine ⟨min (min (len - pos) 4096) 512, by omega, by omega, by omega, rfl, ⟨min (min (len - pos) 4096) 512, min (len - pos) 4096, pos + min (len - pos) 4096, ⟨⟨lb', lr', h1.keep (h4.blk X)⟩, ⟨-1, (h4.blk R).trans h2⟩, ⟨y', h6.keep (h4.blk U), fun i hi => ?_⟩, .inr ⟨rfl, hD.keep (h5.block D hD.lt (by omega))⟩⟩, by omega, by omega, by omega, by omega, by omega⟩, h8.keep (h4.blk P), h5⟩
      rw [h7 i hi]
      congr 1
      omega

theorem zb_end (X U R D P len : Nat) (da : Option Addr) (g : Nat → Int) (B : Nat) (a0 a1 : Addr) (w : World) (hs : Sent w B a0 a1) (hBX : B ≤ X) (hap : Apart X U R D) (hst : RS w X U R D len da g len) (hl : len ≤ 2097152) :
    Calls Tryd.prog 20 #[.pointer (some ⟨X, 0, none⟩), .slice (some ⟨P, 0, none⟩) 512 512] w fun e w' => e = .returned (.tuple #[.int .i64 0, .bool false, .bool true, .bool false]) ∧ Same (· = X) w w' := by
  obtain ⟨r, wp, pos, ⟨⟨lb, lr, hx⟩, ⟨pr, hR⟩, ⟨y, hU, hy⟩, hd⟩, hr, hw, hwp, hpos, hqe⟩ := hst
  obtain rfl : r = wp := by omega
  obtain rfl : pos = len := by omega
  have hXN := lt_of_block hx
  have h2 := hs.pos
  refine (zb_of_ptr _ _ _ a0 true false B a0 a1 (fun w' => Same (· = X) w w') w (rd_eof X U R P r pos pos da pr lb lr a0 w hx hR hs.e0 (by omega) hl hap.XR) (fun w' h => ?_) (fun w' h => asks_eof h)).mono ?_
  · exact hs.below (h.below (by omega) (fun k hk e => by omega))
  · rintro e w' ⟨rfl, w1, h1, h4⟩
    exact ⟨rfl, h1.still h4⟩
end Go.Proofs.Qxb6615636aDoor
