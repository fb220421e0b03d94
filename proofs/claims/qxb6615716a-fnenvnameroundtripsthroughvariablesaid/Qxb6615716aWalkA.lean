/-
  THE WALKS of the seat b6615716a: HasPrefix, CutPrefix, TrimPrefix at a text that begins with "env.".
-/
import Derived.Test.Qxb6615716aRows
import Derived.WalkKit
import Derived.ProofKit
import Derived.OpenShut
import Derived.ShutString
import Derived.BigQuiet
import Derived.WalkSpells
import Derived.Outline
namespace Go.Proofs.Qxb6615716a
open Go.ChangeShapes Go.WideShapes Go.ChangeAt Go.RowKit
set_option linter.unusedVariables false

abbrev envS : ByteArray := { data := #[101, 110, 118, 46] }
abbrev argS : ByteArray := { data := #[97, 114, 103, 46] }

theorem has_env (s : ByteArray) (w : World) (h4 : 4 ≤ s.size) (hm : s.size ≤ 2097152) (hp : s.extract 0 4 = envS) : Calls Try.prog 15 #[.string s, .string envS] w fun e w' => e = .returned (.bool true) ∧ w' = w := by
  have k1 : (4 : Int) ≤ (s.size : Int) := by omega
  go_enter Try.func15, Try.ntmps15
  go_wp2_with fail
  go_ret
  exact ⟨by simp, rfl⟩
theorem has_arg (s : ByteArray) (w : World) (h4 : 4 ≤ s.size) (hm : s.size ≤ 2097152) (hp : s.extract 0 4 = envS) : Calls Try.prog 15 #[.string s, .string argS] w fun e w' => e = .returned (.bool false) ∧ w' = w := by
  have k1 : (4 : Int) ≤ (s.size : Int) := by omega
  go_enter Try.func15, Try.ntmps15
  go_wp2_with fail
  go_ret
  exact ⟨by simp, rfl⟩
theorem ext1 (n : ByteArray) : (envS ++ n).extract 0 4 = envS := by
  apply ByteArray.ext
  simp [ByteArray.data_extract, ByteArray.data_append]
theorem ext2 (n : ByteArray) : (envS ++ n).extract 4 (envS ++ n).size = n := by
  apply ByteArray.ext
  simp [ByteArray.data_extract, ByteArray.data_append]
  right
  have : envS.size = 4 := rfl
  omega
theorem ext3 (n : ByteArray) : (envS ++ n).size = 4 + n.size := by
  simp [ByteArray.size_append]
  rfl

theorem cut13 (s : ByteArray) (w : World) (h4 : 4 ≤ s.size) (hm : s.size ≤ 2097152) (hp : s.extract 0 4 = envS) : Calls Try.prog 13 #[.string s, .string argS] w fun e w' => e = .returned (.tuple #[.string s, .bool false]) ∧ w' = w := by
  go_enter Try.func13, Try.ntmps13
  go_wp2_with fail
  refine (has_arg s w h4 hm hp).mono ?_
  rintro e w1 ⟨rfl, rfl⟩
  go_wp2_with fail
  go_ret2
  exact ⟨rfl, rfl⟩
theorem cut11 (s : ByteArray) (w : World) (h4 : 4 ≤ s.size) (hm : s.size ≤ 2097152) (hp : s.extract 0 4 = envS) : Calls Try.prog 11 #[.string s, .string argS] w fun e w' => e = .returned (.tuple #[.string s, .bool false]) ∧ w' = w := by
  go_enter Try.func11, Try.ntmps11
  go_wp2_with fail
  refine (cut13 s w h4 hm hp).mono ?_
  rintro e w1 ⟨rfl, rfl⟩
  go_wp2_with fail
  go_ret2
  exact ⟨rfl, rfl⟩
theorem trim14 (s n : ByteArray) (w : World) (h4 : 4 ≤ s.size) (hm : s.size ≤ 2097152) (hp : s.extract 0 4 = envS) (hr : s.extract 4 s.size = n) : Calls Try.prog 14 #[.string s, .string envS] w fun e w' => e = .returned (.string n) ∧ w' = w := by
  have k1 : (4 : Int) ≤ (s.size : Int) := by omega
  go_enter Try.func14, Try.ntmps14
  go_wp2_with fail
  refine (has_env s w h4 hm hp).mono ?_
  rintro e w1 ⟨rfl, rfl⟩
  go_wp2_with fail
  go_ret
  exact ⟨by simp, rfl⟩
theorem trim12 (s n : ByteArray) (w : World) (h4 : 4 ≤ s.size) (hm : s.size ≤ 2097152) (hp : s.extract 0 4 = envS) (hr : s.extract 4 s.size = n) : Calls Try.prog 12 #[.string s, .string envS] w fun e w' => e = .returned (.string n) ∧ w' = w := by
  go_enter Try.func12, Try.ntmps12
  go_wp2_with fail
  refine (trim14 s n w h4 hm hp hr).mono ?_
  rintro e w1 ⟨rfl, rfl⟩
  go_wp2_with fail
  go_ret
  exact ⟨rfl, rfl⟩
abbrev outS : ByteArray := { data := #[82, 69, 72, 69, 65, 82, 83, 65, 76, 95, 69, 78, 86, 95] }
theorem var10 (s n : ByteArray) (w : World) (h4 : 4 ≤ s.size) (hm : s.size ≤ 2097152) (hp : s.extract 0 4 = envS) (hr : s.extract 4 s.size = n) : Calls Try.prog 10 #[.string s] w fun e w' => e = .returned (.tuple #[.string outS, .string n]) ∧ w' = w := by
  go_enter Try.func10, Try.ntmps10
  go_wp2_with fail
  refine (cut11 s w h4 hm hp).mono ?_
  rintro e w1 ⟨rfl, rfl⟩
  go_wp2_with fail
  refine (trim12 s n _ h4 hm hp hr).mono ?_
  rintro e w1 ⟨rfl, rfl⟩
  go_wp2_with fail
  go_ret2
  exact ⟨rfl, rfl⟩
theorem var7 (s n : ByteArray) (w : World) (h4 : 4 ≤ s.size) (hm : s.size ≤ 2097152) (hp : s.extract 0 4 = envS) (hr : s.extract 4 s.size = n) : Calls Try.prog 7 #[.string s] w fun e w' => e = .returned (.tuple #[.string outS, .string n]) ∧ w' = w := by
  go_enter Try.func7, Try.ntmps7
  go_wp2_with fail
  refine (var10 s n w h4 hm hp hr).mono ?_
  rintro e w1 ⟨rfl, rfl⟩
  go_wp2_with fail
  go_ret2
  exact ⟨rfl, rfl⟩
theorem env9 (n : ByteArray) (w : World) (hn : n.size ≤ 1048576) : Calls Try.prog 9 #[.string n] w fun e w' => e = .returned (.string (envS ++ n)) ∧ w' = w := by
  have hsz := ext3 n
  have hsz2 : (envS ++ n).size ≤ 1048580 := by omega
  go_enter Try.func9, Try.ntmps9
  go_wp2_with fail
  go_ret
  exact ⟨rfl, rfl⟩
theorem env6 (n : ByteArray) (w : World) (hn : n.size ≤ 1048576) : Calls Try.prog 6 #[.string n] w fun e w' => e = .returned (.string (envS ++ n)) ∧ w' = w := by
  go_enter Try.func6, Try.ntmps6
  go_wp2_with fail
  refine (env9 n w hn).mono ?_
  rintro e w1 ⟨rfl, rfl⟩
  go_wp2_with fail
  go_ret
  exact ⟨rfl, rfl⟩
theorem fit5 (n : ByteArray) (w : World) (h : n.size ≤ maxLen) : Calls Try.prog 5 #[.string n] w fun e w' => e = .returned (.bool (decide (n.size ≤ 1048576))) ∧ w' = w := by
  unfold maxLen at h
  by_cases g1 : 1048576 < n.size
  · have g2 : decide (n.size ≤ 1048576) = false := by simp; omega
    rw [g2]
    go_enter Try.func5, Try.ntmps5
    go_wp2_with fail
    go_ret
    exact ⟨rfl, rfl⟩
  · have g2 : decide (n.size ≤ 1048576) = true := by simp; omega
    rw [g2]
    go_enter Try.func5, Try.ntmps5
    go_wp2_with fail
    go_ret
    exact ⟨rfl, rfl⟩
theorem law3 (n : ByteArray) (h : n.size ≤ maxLen) (w : World) : Calls Try.prog 3 #[.string n] w fun e w' => e = .returned (.bool true) ∧ w' = w := by
  by_cases g1 : n.size ≤ 1048576
  · have g2 : decide (n.size ≤ 1048576) = true := by simpa using g1
    have hf := fit5 n w h
    rw [g2] at hf
    have hsz := ext3 n
    have hne : ((envS ++ n).toList == n.toList) = false := by
      rw [beq_eq_false_iff_ne]
      intro e
      have e2 := congrArg List.length e
      rw [ByteArray.toList_eq, ByteArray.toList_eq, Array.length_toList, Array.length_toList] at e2
      have e3 : (envS ++ n).size = n.size := e2
      omega
    have HF : Hid _ := hf
    have HSZ : Hid _ := hsz
    clear hf hsz g2
    go_enter Try.func3, Try.ntmps3
    go_wp2_with fail
    refine Calls.mono HF.out ?_
    rintro e w1 ⟨rfl, rfl⟩
    go_wp2_with fail
    refine Calls.mono (env6 n _ g1) ?_
    rintro e w1 ⟨rfl, rfl⟩
    go_wp2_with fail
    refine Calls.mono (var7 (envS ++ n) n _ (by rw [HSZ.out]; omega) (by rw [HSZ.out]; omega) (ext1 n) (ext2 n)) ?_
    rintro e w1 ⟨rfl, rfl⟩
    go_wp2_with fail
    go_ret
    exact ⟨rfl, rfl⟩
  · have g2 : decide (n.size ≤ 1048576) = false := by simpa using g1
    have hf := fit5 n w h
    rw [g2] at hf
    have HF : Hid _ := hf
    clear hf g2
    go_enter Try.func3, Try.ntmps3
    go_wp2_with fail
    refine Calls.mono HF.out ?_
    rintro e w1 ⟨rfl, rfl⟩
    go_wp2_with fail
    go_ret
    exact ⟨rfl, rfl⟩
end Go.Proofs.Qxb6615716a
