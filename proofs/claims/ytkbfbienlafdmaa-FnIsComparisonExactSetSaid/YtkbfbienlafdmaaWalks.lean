/-
  Contracts of IsBoolean, IsComparison and of the laws' byte-by-byte models, and the two laws over them, for every string.
-/
import Derived.Test.YtkbfbienlafdmaaRows
import Derived.WalkKit
import Derived.Lib.Hide
import Derived.Outline
import Derived.Deep.QuietTactic
import Derived.BigQuiet
import Derived.WalkSpells
import Derived.WalkLawsBesides
import Derived.WalkSmall
import Derived.Deep.Light
namespace Go.Proofs.Ytkbfbienlafdmaa
open Go.RowKit
set_option linter.unusedVariables false

theorem ret_bool {x y : Bool} (h : x = y) : Ending.returned (.bool x) = .returned (.bool y) := by rw [h]
def isB (l : List UInt8) : Bool := l == [97, 110, 100] || l == [111, 114] || l == [38, 38] || l == [124, 124]
def isC (l : List UInt8) : Bool := l == [60] || l == [62] || l == [62, 61] || l == [60, 61]

theorem isBool_any (s : ByteArray) (w : World) : Calls Try.prog 6 #[.string s] w fun e w' => e = .returned (.bool (isB s.toList)) ∧ w = w' := by
  go_enter Try.func6, Try.ntmps6
  go_wp2
  all_goals go_ret
  all_goals refine ⟨ret_bool ?_, rfl⟩
  all_goals simp [isB, *]
theorem isCmp_any (s : ByteArray) (w : World) : Calls Try.prog 9 #[.string s] w fun e w' => e = .returned (.bool (isC s.toList)) ∧ w = w' := by
  go_enter Try.func9, Try.ntmps9
  go_wp2
  all_goals go_ret
  all_goals refine ⟨ret_bool ?_, rfl⟩
  all_goals simp [isC, *]

theorem list1 (s : ByteArray) (h : s.size = 1) : s.toList = [s[0]] := by
  rw [ByteArray.toList_eq]
  obtain ⟨⟨l⟩⟩ := s
  match l, h with
  | [a], _ => rfl
theorem list2 (s : ByteArray) (h : s.size = 2) : s.toList = [s[0], s[1]] := by
  rw [ByteArray.toList_eq]
  obtain ⟨⟨l⟩⟩ := s
  match l, h with
  | [a, b], _ => rfl
theorem list3 (s : ByteArray) (h : s.size = 3) : s.toList = [s[0], s[1], s[2]] := by
  rw [ByteArray.toList_eq]
  obtain ⟨⟨l⟩⟩ := s
  match l, h with
  | [a, b, c], _ => rfl
theorem len_eq (s : ByteArray) : s.toList.length = s.size := by rw [ByteArray.toList_eq]; rfl
theorem isB_two (a b : UInt8) : isB [a, b] = ((((a.toNat : Int) == 111) && ((b.toNat : Int) == 114)) || (((a.toNat : Int) == 38) && ((b.toNat : Int) == 38)) || (((a.toNat : Int) == 124) && ((b.toNat : Int) == 124))) := by
  rw [Bool.eq_iff_iff]
  simp [isB, ← UInt8.toNat_inj]
  omega
theorem isB_three (a b c : UInt8) : isB [a, b, c] = ((((a.toNat : Int) == 97) && ((b.toNat : Int) == 110)) && ((c.toNat : Int) == 100)) := by
  rw [Bool.eq_iff_iff]
  simp [isB, ← UInt8.toNat_inj]
  omega
theorem isB_other (s : ByteArray) (h2 : s.size ≠ 2) (h3 : s.size ≠ 3) : isB s.toList = false := by
  rw [← len_eq s] at h2 h3
  rw [Bool.eq_false_iff]
  intro h
  simp [isB] at h
  rcases h with ((h | h) | h) | h <;> rw [h] at h2 h3 <;> simp at h2 h3
theorem isC_one (a : UInt8) : isC [a] = (((a.toNat : Int) == 60) || ((a.toNat : Int) == 62)) := by
  rw [Bool.eq_iff_iff]
  simp [isC, ← UInt8.toNat_inj]
  omega
theorem isC_two (a b : UInt8) : isC [a, b] = ((((a.toNat : Int) == 60) || ((a.toNat : Int) == 62)) && ((b.toNat : Int) == 61)) := by
  rw [Bool.eq_iff_iff]
  simp [isC, ← UInt8.toNat_inj]
  omega
theorem isC_other (s : ByteArray) (h2 : s.size ≠ 1) (h3 : s.size ≠ 2) : isC s.toList = false := by
  rw [← len_eq s] at h2 h3
  rw [Bool.eq_false_iff]
  intro h
  simp [isC] at h
  rcases h with ((h | h) | h) | h <;> rw [h] at h2 h3 <;> simp at h2 h3

theorem modelB_two (s : ByteArray) (w : World) (hs : s.size = 2) : Calls Try.prog 7 #[.string s] w fun e w' => e = .returned (.bool (isB s.toList)) ∧ Below w.heap.size w w' := by
  rw [list2 s hs, isB_two]
  have z2 : ((s.size : Int) == 2) = true := by simp [hs]
  have z0 : 0 < s.size := by omega
  have z1 : 1 < s.size := by omega
  have z1' : (1 : Int) < (s.size : Int) := by omega
  generalize hA : ((s[0].toNat : Int)) = A
  generalize hB : ((s[1].toNat : Int)) = B
  clear hs
  cases h1 : (A == B) <;> cases h2 : (A == 38) <;> cases h3 : (A == 124) <;> cases h4 : (A == 111) <;> cases h5 : (B == 114)
  all_goals
    go_enter Try.func7, Try.ntmps7
    go_wp2
    go_quiet (fail)
    go_wp2
    go_ret
    refine ⟨ret_bool ?_, below_drewN (Below.refl _ _) _⟩
    clear hA hB z2 z0 z1 z1'
    simp at h1 h2 h3 h4 h5
    rw [Bool.eq_iff_iff]
    simp
    all_goals omega

theorem modelB_any (s : ByteArray) (w : World) : Calls Try.prog 7 #[.string s] w fun e w' => e = .returned (.bool (isB s.toList)) ∧ Below w.heap.size w w' := by
  by_cases hs : s.size = 2
  · exact modelB_two s w hs
  · by_cases hs3 : s.size = 3
    · rw [list3 s hs3, isB_three]
      have z2 : ((s.size : Int) == 2) = false := by simp [hs3]
      have z3 : ((s.size : Int) == 3) = true := by simp [hs3]
      have z0 : 0 < s.size := by omega
      have z1 : 1 < s.size := by omega
      have z1' : (1 : Int) < (s.size : Int) := by omega
      have z2' : (2 : Int) < (s.size : Int) := by omega
      have z3' : 2 < s.size := by omega
      generalize hA : ((s[0].toNat : Int)) = A
      generalize hB : ((s[1].toNat : Int)) = B
      generalize hC : ((s[2].toNat : Int)) = C
      clear hs hs3
      cases h1 : (A == 97) <;> cases h2 : (B == 110) <;> cases h3 : (C == 100)
      all_goals
        go_enter Try.func7, Try.ntmps7
        go_wp2
        go_ret
        exact ⟨rfl, Below.refl _ _⟩
    · rw [isB_other s hs hs3]
      have z2 : ((s.size : Int) == 2) = false := by simp; omega
      have z3 : ((s.size : Int) == 3) = false := by simp; omega
      clear hs hs3
      go_enter Try.func7, Try.ntmps7
      go_wp2
      go_ret
      exact ⟨rfl, Below.refl _ _⟩

theorem modelC_any (s : ByteArray) (w : World) : Calls Try.prog 10 #[.string s] w fun e w' => e = .returned (.bool (isC s.toList)) ∧ Below w.heap.size w w' := by
  by_cases hs : s.size = 1
  · rw [list1 s hs, isC_one]
    have z1 : ((s.size : Int) < 1) = False := by simp [hs]
    have z2 : ((s.size : Int) == 2) = false := by simp [hs]
    have z0 : 0 < s.size := by omega
    have z3 : (s.size : Int) ≤ 2 := by omega
    have z4 : 1 ≤ (s.size : Int) := by omega
    generalize hA : ((s[0].toNat : Int)) = A
    clear hs z1
    cases h1 : (A == 60) <;> cases h2 : (A == 62)
    all_goals
      have n1 : (A != 60) = !(A == 60) := rfl
      have n2 : (A != 62) = !(A == 62) := rfl
      go_enter Try.func10, Try.ntmps10
      go_wp2
      go_ret
      exact ⟨rfl, Below.refl _ _⟩
  · by_cases hs2 : s.size = 2
    · rw [list2 s hs2, isC_two]
      have z2 : ((s.size : Int) == 2) = true := by simp [hs2]
      have z0 : 0 < s.size := by omega
      have z1 : 1 < s.size := by omega
      have z3 : (s.size : Int) ≤ 2 := by omega
      have z4 : 1 ≤ (s.size : Int) := by omega
      have z5 : (1 : Int) < (s.size : Int) := by omega
      generalize hA : ((s[0].toNat : Int)) = A
      generalize hB : ((s[1].toNat : Int)) = B
      clear hs hs2
      cases h1 : (A == 60) <;> cases h2 : (A == 62) <;> cases h3 : (B == 61)
      all_goals
        have n1 : (A != 60) = !(A == 60) := rfl
        have n2 : (A != 62) = !(A == 62) := rfl
        go_enter Try.func10, Try.ntmps10
        go_wp2
        go_ret
        exact ⟨rfl, Below.refl _ _⟩
    · rw [isC_other s hs hs2]
      have z : (s.size : Int) < 1 ∨ 2 < (s.size : Int) := by omega
      clear hs hs2
      rcases z with z | z
      all_goals
        go_enter Try.func10, Try.ntmps10
        go_wp2
        go_ret
        exact ⟨rfl, Below.refl _ _⟩

theorem bytesB_any (s : ByteArray) (w : World) (hs : s.size ≤ maxLen) : Calls Try.prog 5 #[.string s] w fun e w' => e = .returned (.bool (decide (s.size ≤ 1048576))) ∧ w = w' := by
  unfold maxLen at hs
  by_cases h : s.size ≤ 1048576
  · rw [decide_eq_true h]
    have h' : (s.size : Int) ≤ 1048576 := by omega
    go_enter Try.func5, Try.ntmps5
    go_wp2
    go_ret
    exact ⟨rfl, rfl⟩
  · rw [decide_eq_false h]
    have h' : 1048576 < (s.size : Int) := by omega
    clear h
    go_enter Try.func5, Try.ntmps5
    go_wp2
    go_ret
    exact ⟨rfl, rfl⟩
theorem bytesC_any (s : ByteArray) (w : World) (hs : s.size ≤ maxLen) : Calls Try.prog 8 #[.string s] w fun e w' => e = .returned (.bool (decide (s.size ≤ 1048576))) ∧ w = w' := by
  unfold maxLen at hs
  by_cases h : s.size ≤ 1048576
  · rw [decide_eq_true h]
    have h' : (s.size : Int) ≤ 1048576 := by omega
    go_enter Try.func8, Try.ntmps8
    go_wp2
    go_ret
    exact ⟨rfl, rfl⟩
  · rw [decide_eq_false h]
    have h' : 1048576 < (s.size : Int) := by omega
    clear h
    go_enter Try.func8, Try.ntmps8
    go_wp2
    go_ret
    exact ⟨rfl, rfl⟩

theorem boolean_walk (s : ByteArray) (w : World) (w0 : s.size ≤ maxLen) : Calls Try.prog 3 #[.string s] w fun e w' => e = .returned (.bool true) ∧ Below w.heap.size w w' := by
  by_cases h : s.size ≤ 1048576
  · have hd : decide (s.size ≤ 1048576) = true := decide_eq_true h
    have h' : (s.size : Int) ≤ 1048576 := by omega
    go_enter Try.func3, Try.ntmps3
    go_wp2_with fail
    refine (bytesB_any _ _ w0).mono ?_
    rintro e w' ⟨rfl, rfl⟩
    go_wp2_with fail
    refine (isBool_any _ _).mono ?_
    rintro e w' ⟨rfl, rfl⟩
    go_wp2_with fail
    refine (modelB_any _ _).mono ?_
    rintro e w' ⟨rfl, hb⟩
    go_wp2_with fail
    go_ret
    exact ⟨ret_bool (by simp), hb⟩
  · have hd : decide (s.size ≤ 1048576) = false := decide_eq_false h
    go_enter Try.func3, Try.ntmps3
    go_wp2_with fail
    refine (bytesB_any _ _ w0).mono ?_
    rintro e w' ⟨rfl, rfl⟩
    go_wp2_with fail
    go_ret
    exact ⟨rfl, Below.refl _ _⟩
theorem comparison_walk (s : ByteArray) (w : World) (w0 : s.size ≤ maxLen) : Calls Try.prog 4 #[.string s] w fun e w' => e = .returned (.bool true) ∧ Below w.heap.size w w' := by
  by_cases h : s.size ≤ 1048576
  · have hd : decide (s.size ≤ 1048576) = true := decide_eq_true h
    have h' : (s.size : Int) ≤ 1048576 := by omega
    go_enter Try.func4, Try.ntmps4
    go_wp2_with fail
    refine (bytesC_any _ _ w0).mono ?_
    rintro e w' ⟨rfl, rfl⟩
    go_wp2_with fail
    refine (isCmp_any _ _).mono ?_
    rintro e w' ⟨rfl, rfl⟩
    go_wp2_with fail
    refine (modelC_any _ _).mono ?_
    rintro e w' ⟨rfl, hb⟩
    go_wp2_with fail
    go_ret
    exact ⟨ret_bool (by simp), hb⟩
  · have hd : decide (s.size ≤ 1048576) = false := decide_eq_false h
    go_enter Try.func4, Try.ntmps4
    go_wp2_with fail
    refine (bytesC_any _ _ w0).mono ?_
    rintro e w' ⟨rfl, rfl⟩
    go_wp2_with fail
    go_ret
    exact ⟨rfl, Below.refl _ _⟩
end Go.Proofs.Ytkbfbienlafdmaa
