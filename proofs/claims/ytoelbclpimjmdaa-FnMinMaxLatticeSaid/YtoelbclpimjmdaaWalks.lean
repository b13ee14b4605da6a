/-
  Contracts of difflib's min and max, and the six laws over them: each law's walk returns true for all ints.
-/
import Derived.Test.YtoelbclpimjmdaaRows
import Derived.WalkKit
import Derived.Lib.Hide
import Derived.Outline
import Derived.Deep.QuietTactic
import Derived.BigQuiet
namespace Go.Proofs.Ytoelbclpimjmdaa
open Go.RowKit
set_option linter.unusedVariables false

def mx (a b : Int) : Int := if b < a then a else b
def mn (a b : Int) : Int := if a < b then a else b

theorem max_any (a b : Int) (w : World) : Calls Try.prog 9 #[.int .i64 a, .int .i64 b] w fun e w' => e = .returned (.int .i64 (mx a b)) ∧ w = w' := by
  by_cases h : b < a
  · have hm : mx a b = a := by simp [mx, h]
    rw [hm]
    clear hm
    go_enter Try.func9, Try.ntmps9
    go_wp2
    go_ret
    exact ⟨rfl, rfl⟩
  · have hm : mx a b = b := by simp [mx, h]
    rw [hm]
    clear hm
    go_enter Try.func9, Try.ntmps9
    go_wp2
    go_ret
    exact ⟨rfl, rfl⟩

theorem min_any (a b : Int) (w : World) : Calls Try.prog 10 #[.int .i64 a, .int .i64 b] w fun e w' => e = .returned (.int .i64 (mn a b)) ∧ w = w' := by
  by_cases h : a < b
  · have hm : mn a b = a := by simp [mn, h]
    rw [hm]
    clear hm
    go_enter Try.func10, Try.ntmps10
    go_wp2
    go_ret
    exact ⟨rfl, rfl⟩
  · have hm : mn a b = b := by simp [mn, h]
    rw [hm]
    clear hm
    go_enter Try.func10, Try.ntmps10
    go_wp2
    go_ret
    exact ⟨rfl, rfl⟩

theorem ret_true {x : Bool} (h : x = true) : Ending.returned (.bool x) = .returned (.bool true) := by rw [h]

theorem mx_cases (a b : Int) : (b < a ∧ mx a b = a) ∨ (a ≤ b ∧ mx a b = b) := by
  unfold mx; split <;> omega
theorem mn_cases (a b : Int) : (a < b ∧ mn a b = a) ∨ (b ≤ a ∧ mn a b = b) := by
  unfold mn; split <;> omega

theorem lub_eq (a b c : Int) : ((decide (a ≤ c) && decide (b ≤ c)) == decide (mx a b ≤ c)) = true := by
  rcases mx_cases a b with ⟨h, e⟩ | ⟨h, e⟩ <;> rw [e] <;> by_cases h1 : a ≤ c <;> by_cases h2 : b ≤ c <;> simp [h1, h2] <;> omega
theorem glb_eq (a b c : Int) : ((decide (c ≤ a) && decide (c ≤ b)) == decide (c ≤ mn a b)) = true := by
  rcases mn_cases a b with ⟨h, e⟩ | ⟨h, e⟩ <;> rw [e] <;> by_cases h1 : c ≤ a <;> by_cases h2 : c ≤ b <;> simp [h1, h2] <;> omega

theorem lub_walk (a b c : Int) (w : World) (w0 : (Lit.int .i64 a).wf = true) (w1 : (Lit.int .i64 b).wf = true) (w2 : (Lit.int .i64 c).wf = true) : Calls Try.prog 3 #[.int .i64 a, .int .i64 b, .int .i64 c] w fun e w' => e = .returned (.bool true) ∧ Below w.heap.size w w' := by
  have H := Lib.hid (lub_eq a b c)
  by_cases h1 : a ≤ c
  · go_enter Try.func3, Try.ntmps3
    go_wp2_with (go_at_call 9; refine (max_any _ _ _).mono ?_; rintro e w' ⟨rfl, rfl⟩)
    go_ret
    exact ⟨ret_true (by simpa [h1] using H.out), Below.refl _ _⟩
  · have h1' : decide (a ≤ c) = false := by simpa using h1
    go_enter Try.func3, Try.ntmps3
    go_wp2_with (go_at_call 9; refine (max_any _ _ _).mono ?_; rintro e w' ⟨rfl, rfl⟩)
    go_ret
    exact ⟨ret_true (by have h := H.out; rw [h1'] at h; simpa using h), Below.refl _ _⟩
theorem glb_walk (a b c : Int) (w : World) (w0 : (Lit.int .i64 a).wf = true) (w1 : (Lit.int .i64 b).wf = true) (w2 : (Lit.int .i64 c).wf = true) : Calls Try.prog 4 #[.int .i64 a, .int .i64 b, .int .i64 c] w fun e w' => e = .returned (.bool true) ∧ Below w.heap.size w w' := by
  have H := Lib.hid (glb_eq a b c)
  by_cases h1 : c ≤ a
  · go_enter Try.func4, Try.ntmps4
    go_wp2_with (go_at_call 10; refine (min_any _ _ _).mono ?_; rintro e w' ⟨rfl, rfl⟩)
    go_ret
    exact ⟨ret_true (by simpa [h1] using H.out), Below.refl _ _⟩
  · have h1' : decide (c ≤ a) = false := by simpa using h1
    go_enter Try.func4, Try.ntmps4
    go_wp2_with (go_at_call 10; refine (min_any _ _ _).mono ?_; rintro e w' ⟨rfl, rfl⟩)
    go_ret
    exact ⟨ret_true (by have h := H.out; rw [h1'] at h; simpa using h), Below.refl _ _⟩

theorem split_walk (a b : Int) (w : World) (w0 : (Lit.int .i64 a).wf = true) (w1 : (Lit.int .i64 b).wf = true) : Calls Try.prog 5 #[.int .i64 a, .int .i64 b] w fun e w' => e = .returned (.bool true) ∧ Below w.heap.size w w' := by
  rcases Int.lt_trichotomy a b with h | h | h
  · have e1 : mn a b = a := by simp [mn, h]
    have e2 : mx a b = b := by unfold mx; rw [if_neg (by omega)]
    go_enter Try.func5, Try.ntmps5
    go_wp2_with (first | (go_at_call 9; refine (max_any _ _ _).mono ?_; rintro e w' ⟨rfl, rfl⟩) | (go_at_call 10; refine (min_any _ _ _).mono ?_; rintro e w' ⟨rfl, rfl⟩))
    go_ret
    exact ⟨rfl, Below.refl _ _⟩
  · subst h
    have e1 : mn a a = a := by simp [mn]
    have e2 : mx a a = a := by simp [mx]
    go_enter Try.func5, Try.ntmps5
    go_wp2_with (first | (go_at_call 9; refine (max_any _ _ _).mono ?_; rintro e w' ⟨rfl, rfl⟩) | (go_at_call 10; refine (min_any _ _ _).mono ?_; rintro e w' ⟨rfl, rfl⟩))
    go_ret
    exact ⟨rfl, Below.refl _ _⟩
  · have e1 : mn a b = b := by unfold mn; rw [if_neg (by omega)]
    have e2 : mx a b = a := by simp [mx, h]
    have e3 : (b == a) = false := by simp; omega
    go_enter Try.func5, Try.ntmps5
    go_wp2_with (first | (go_at_call 9; refine (max_any _ _ _).mono ?_; rintro e w' ⟨rfl, rfl⟩) | (go_at_call 10; refine (min_any _ _ _).mono ?_; rintro e w' ⟨rfl, rfl⟩))
    go_ret
    exact ⟨rfl, Below.refl _ _⟩

theorem mx_assoc (a b c : Int) : (mx (mx a b) c != mx a (mx b c)) = false := by
  simp; unfold mx; (repeat' split) <;> omega
theorem mx_comm (a b : Int) : (mx a b != mx b a) = false := by
  simp; unfold mx; (repeat' split) <;> omega
theorem mx_idem (a : Int) : (mx a a == a) = true := by simp [mx]
theorem mn_assoc (a b c : Int) : (mn (mn a b) c != mn a (mn b c)) = false := by
  simp; unfold mn; (repeat' split) <;> omega
theorem mn_comm (a b : Int) : (mn a b != mn b a) = false := by
  simp; unfold mn; (repeat' split) <;> omega
theorem mn_idem (a : Int) : (mn a a == a) = true := by simp [mn]

theorem maxaci_walk (a b c : Int) (w : World) (w0 : (Lit.int .i64 a).wf = true) (w1 : (Lit.int .i64 b).wf = true) (w2 : (Lit.int .i64 c).wf = true) : Calls Try.prog 6 #[.int .i64 a, .int .i64 b, .int .i64 c] w fun e w' => e = .returned (.bool true) ∧ Below w.heap.size w w' := by
  have h1 := mx_assoc a b c
  have h2 := mx_comm a b
  have h3 := mx_idem a
  go_enter Try.func6, Try.ntmps6
  go_wp2_with (go_at_call 9; refine (max_any _ _ _).mono ?_; rintro e w' ⟨rfl, rfl⟩)
  go_ret
  exact ⟨rfl, Below.refl _ _⟩
theorem minaci_walk (a b c : Int) (w : World) (w0 : (Lit.int .i64 a).wf = true) (w1 : (Lit.int .i64 b).wf = true) (w2 : (Lit.int .i64 c).wf = true) : Calls Try.prog 7 #[.int .i64 a, .int .i64 b, .int .i64 c] w fun e w' => e = .returned (.bool true) ∧ Below w.heap.size w w' := by
  have h1 := mn_assoc a b c
  have h2 := mn_comm a b
  have h3 := mn_idem a
  go_enter Try.func7, Try.ntmps7
  go_wp2_with (go_at_call 10; refine (min_any _ _ _).mono ?_; rintro e w' ⟨rfl, rfl⟩)
  go_ret
  exact ⟨rfl, Below.refl _ _⟩

theorem lat1 (a b : Int) : (mn a (mx a b) != a) = false := by
  simp; unfold mn mx; (repeat' split) <;> omega
theorem lat2 (a b : Int) : (mx a (mn a b) != a) = false := by
  simp; unfold mn mx; (repeat' split) <;> omega
theorem lat3 (a b c : Int) : (mn a (mx b c) != mx (mn a b) (mn a c)) = false := by
  simp; unfold mn mx; (repeat' split) <;> omega
theorem lat4 (a b c : Int) : (mx a (mn b c) == mn (mx a b) (mx a c)) = true := by
  simp; unfold mn mx; (repeat' split) <;> omega

theorem lattice_walk (a b c : Int) (w : World) (w0 : (Lit.int .i64 a).wf = true) (w1 : (Lit.int .i64 b).wf = true) (w2 : (Lit.int .i64 c).wf = true) : Calls Try.prog 8 #[.int .i64 a, .int .i64 b, .int .i64 c] w fun e w' => e = .returned (.bool true) ∧ Below w.heap.size w w' := by
  have h1 := lat1 a b
  have h2 := lat2 a b
  have h3 := lat3 a b c
  have h4 := lat4 a b c
  go_enter Try.func8, Try.ntmps8
  go_wp2_with (first | (go_at_call 9; refine (max_any _ _ _).mono ?_; rintro e w' ⟨rfl, rfl⟩) | (go_at_call 10; refine (min_any _ _ _).mono ?_; rintro e w' ⟨rfl, rfl⟩))
  go_ret
  exact ⟨rfl, Below.refl _ _⟩
end Go.Proofs.Ytoelbclpimjmdaa
