/-
  The contract of lower, and the two laws over it, for every int32.
-/
import Derived.Test.YticcegklkibogaaRows
import Derived.Test.YticcegklkibogaaBits
import Derived.WalkKit
import Derived.Lib.Hide
import Derived.Outline
import Derived.WalkSpells
import Derived.WalkLawsBesides
namespace Go.Proofs.Yticcegklkibogaa
open Go.RowKit
set_option linter.unusedVariables false

theorem bounds_i32 {a : Int} (h : (Lit.int .i32 a).wf = true) : -2147483648 ≤ a ∧ a ≤ 2147483647 := by
  simpa [Lit.wf, IntKind.min, IntKind.max, IntKind.signed, IntKind.bits] using h

def lw (r : Int) : Int := r + 32 * (1 - r / 32 % 2)
theorem ret_int {k : IntKind} {a b : Int} (h : a = b) : Ending.returned (.int k a) = .returned (.int k b) := by rw [h]
theorem ret_true {x : Bool} (h : x = true) : Ending.returned (.bool x) = .returned (.bool true) := by rw [h]

theorem lower_any (r : Int) (w : World) (h1 : -2147483648 ≤ r) (h2 : r ≤ 2147483647) :
    Calls Try.prog 5 #[.int .i32 r] w fun e w' => e = .returned (.int .i32 (lw r)) ∧ w = w' := by
  go_enter Try.func5, Try.ntmps5
  go_wp2
  go_ret
  exact ⟨ret_int (or32 r h1 h2), rfl⟩

theorem pair_walk (r : Int) (w : World) (w0 : (Lit.int .i32 r).wf = true) :
    Calls Try.prog 3 #[.int .i32 r] w fun e w' => e = .returned (.bool true) ∧ Below w.heap.size w w' := by
  obtain ⟨h1, h2⟩ := bounds_i32 w0
  have hx := xor32 r h1 h2
  by_cases h : r / 32 % 2 = 0
  · have e1 : bits .xor .i32 r 32 = r + 32 := by rw [hx]; omega
    have e2 : lw r = r + 32 := by unfold lw; omega
    clear hx h
    go_enter Try.func3, Try.ntmps3
    go_wp2_with (go_at_call 5; refine (lower_any _ _ h1 h2).mono ?_; rintro e w' ⟨rfl, rfl⟩)
    go_ret
    exact ⟨rfl, Below.refl _ _⟩
  · have e1 : bits .xor .i32 r 32 = r - 32 := by rw [hx]; omega
    have e2 : lw r = r := by unfold lw; omega
    clear hx h
    go_enter Try.func3, Try.ntmps3
    go_wp2_with (go_at_call 5; refine (lower_any _ _ h1 h2).mono ?_; rintro e w' ⟨rfl, rfl⟩)
    go_ret
    exact ⟨rfl, Below.refl _ _⟩

abbrev ALPHA : ByteArray := { data := #[97, 98, 99, 100, 101, 102, 103, 104, 105, 106, 107, 108, 109, 110, 111, 112, 113, 114, 115, 116, 117, 118, 119, 120, 121, 122] }
theorem alpha_fin : ∀ k : Fin 26, (ALPHA[k.val]'k.isLt).toNat = 97 + k.val := by decide
theorem alpha_at (k : Nat) (h : k < 26) : ((ALPHA[k]'h).toNat : Int) = 97 + k := by have := alpha_fin ⟨k, h⟩; simp only at this; omega

theorem alphabet_walk (r : Int) (w : World) (w0 : (Lit.int .i32 r).wf = true) :
    Calls Try.prog 4 #[.int .i32 r] w fun e w' => e = .returned (.bool true) ∧ Below w.heap.size w w' := by
  obtain ⟨h1, h2⟩ := bounds_i32 w0
  by_cases hU : 65 ≤ r ∧ r ≤ 90
  · obtain ⟨k, rfl⟩ : ∃ k : Nat, r = 65 + k := ⟨(r - 65).toNat, by omega⟩
    have hk : k < 26 := by omega
    have e1 : lw (65 + (k : Int)) = 97 + k := by unfold lw; omega
    have e2 : lw (97 + (k : Int)) = 97 + k := by unfold lw; omega
    have e3 := alpha_at k hk
    obtain ⟨hU1, hU2⟩ := hU
    go_enter Try.func4, Try.ntmps4
    go_wp2_with (go_at_call 5; refine (lower_any _ _ (by omega) (by omega)).mono ?_; rintro e w' ⟨rfl, rfl⟩)
    go_ret
    exact ⟨rfl, Below.refl _ _⟩
  · by_cases hL : 97 ≤ r ∧ r ≤ 122
    · obtain ⟨k, rfl⟩ : ∃ k : Nat, r = 97 + k := ⟨(r - 97).toNat, by omega⟩
      have hk : k < 26 := by omega
      have e2 : lw (97 + (k : Int)) = 97 + k := by unfold lw; omega
      have e3 := alpha_at k hk
      obtain ⟨hU1, hU2⟩ := hL
      clear hU
      go_enter Try.func4, Try.ntmps4
      go_wp2_with (go_at_call 5; refine (lower_any _ _ (by omega) (by omega)).mono ?_; rintro e w' ⟨rfl, rfl⟩)
      go_ret
      exact ⟨rfl, Below.refl _ _⟩
    · have e1 : (lw (lw r) != lw r) = false := by simp; unfold lw; omega
      have b1 : -2147483648 ≤ lw r ∧ lw r ≤ 2147483647 := by unfold lw; omega
      have c1 : lw r < 97 ∨ 122 < lw r := by unfold lw; omega
      obtain ⟨b1, b2⟩ := b1
      have c2 : r < 65 ∨ (90 < r ∧ r < 97) ∨ 122 < r := by omega
      clear hU hL
      rcases c1 with c1 | c1
      all_goals
        rcases c2 with c2 | ⟨c2, c3⟩ | c2
        all_goals
          go_enter Try.func4, Try.ntmps4
          go_wp2_with (go_at_call 5; refine (lower_any _ _ (by omega) (by omega)).mono ?_; rintro e w' ⟨rfl, rfl⟩)
          go_ret
          exact ⟨by first | rfl | (refine ret_true ?_; simp; omega), Below.refl _ _⟩
end Go.Proofs.Yticcegklkibogaa
