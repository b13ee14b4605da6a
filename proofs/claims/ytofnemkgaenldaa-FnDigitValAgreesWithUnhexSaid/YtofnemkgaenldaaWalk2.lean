/-
  The law 'digitVal agrees with unhex', for every rune.
-/
import Derived.Test.YtofnemkgaenldaaWalks
namespace Go.Proofs.Ytofnemkgaenldaa
open Go.RowKit
set_option linter.unusedVariables false

theorem hok_bd {r : Int} (h : hok r = true) : 0 ≤ r ∧ r ≤ 255 := by
  unfold hok at h
  simp at h
  omega
theorem agree_walk (r : Int) (w : World) (w0 : (Lit.int .i32 r).wf = true) :
    Calls Try.prog 4 #[.int .i32 r] w fun e w' => e = .returned (.bool true) ∧ Below w.heap.size w w' := by
  obtain ⟨h1, h2⟩ := bounds_i32 w0
  obtain ⟨b1, b2⟩ := hv_bd r
  cases h : hok r with
  | true =>
    obtain ⟨c1, c2⟩ := hok_bd h
    have e1 : dv r = hv r := by simp [dv, h]
    go_enter Try.func4, Try.ntmps4
    go_wp2_with (first | (go_at_call 6; refine (unhex_any _ _ c1 c2).mono ?_; rintro e w' ⟨rfl, rfl⟩) | (go_at_call 8; refine (digitVal_any _ _ h1 h2).mono ?_; rintro e w' ⟨rfl, rfl⟩))
    go_ret
    exact ⟨rfl, Below.refl _ _⟩
  | false =>
    have e1 : dv r = 16 := by simp [dv, h]
    by_cases hr : 0 ≤ r ∧ r ≤ 255
    · obtain ⟨c1, c2⟩ := hr
      go_enter Try.func4, Try.ntmps4
      go_wp2_with (first | (go_at_call 6; refine (unhex_any _ _ c1 c2).mono ?_; rintro e w' ⟨rfl, rfl⟩) | (go_at_call 8; refine (digitVal_any _ _ h1 h2).mono ?_; rintro e w' ⟨rfl, rfl⟩))
      go_ret
      exact ⟨rfl, Below.refl _ _⟩
    · have hr' : r < 0 ∨ 255 < r := by omega
      clear hr
      rcases hr' with c | c
      all_goals
        go_enter Try.func4, Try.ntmps4
        go_wp2_with (first | (go_at_call 8; refine (digitVal_any _ _ h1 h2).mono ?_; rintro e w' ⟨rfl, rfl⟩))
        go_ret
        exact ⟨rfl, Below.refl _ _⟩
end Go.Proofs.Ytofnemkgaenldaa
