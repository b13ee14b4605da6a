/-
  Contracts of unhex, digitVal, lower and of the law's own model, and the three laws over them.
-/
import Derived.Test.YtofnemkgaenldaaRows
import Derived.Test.YtofnemkgaenldaaBits
import Derived.WalkKit
import Derived.Lib.Hide
import Derived.Outline
import Derived.Deep.QuietTactic
import Derived.BigQuiet
import Derived.WalkSpells
import Derived.WalkLawsBesides
namespace Go.Proofs.Ytofnemkgaenldaa
open Go.RowKit
set_option linter.unusedVariables false

def hv (b : Int) : Int := if 48 ≤ b ∧ b ≤ 57 then b - 48 else if 97 ≤ b ∧ b ≤ 102 then b - 97 + 10 else if 65 ≤ b ∧ b ≤ 70 then b - 65 + 10 else 0
def hok (b : Int) : Bool := decide (48 ≤ b ∧ b ≤ 57 ∨ 97 ≤ b ∧ b ≤ 102 ∨ 65 ≤ b ∧ b ≤ 70)
theorem ret2 {k : IntKind} {a a' : Int} {x x' : Bool} (h : a = a') (h' : x = x') : Ending.returned (.tuple #[.int k a, .bool x]) = .returned (.tuple #[.int k a', .bool x']) := by rw [h, h']

theorem unhex_any (b : Int) (w : World) (h0 : 0 ≤ b) (h1 : b ≤ 255) : Calls Try.prog 6 #[.int .u8 b] w fun e w' => e = .returned (.tuple #[.int .i32 (hv b), .bool (hok b)]) ∧ w = w' := by
  go_enter Try.func6, Try.ntmps6
  go_wp2
  all_goals go_ret2
  all_goals refine ⟨ret2 ?_ ?_, rfl⟩
  all_goals first | (unfold hv; (repeat' split) <;> omega) | (unfold hok; simp; omega)

def ix (b : Int) : Nat := if hok b then (hv b).toNat else 16

abbrev LO : ByteArray := { data := #[48, 49, 50, 51, 52, 53, 54, 55, 56, 57, 97, 98, 99, 100, 101, 102] }
abbrev UP : ByteArray := { data := #[48, 49, 50, 51, 52, 53, 54, 55, 56, 57, 65, 66, 67, 68, 69, 70] }
theorem lo_fin : ∀ k : Fin 16, (LO[k.val]'k.isLt).toNat = (if k.val < 10 then 48 + k.val else 87 + k.val) := by decide
theorem up_fin : ∀ k : Fin 16, (UP[k.val]'k.isLt).toNat = (if k.val < 10 then 48 + k.val else 55 + k.val) := by decide
theorem lo_at (k : Nat) (h : k < LO.size) : (LO[k]).toNat = (if k < 10 then 48 + k else 87 + k) := lo_fin ⟨k, h⟩
theorem up_at (k : Nat) (h : k < UP.size) : (UP[k]).toNat = (if k < 10 then 48 + k else 55 + k) := up_fin ⟨k, h⟩

theorem hit_lo {b : Int} {k : Nat} (h : k < LO.size) (e : ((LO[k]).toNat : Int) = b) : (k : Int) = hv b ∧ true = hok b := by
  have h16 : k < 16 := h
  rw [lo_at k h] at e
  unfold hv hok
  constructor
  · (repeat' split at e) <;> (repeat' split) <;> omega
  · symm; simp; split at e <;> omega
theorem hit_up {b : Int} {k : Nat} (h : k < UP.size) (e : ((UP[k]).toNat : Int) = b) : (k : Int) = hv b ∧ true = hok b := by
  have h16 : k < 16 := h
  rw [up_at k h] at e
  unfold hv hok
  constructor
  · (repeat' split at e) <;> (repeat' split) <;> omega
  · symm; simp; split at e <;> omega
theorem ix_le (b : Int) : ix b ≤ 16 := by
  unfold ix hv hok
  split <;> (repeat' split) <;> omega
theorem miss {b : Int} {k : Nat} (h : k < LO.size) (h' : k < UP.size) (hk : k ≤ ix b) (e1 : (((LO[k]).toNat : Int) == b) = false) (e2 : (((UP[k]).toNat : Int) == b) = false) : k + 1 ≤ ix b := by
  have h16 : k < 16 := h
  rw [lo_at k h] at e1
  rw [up_at k h'] at e2
  have f1 : ¬ (((if k < 10 then 48 + k else 87 + k : Nat) : Int) = b) := by simpa using e1
  have f2 : ¬ (((if k < 10 then 48 + k else 55 + k : Nat) : Int) = b) := by simpa using e2
  clear e1 e2
  unfold ix hv hok at *
  split at hk
  · rename_i hh
    simp only [hh, if_true]
    simp at hh
    (repeat' split at hk) <;> (repeat' split) <;> (repeat' split at f1) <;> (repeat' split at f2) <;> omega
  · rename_i hh
    simp only [hh]
    simp
    omega
theorem past {b : Int} {k : Nat} (h : 16 ≤ k) (hk : k ≤ ix b) : 0 = hv b ∧ false = hok b := by
  unfold ix at hk
  split at hk
  · rename_i hh
    exfalso
    unfold hv at hk
    (repeat' split at hk) <;> omega
  · rename_i hh
    have hf : hok b = false := by simpa using hh
    refine ⟨?_, hf.symm⟩
    unfold hok at hf
    simp at hf
    unfold hv
    (repeat' split) <;> omega

theorem model_any (b : Int) (w : World) (h0 : 0 ≤ b) (h1 : b ≤ 255) : Calls Try.prog 7 #[.int .u8 b] w fun e w' => e = .returned (.tuple #[.int .i64 (hv b), .bool (hok b)]) ∧ w = w' := by
  go_enter Try.func7, Try.ntmps7
  go_wp2
  go_loop [4] (fun i => ∃ k : Nat, k ≤ 16 ∧ k ≤ ix b ∧ i = .int .i64 k) (fun i => 16 - (intOf i).toNat)
  case atStart => exact ⟨0, by omega, by omega, rfl⟩
  case round =>
    obtain ⟨k, hk, hk2, rfl⟩ := hrel
    by_cases hlt : k < 16
    · by_cases e1 : ((LO[k]'hlt).toNat : Int) = b
      · have R := Lib.hid (hit_lo hlt e1)
        go_wp2
        go_ret2
        exact ⟨ret2 R.out.1 R.out.2, rfl⟩
      · by_cases e2 : ((UP[k]'hlt).toNat : Int) = b
        · have R := Lib.hid (hit_up hlt e2)
          go_wp2
          go_ret2
          exact ⟨ret2 R.out.1 R.out.2, rfl⟩
        · have b1 : (((LO[k]'hlt).toNat : Int) == b) = false := by simpa using e1
          have b2 : (((UP[k]'hlt).toNat : Int) == b) = false := by simpa using e2
          have R := Lib.hid (miss hlt hlt hk2 b1 b2)
          clear e1 e2
          go_wp2
          go_round
          case rel => exact ⟨k + 1, by omega, R.out, by go_num⟩
          case measure => simp [intOf]; omega
    · have R := Lib.hid (past (by omega) hk2)
      go_wp2
      go_ret2
      exact ⟨ret2 R.out.1 R.out.2, rfl⟩

theorem bounds_i32 {a : Int} (h : (Lit.int .i32 a).wf = true) : -2147483648 ≤ a ∧ a ≤ 2147483647 := by
  simpa [Lit.wf, IntKind.min, IntKind.max, IntKind.signed, IntKind.bits] using h
theorem bounds_u8 {a : Int} (h : (Lit.int .u8 a).wf = true) : 0 ≤ a ∧ a ≤ 255 := by
  simpa [Lit.wf, IntKind.min, IntKind.max, IntKind.signed, IntKind.bits] using h
theorem ret_int {k : IntKind} {a b : Int} (h : a = b) : Ending.returned (.int k a) = .returned (.int k b) := by rw [h]
theorem ret_true {x : Bool} (h : x = true) : Ending.returned (.bool x) = .returned (.bool true) := by rw [h]
theorem hv_bd (b : Int) : 0 ≤ hv b ∧ hv b ≤ 15 := by unfold hv; (repeat' split) <;> omega
theorem hv_no {b : Int} (h : hok b = false) : (hv b == 0) = true := by
  unfold hok at h
  simp at h
  unfold hv
  simp
  (repeat' split) <;> omega

theorem unhex_walk (b : Int) (w : World) (w0 : (Lit.int .u8 b).wf = true) :
    Calls Try.prog 3 #[.int .u8 b] w fun e w' => e = .returned (.bool true) ∧ Below w.heap.size w w' := by
  obtain ⟨h0, h1⟩ := bounds_u8 w0
  obtain ⟨b1, b2⟩ := hv_bd b
  cases h : hok b with
  | true =>
    go_enter Try.func3, Try.ntmps3
    go_wp2_with (first | (go_at_call 6; refine (unhex_any _ _ h0 h1).mono ?_; rintro e w' ⟨rfl, rfl⟩) | (go_at_call 7; refine (model_any _ _ h0 h1).mono ?_; rintro e w' ⟨rfl, rfl⟩))
    go_ret
    exact ⟨rfl, Below.refl _ _⟩
  | false =>
    have hz := hv_no h
    go_enter Try.func3, Try.ntmps3
    go_wp2_with (first | (go_at_call 6; refine (unhex_any _ _ h0 h1).mono ?_; rintro e w' ⟨rfl, rfl⟩) | (go_at_call 7; refine (model_any _ _ h0 h1).mono ?_; rintro e w' ⟨rfl, rfl⟩))
    go_ret
    exact ⟨rfl, Below.refl _ _⟩

/-! digitVal -/
def lw (r : Int) : Int := r + 32 * (1 - r / 32 % 2)
theorem lower_any (r : Int) (w : World) (h1 : -2147483648 ≤ r) (h2 : r ≤ 2147483647) :
    Calls Try.prog 11 #[.int .i32 r] w fun e w' => e = .returned (.int .i32 (lw r)) ∧ w = w' := by
  go_enter Try.func11, Try.ntmps11
  go_wp2
  go_ret
  exact ⟨ret_int (or32 r h1 h2), rfl⟩
def dv (r : Int) : Int := if hok r then hv r else 16
theorem dv_low {r : Int} (h1 : 48 ≤ r) (h2 : r ≤ 57) : r - 48 = dv r := by
  unfold dv hok hv
  rw [if_pos (by simp; omega), if_pos ⟨h1, h2⟩]
theorem dv_mid {r : Int} (h : r < 48 ∨ 57 < r) (h1 : 97 ≤ lw r) (h2 : lw r ≤ 102) : lw r - 97 + 10 = dv r := by
  unfold lw at *
  unfold dv hok hv
  rw [if_pos (by simp; omega)]
  (repeat' split) <;> omega
theorem dv_top {r : Int} (h : r < 48 ∨ 57 < r) (h1 : lw r < 97 ∨ 102 < lw r) : 16 = dv r := by
  unfold lw at *
  unfold dv hok hv
  rw [if_neg (by simp; omega)]

theorem digitVal_any (r : Int) (w : World) (h1 : -2147483648 ≤ r) (h2 : r ≤ 2147483647) :
    Calls Try.prog 8 #[.int .i32 r] w fun e w' => e = .returned (.int .i64 (dv r)) ∧ w = w' := by
  have hb : -2147483648 ≤ lw r ∧ lw r ≤ 2147483647 := by unfold lw; omega
  obtain ⟨b1, b2⟩ := hb
  by_cases hd : 48 ≤ r ∧ r ≤ 57
  · obtain ⟨d1, d2⟩ := hd
    have R := Lib.hid (dv_low d1 d2)
    go_enter Try.func8, Try.ntmps8
    go_wp2
    go_ret
    exact ⟨ret_int R.out, rfl⟩
  · have hd' : r < 48 ∨ 57 < r := by omega
    clear hd
    by_cases hm : 97 ≤ lw r ∧ lw r ≤ 102
    · obtain ⟨m1, m2⟩ := hm
      have R := Lib.hid (dv_mid hd' m1 m2)
      rcases hd' with hd | hd
      all_goals
        go_enter Try.func8, Try.ntmps8
        go_wp2_with (first | (go_at_call 11; refine (lower_any _ _ h1 h2).mono ?_; rintro e w' ⟨rfl, rfl⟩) | go_in)
        go_ret
        exact ⟨ret_int R.out, rfl⟩
    · have hm' : lw r < 97 ∨ 102 < lw r := by omega
      clear hm
      have R := Lib.hid (dv_top hd' hm')
      rcases hd' with hd | hd
      all_goals
        rcases hm' with hm | hm
        all_goals
          go_enter Try.func8, Try.ntmps8
          go_wp2_with (first | (go_at_call 11; refine (lower_any _ _ h1 h2).mono ?_; rintro e w' ⟨rfl, rfl⟩) | go_in)
          go_ret
          exact ⟨ret_int R.out, rfl⟩
end Go.Proofs.Ytofnemkgaenldaa
