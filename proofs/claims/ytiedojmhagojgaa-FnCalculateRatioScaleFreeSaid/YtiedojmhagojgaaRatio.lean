/-
  The contract of calculateRatio: its bits, by the rungs of its two counts.
-/
import Derived.Test.YtiedojmhagojgaaRows
import Derived.Test.YtiedojmhagojgaaOrder
import Derived.WalkKit
import Derived.Lib.Hide
import Derived.Outline
import Derived.WalkSpells
import Derived.WalkLawsBesides
import Derived.Laws.FloatArith
namespace Go.Proofs.Ytiedojmhagojgaa
open Go.RowKit
set_option linter.unusedVariables false

/-- the rung of a whole number -/
def R (M : Nat) : Nat := rung (M.log2 : Nat) (sig M)
theorem log_le {M : Nat} (h : M < 18446744073709551616) (h0 : 0 < M) : M.log2 ≤ 63 := by
  have := (Nat.log2_lt (k := 64) (by omega : M ≠ 0)).2 (by simpa using h)
  omega
theorem int_word (neg : Bool) (M : Nat) (h0 : 0 < M) (h : M < 18446744073709551616) : Ieee.double.nearest neg M 0 = Ieee.double.word neg (R M) := by
  have := log_le h h0
  exact nearest_eq neg M 0 (M.log2 : Nat) h0 (by omega) (by omega) (by omega)
theorem R_norm (M : Nat) (h0 : 0 < M) (h : M < 18446744073709551616) : ∃ e K, Nrm e K ∧ 0 ≤ e ∧ e ≤ 64 ∧ R M = rung e K := by
  have := log_le h h0
  obtain ⟨b1, b2⟩ := sig_bd M h0
  obtain ⟨e, K, p1, p2, p3, p4, p5⟩ := norm (M.log2 : Nat) (sig M) b1 b2 (by omega)
  exact ⟨e, K, ⟨p1, p2, by omega, by omega⟩, by omega, by omega, p5⟩
theorem sig_mono {M1 M2 : Nat} (hl : M1.log2 = M2.log2) (h : M1 ≤ M2) : sig M1 ≤ sig M2 := by
  unfold sig
  rw [hl]
  split
  · exact Nat.mul_le_mul_right _ h
  · exact rq_mono (Nat.two_pow_pos _) (Nat.two_pow_pos _) (Nat.mul_le_mul_right _ h)
theorem log_mono {M1 M2 : Nat} (h0 : 0 < M1) (h : M1 ≤ M2) : M1.log2 ≤ M2.log2 := by
  rw [Nat.le_log2 (by omega)]
  exact Nat.le_trans (Nat.log2_self_le (by omega)) h
theorem R_mono {M1 M2 : Nat} (h0 : 0 < M1) (h : M1 ≤ M2) : R M1 ≤ R M2 := by
  have hl := log_mono h0 h
  obtain ⟨a1, a2⟩ := sig_bd M1 h0
  obtain ⟨b1, b2⟩ := sig_bd M2 (by omega)
  unfold R rung
  rcases Nat.lt_or_ge M1.log2 M2.log2 with g | g
  · omega
  · have := sig_mono (by omega) h
    omega

theorem foi (n : Int) (neg : Bool) (M : Nat) (hn : decide (n < 0) = neg) (hM : n.natAbs = M) (h0 : 0 < M) (h : M < 18446744073709551616) : floatOfInt .f64 n = Ieee.double.word neg (R M) := by
  show Ieee.double.nearest (decide (n < 0)) n.natAbs 0 = _
  rw [hn, hM]
  exact int_word neg M h0 h
theorem ratio_bits {m l : Int} {neg : Bool} {M L : Nat} {e f : Int} {K N : Nat} (hm : decide (m < 0) = neg) (hM : m.natAbs = M) (hM0 : 0 < M) (hM1 : M < 18446744073709551616) (hl : decide (l < 0) = false) (hL : l.natAbs = L) (hL0 : 0 < L) (hL1 : L < 18446744073709551616)
    (n1 : Nrm e K) (e0 : 0 ≤ e) (e1 : e ≤ 64) (r1 : R M = rung e K) (n2 : Nrm f N) (f0 : 0 ≤ f) (f1 : f ≤ 64) (r2 : R L = rung f N) :
    floatBits .mul .f64 4611686018427387904 (floatOfInt .f64 m) = some (Ieee.double.word neg (rung (e + 1) K)) ∧
    floatBits .quo .f64 (Ieee.double.word neg (rung (e + 1) K)) (floatOfInt .f64 l) = some (Ieee.double.word neg (quot (e + 1) K f N)) := by
  rw [foi m neg M hm hM hM0 hM1, foi l false L hl hL hL0 hL1, r1, r2]
  exact ⟨mul_two neg e K n1.lo n1.hi (by omega) (by omega), div_eq neg (e + 1) f K N n1.lo n1.hi n2.lo n2.hi (by omega) (by omega) (by omega) (by omega)⟩
theorem foi_zero : floatOfInt .f64 0 = 0 := by decide
theorem div_zero (f : Int) (N : Nat) (n : Nrm f N) : Ieee.double.div 0 (Ieee.double.word false (rung f N)) = some 0 := by
  obtain ⟨z1, z2, z3, z4⟩ := n
  unfold Ieee.Format.div
  rw [read_zero, read_word false f N z1 z2 (by omega) (by omega)]
  unfold Ieee.Datum.quotient
  simp only
  rw [if_neg (by omega), zero_shift]
  simp [Ieee.Format.write, Ieee.Format.nearest, Ieee.Format.word]
theorem ratio_zero {l : Int} {L : Nat} {f : Int} {N : Nat} (hl : decide (l < 0) = false) (hL : l.natAbs = L) (hL0 : 0 < L) (hL1 : L < 18446744073709551616) (n2 : Nrm f N) (r2 : R L = rung f N) :
    floatBits .mul .f64 4611686018427387904 (floatOfInt .f64 0) = some 0 ∧ floatBits .quo .f64 0 (floatOfInt .f64 l) = some 0 := by
  rw [foi_zero, foi l false L hl hL hL0 hL1, r2]
  exact ⟨by decide, div_zero f N n2⟩

theorem ratio_any (m l : Int) (y z : Nat) (w : World) (hl : 0 < l) (h1 : floatBits .mul .f64 4611686018427387904 (floatOfInt .f64 m) = some y) (h2 : floatBits .quo .f64 y (floatOfInt .f64 l) = some z) :
    Calls Try.prog 6 #[.int .i64 m, .int .i64 l] w fun e w' => e = .returned (.float .f64 z) ∧ w = w' := by
  have r1 := fun W => run_float_arith (P := Try.prog) W .mul 22 .f64 _ _ _ h1
  have r2 := fun W => run_float_arith (P := Try.prog) W .quo 22 .f64 _ _ _ h2
  clear h1 h2
  go_enter Try.func6, Try.ntmps6
  go_wp2
  go_ret
  exact ⟨rfl, rfl⟩
theorem ratio_one (m l : Int) (w : World) (hl : l ≤ 0) : Calls Try.prog 6 #[.int .i64 m, .int .i64 l] w fun e w' => e = .returned (.float .f64 4607182418800017408) ∧ w = w' := by
  go_enter Try.func6, Try.ntmps6
  go_wp2
  go_ret
  exact ⟨rfl, rfl⟩
end Go.Proofs.Ytiedojmhagojgaa
