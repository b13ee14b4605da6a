/-
  Rounding a fraction to the nearest whole number, ties to even, in plain naturals.
-/
import Ieee.Arith
namespace Go.Proofs.Ytiedojmhagojgaa

def rq (A B : Nat) : Nat := A / B + (if B < 2 * (A % B) ∨ (B = 2 * (A % B) ∧ A / B % 2 = 1) then 1 else 0)
structure Near (A B f : Nat) : Prop where
  lo : 2 * (f * B) ≤ 2 * A + B
  hi : 2 * A ≤ 2 * (f * B) + B
  tlo : 2 * A + B = 2 * (f * B) → f % 2 = 0
  thi : 2 * A = 2 * (f * B) + B → f % 2 = 0

theorem rq_near (A B : Nat) (hB : 0 < B) : Near A B (rq A B) := by
  have h1 := Nat.div_add_mod A B
  have h2 := Nat.mod_lt A hB
  unfold rq
  generalize A / B = q at *
  generalize A % B = r at *
  have e1 : q * B = B * q := Nat.mul_comm _ _
  have e2 : (q + 1) * B = B * q + B := by rw [Nat.add_mul, Nat.one_mul, Nat.mul_comm]
  generalize B * q = t at *
  split
  · rename_i h
    constructor <;> rw [e2] <;> omega
  · rename_i h
    constructor <;> rw [Nat.add_zero, e1] <;> omega

theorem near_mono {A1 B1 f1 A2 B2 f2 : Nat} (h1 : Near A1 B1 f1) (h2 : Near A2 B2 f2) (hB1 : 0 < B1) (hB2 : 0 < B2) (h : A1 * B2 ≤ A2 * B1) : f1 ≤ f2 := by
  rcases Nat.lt_or_ge f2 f1 with hlt | hge
  · exfalso
    have hP : 0 < B1 * B2 := Nat.mul_pos hB1 hB2
    have k1 := Nat.mul_le_mul_right B2 h1.lo
    have k2 := Nat.mul_le_mul_right B1 h2.hi
    have a1 : 2 * (f1 * B1) * B2 = 2 * (f1 * (B1 * B2)) := by rw [Nat.mul_assoc, Nat.mul_assoc]
    have a2 : (2 * A1 + B1) * B2 = 2 * (A1 * B2) + B1 * B2 := by rw [Nat.add_mul, Nat.mul_assoc]
    have a3 : (2 * A2) * B1 = 2 * (A2 * B1) := by rw [Nat.mul_assoc]
    have a4 : (2 * (f2 * B2) + B2) * B1 = 2 * (f2 * (B1 * B2)) + B1 * B2 := by
      rw [Nat.add_mul, Nat.mul_assoc, Nat.mul_assoc, Nat.mul_comm B2 B1]
    rw [a1, a2] at k1
    rw [a3, a4] at k2
    have m1 : f2 * (B1 * B2) + B1 * B2 ≤ f1 * (B1 * B2) := by
      have := Nat.mul_le_mul_right (B1 * B2) (show f2 + 1 ≤ f1 by omega)
      rwa [Nat.add_mul, Nat.one_mul] at this
    have q1 : 2 * (A1 * B2) + B1 * B2 = 2 * (f1 * (B1 * B2)) := by omega
    have q2 : 2 * (A2 * B1) = 2 * (f2 * (B1 * B2)) + B1 * B2 := by omega
    have q3 : f1 * (B1 * B2) = (f2 + 1) * (B1 * B2) := by rw [Nat.add_mul, Nat.one_mul]; omega
    have e3 : f1 = f2 + 1 := Nat.eq_of_mul_eq_mul_right hP q3
    have t1 := h1.tlo (Nat.eq_of_mul_eq_mul_right hB2 (by rw [a2, a1]; exact q1))
    have t2 := h2.thi (Nat.eq_of_mul_eq_mul_right hB1 (by rw [a3, a4]; exact q2))
    omega
  · exact hge
theorem rq_mono {A1 B1 A2 B2 : Nat} (hB1 : 0 < B1) (hB2 : 0 < B2) (h : A1 * B2 ≤ A2 * B1) : rq A1 B1 ≤ rq A2 B2 := near_mono (rq_near A1 B1 hB1) (rq_near A2 B2 hB2) hB1 hB2 h
theorem near_eq {A B f g : Nat} (hB : 0 < B) (h1 : Near A B f) (h2 : Near A B g) : f = g := Nat.le_antisymm (near_mono h1 h2 hB hB (Nat.le_refl _)) (near_mono h2 h1 hB hB (Nat.le_refl _))
theorem rq_exact (c B : Nat) (hB : 0 < B) : rq (c * B) B = c :=
  near_eq hB (rq_near _ _ hB) ⟨by omega, by omega, fun h => by omega, fun h => by omega⟩
theorem rq_same {A1 B1 A2 B2 : Nat} (hB1 : 0 < B1) (hB2 : 0 < B2) (h : A1 * B2 = A2 * B1) : rq A1 B1 = rq A2 B2 := Nat.le_antisymm (rq_mono hB1 hB2 (Nat.le_of_eq h)) (rq_mono hB2 hB1 (Nat.le_of_eq h.symm))

/-- a quotient kept with one sticky digit rounds as the fraction itself -/
theorem sticky (A B T U : Nat) (hB : 0 < B) (hU : 0 < U) (hT : T = 2 * U) : rq (2 * (A / B) + (A % B != 0).toNat) (2 * T) = rq A (B * T) := by
  have hT0 : 0 < T := by omega
  have hn := rq_near (2 * (A / B) + (A % B != 0).toNat) (2 * T) (by omega)
  generalize rq (2 * (A / B) + (A % B != 0).toNat) (2 * T) = f at *
  have hBT : 0 < B * T := Nat.mul_pos hB hT0
  refine near_eq hBT ?_ (rq_near A (B * T) hBT)
  have h1 := Nat.div_add_mod A B
  have h2 := Nat.mod_lt A hB
  generalize A / B = D at *
  generalize A % B = r at *
  have e0 : f * (2 * T) = 2 * (f * T) := by rw [Nat.mul_left_comm]
  have e1 : f * (B * T) = B * (f * T) := Nat.mul_left_comm _ _ _
  have eU : f * T = 2 * (f * U) := by rw [hT, Nat.mul_left_comm]
  have hlo := hn.lo
  have hhi := hn.hi
  have tlo := hn.tlo
  have thi := hn.thi
  rw [e0] at hlo hhi tlo thi
  generalize hF : f * T = F at *
  -- 2 D + T ≥ 2 F, whatever the sticky digit
  have d1 : 2 * F ≤ 2 * D + T := by
    have hs1 : (r != 0).toNat ≤ 1 := Bool.toNat_le _
    omega
  have k1 := Nat.mul_le_mul_left B d1
  have m1 : B * (2 * F) = 2 * (B * F) := Nat.mul_left_comm _ _ _
  have m2 : B * (2 * D + T) = 2 * (B * D) + B * T := by rw [Nat.mul_add, Nat.mul_left_comm]
  rw [m1, m2] at k1
  have m3 : B * (2 * F + T) = 2 * (B * F) + B * T := by rw [Nat.mul_add, Nat.mul_left_comm]
  have m4 : B * (2 * D + 2) = 2 * (B * D) + 2 * B := by rw [Nat.mul_add, Nat.mul_left_comm, Nat.mul_comm B 2]
  have m5 : B * (2 * D) = 2 * (B * D) := Nat.mul_left_comm _ _ _
  by_cases hr : r = 0
  · subst hr
    simp at hlo hhi tlo thi
    have d2 : 2 * D ≤ 2 * F + T := by omega
    have k2 := Nat.mul_le_mul_left B d2
    rw [m5, m3] at k2
    refine ⟨by rw [e1]; omega, by rw [e1]; omega, fun h => ?_, fun h => ?_⟩
    · rw [e1] at h
      have : B * (2 * D + T) = B * (2 * F) := by rw [m1, m2]; omega
      have := Nat.eq_of_mul_eq_mul_left hB this
      exact tlo (by omega)
    · rw [e1] at h
      have : B * (2 * D) = B * (2 * F + T) := by rw [m5, m3]; omega
      have := Nat.eq_of_mul_eq_mul_left hB this
      exact thi (by omega)
  · have hs : (r != 0).toNat = 1 := by simp [hr]
    rw [hs] at hlo hhi tlo thi
    have d2 : 2 * D + 2 ≤ 2 * F + T := by omega
    have k2 := Nat.mul_le_mul_left B d2
    rw [m4, m3] at k2
    refine ⟨by rw [e1]; omega, by rw [e1]; omega, fun h => ?_, fun h => ?_⟩
    · rw [e1] at h; omega
    · rw [e1] at h; omega
end Go.Proofs.Ytiedojmhagojgaa
