/-
  Double-precision words by exponent and significand: conversion of a whole number, doubling, division, order.
-/
import Derived.Test.YtiedojmhagojgaaNear
namespace Go.Proofs.Ytiedojmhagojgaa

theorem c_bin : Ieee.double.binade = 4503599627370496 := by decide
theorem c_inf : Ieee.double.infRung = 9218868437227405312 := by decide
theorem c_sw : Ieee.double.signWeight = 9223372036854775808 := by decide
theorem c_lp : Ieee.double.leastPlace = -1074 := by decide
theorem c_fr : Ieee.double.fractionBits = 52 := rfl

theorem cut_eq (neg : Bool) (n drop : Nat) (h : drop ≤ n.log2 + 2) : Ieee.Toward.even.cut neg n drop = rq n (2 ^ drop) := by
  unfold Ieee.Toward.cut
  simp only
  rw [Nat.min_eq_left h, Nat.one_shiftLeft]
  unfold rq
  congr 1
  generalize 2 ^ drop = g
  by_cases c : g < 2 * (n % g) ∨ (g = 2 * (n % g) ∧ n / g % 2 = 1)
  · rw [if_pos c]
    rcases c with c | ⟨c1, c2⟩
    · simp [c]
    · simp [← c1, c2]
  · rw [if_neg c]
    have c1 : ¬ g < 2 * (n % g) := fun h => c (.inl h)
    have c2 : ¬ (g = 2 * (n % g) ∧ n / g % 2 = 1) := fun h => c (.inr h)
    have d1 : decide (g < 2 * (n % g)) = false := decide_eq_false c1
    have d2 : (g == 2 * (n % g) && n / g % 2 == 1) = false := by
      rw [Bool.and_eq_false_iff]
      by_cases x : g = 2 * (n % g)
      · right
        rcases Nat.mod_two_eq_zero_or_one (n / g) with y | y
        · simp [y]
        · exact absurd ⟨x, y⟩ c2
      · left; simpa using x
    rw [d1, d2]
    rfl

/-- the significand kept of a whole number -/
def sig (mag : Nat) : Nat := if mag.log2 ≤ 52 then mag * 2 ^ (52 - mag.log2) else rq mag (2 ^ (mag.log2 - 52))

theorem pow_split {a b : Nat} (h : a ≤ b) : 2 ^ a * 2 ^ (b - a) = 2 ^ b := by rw [← Nat.pow_add, Nat.add_sub_cancel' h]
theorem sig_bd (mag : Nat) (hm : 0 < mag) : 4503599627370496 ≤ sig mag ∧ sig mag ≤ 9007199254740992 := by
  have l1 : 2 ^ mag.log2 ≤ mag := Nat.log2_self_le (by omega)
  have l2 : mag < 2 ^ (mag.log2 + 1) := Nat.lt_log2_self
  unfold sig
  split
  · rename_i h
    have p1 := pow_split h
    have p2 : 2 ^ (mag.log2 + 1) * 2 ^ (52 - mag.log2) = 2 ^ 53 := by
      rw [← Nat.pow_add, show mag.log2 + 1 + (52 - mag.log2) = 53 by omega]
    have k1 := Nat.mul_le_mul_right (2 ^ (52 - mag.log2)) l1
    have k2 := Nat.mul_le_mul_right (2 ^ (52 - mag.log2)) (Nat.le_of_lt l2)
    rw [p1] at k1
    rw [p2] at k2
    exact ⟨k1, k2⟩
  · rename_i h
    have hp : 0 < 2 ^ (mag.log2 - 52) := Nat.two_pow_pos _
    have p1 : 2 ^ 52 * 2 ^ (mag.log2 - 52) = 2 ^ mag.log2 := pow_split (by omega)
    have p2 : 2 ^ 53 * 2 ^ (mag.log2 - 52) = 2 ^ (mag.log2 + 1) := by
      rw [← Nat.pow_add, show 53 + (mag.log2 - 52) = mag.log2 + 1 by omega]
    constructor
    · have := rq_exact (2 ^ 52) (2 ^ (mag.log2 - 52)) hp
      have m := rq_mono (A1 := 2 ^ 52 * 2 ^ (mag.log2 - 52)) (A2 := mag) hp hp (Nat.mul_le_mul_right _ (by rw [p1]; exact l1))
      rw [this] at m
      exact m
    · have := rq_exact (2 ^ 53) (2 ^ (mag.log2 - 52)) hp
      have m := rq_mono (A1 := mag) (A2 := 2 ^ 53 * 2 ^ (mag.log2 - 52)) hp hp (Nat.mul_le_mul_right _ (by rw [p2]; exact Nat.le_of_lt l2))
      rw [this] at m
      exact m

def rung (e : Int) (K : Nat) : Nat := (e + 1022).toNat * 4503599627370496 + K

theorem nearest_eq (neg : Bool) (mag : Nat) (place e : Int) (hm : 0 < mag) (he : e = place + mag.log2) (h1 : -1022 ≤ e) (h2 : e ≤ 1022) :
    Ieee.double.nearest neg mag place = Ieee.double.word neg (rung e (sig mag)) := by
  obtain ⟨b1, b2⟩ := sig_bd mag hm
  have hlast : max (place + (mag.log2 : Int) - (Ieee.double.fractionBits : Int)) Ieee.double.leastPlace = e - 52 := by
    rw [c_lp, c_fr]; omega
  unfold Ieee.Format.nearest
  rw [if_neg (by omega)]
  simp only
  rw [hlast, c_bin, c_inf, c_lp]
  have hk : Ieee.Toward.even.cut neg (mag <<< (place - (e - 52)).toNat) ((e - 52) - place).toNat = sig mag := by
    rw [show (place - (e - 52)).toNat = 52 - mag.log2 by omega, show ((e - 52) - place).toNat = mag.log2 - 52 by omega]
    unfold sig
    split
    · rename_i h
      rw [show mag.log2 - 52 = 0 by omega, cut_eq _ _ _ (by omega), Nat.shiftLeft_eq]
      have := rq_exact (mag * 2 ^ (52 - mag.log2)) 1 (by omega)
      rw [Nat.mul_one] at this
      exact this
    · rename_i h
      rw [show 52 - mag.log2 = 0 by omega, Nat.shiftLeft_zero, cut_eq _ _ _ (by omega)]
  rw [hk]
  congr 1
  unfold rung
  rw [show (e - 52 - -1074).toNat = (e + 1022).toNat by omega]
  apply Nat.min_eq_left
  have : (e + 1022).toNat ≤ 2044 := by omega
  omega

theorem norm (e : Int) (K : Nat) (h1 : 4503599627370496 ≤ K) (h2 : K ≤ 9007199254740992) (he : -1022 ≤ e) :
    ∃ e' K', 4503599627370496 ≤ K' ∧ K' < 9007199254740992 ∧ e ≤ e' ∧ e' ≤ e + 1 ∧ rung e K = rung e' K' := by
  by_cases h : K < 9007199254740992
  · exact ⟨e, K, h1, h, by omega, by omega, rfl⟩
  · refine ⟨e + 1, 4503599627370496, by omega, by omega, by omega, by omega, ?_⟩
    unfold rung
    omega

theorem read_word (neg : Bool) (e : Int) (K : Nat) (h1 : 4503599627370496 ≤ K) (h2 : K < 9007199254740992) (he1 : -1022 ≤ e) (he2 : e ≤ 1023) :
    Ieee.double.read (Ieee.double.word neg (rung e K)) = .number neg K (e - 52) := by
  have hE : ∃ E : Nat, (e + 1022).toNat = E ∧ e = (E : Int) - 1022 ∧ E ≤ 2045 := ⟨(e + 1022).toNat, rfl, by omega, by omega⟩
  obtain ⟨E, hE1, hE2, hE3⟩ := hE
  unfold rung
  rw [hE1]
  have hr : E * 4503599627370496 + K < 9218868437227405312 := by omega
  have hw : Ieee.double.word neg (E * 4503599627370496 + K) % 9223372036854775808 = E * 4503599627370496 + K := by
    unfold Ieee.Format.word; rw [c_sw]; cases neg <;> simp <;> omega
  have hn : (Ieee.double.word neg (E * 4503599627370496 + K) / 9223372036854775808 % 2 == 1) = neg := by
    unfold Ieee.Format.word; rw [c_sw]; cases neg <;> simp <;> omega
  unfold Ieee.Format.read
  simp only
  rw [c_sw, c_bin, c_inf, c_lp, hw, hn, if_neg (by omega), if_pos hr]
  congr 1
  · omega
  · omega
theorem log2_of {n k : Nat} (h1 : 2 ^ k ≤ n) (h2 : n < 2 ^ (k + 1)) : n.log2 = k := by
  have hn : n ≠ 0 := by have := Nat.two_pow_pos k; omega
  exact (Nat.log2_eq_iff hn).2 ⟨h1, h2⟩

/-- twice a float -/
theorem mul_two (neg : Bool) (e : Int) (K : Nat) (h1 : 4503599627370496 ≤ K) (h2 : K < 9007199254740992) (he1 : -1000 ≤ e) (he2 : e ≤ 1000) :
    Ieee.double.mul 4611686018427387904 (Ieee.double.word neg (rung e K)) = some (Ieee.double.word neg (rung (e + 1) K)) := by
  have r2 : Ieee.double.read 4611686018427387904 = .number false 4503599627370496 (-51) := by
    have h := read_word false 1 4503599627370496 (by omega) (by omega) (by omega) (by omega)
    have e : Ieee.double.word false (rung 1 4503599627370496) = 4611686018427387904 := by decide
    rw [e] at h
    exact h
  unfold Ieee.Format.mul
  rw [r2, read_word neg e K h1 h2 (by omega) (by omega)]
  unfold Ieee.Datum.product
  simp only [Option.map_some, Bool.false_bne]
  have hl : (4503599627370496 * K).log2 = 104 := log2_of (by simp only [Nat.reducePow]; omega) (by simp only [Nat.reduceAdd, Nat.reducePow]; omega)
  unfold Ieee.Format.write
  simp only
  rw [nearest_eq _ _ _ (e + 1) (by omega) (by rw [hl]; omega) (by omega) (by omega)]
  have hs : sig (4503599627370496 * K) = K := by
    unfold sig
    rw [hl, if_neg (by omega), Nat.mul_comm]
    exact rq_exact K (2 ^ 52) (by omega)
  rw [hs]

theorem scale4 (K N : Nat) (hN : 0 < N) : rq (K * 18014398509481984) (N * 4) = rq (K * 4503599627370496) N := by
  have g : ∀ c : Nat, K * (4 * c) * N = K * c * (N * 4) := fun c => by simp only [Nat.mul_comm, Nat.mul_left_comm, Nat.mul_assoc]
  exact rq_same (A1 := K * 18014398509481984) (B1 := N * 4) (A2 := K * 4503599627370496) (B2 := N) (by omega) hN (g 4503599627370496)
theorem scale2 (K N : Nat) (hN : 0 < N) : rq (K * 18014398509481984) (N * 2) = rq (K * 9007199254740992) N := by
  have g : ∀ c : Nat, K * (2 * c) * N = K * c * (N * 2) := fun c => by simp only [Nat.mul_comm, Nat.mul_left_comm, Nat.mul_assoc]
  exact rq_same (A1 := K * 18014398509481984) (B1 := N * 2) (A2 := K * 9007199254740992) (B2 := N) (by omega) hN (g 9007199254740992)

/-- the rung of a quotient of two floats -/
def quot (e : Int) (K : Nat) (e2 : Int) (N : Nat) : Nat :=
  if N ≤ K then rung (e - e2) (rq (K * 4503599627370496) N) else rung (e - e2 - 1) (rq (K * 9007199254740992) N)

theorem div_eq (neg : Bool) (e e2 : Int) (K N : Nat) (h1 : 4503599627370496 ≤ K) (h2 : K < 9007199254740992) (n1 : 4503599627370496 ≤ N) (n2 : N < 9007199254740992) (he1 : -200 ≤ e) (he2 : e ≤ 200) (hf1 : -200 ≤ e2) (hf2 : e2 ≤ 200) :
    Ieee.double.div (Ieee.double.word neg (rung e K)) (Ieee.double.word false (rung e2 N)) = some (Ieee.double.word neg (quot e K e2 N)) := by
  have hlK : K.log2 = 52 := log2_of (by simp only [Nat.reducePow]; omega) (by simp only [Nat.reduceAdd, Nat.reducePow]; omega)
  have hlN : N.log2 = 52 := log2_of (by simp only [Nat.reducePow]; omega) (by simp only [Nat.reduceAdd, Nat.reducePow]; omega)
  have hN : 0 < N := by omega
  unfold Ieee.Format.div
  rw [read_word neg e K h1 h2 (by omega) (by omega), read_word false e2 N n1 n2 (by omega) (by omega), c_fr]
  unfold Ieee.Datum.quotient
  simp only
  rw [if_neg (by omega)]
  simp only [Option.map_some, Bool.bne_false, hlK, hlN, Nat.shiftLeft_eq, Nat.reduceAdd, Nat.reduceSub, Nat.reducePow]
  unfold Ieee.Format.write quot
  simp only
  have hD1 : K * 18014398509481984 / N < 36028797018963968 := (Nat.div_lt_iff_lt_mul hN).2 (by omega)
  have hs1 : (K * 18014398509481984 % N != 0).toNat ≤ 1 := Bool.toNat_le _
  by_cases hc : N ≤ K
  · rw [if_pos hc]
    have hD2 : 18014398509481984 ≤ K * 18014398509481984 / N := (Nat.le_div_iff_mul_le hN).2 (by omega)
    have hl : (2 * (K * 18014398509481984 / N) + (K * 18014398509481984 % N != 0).toNat).log2 = 55 := log2_of (by simp only [Nat.reducePow]; omega) (by simp only [Nat.reduceAdd, Nat.reducePow]; omega)
    rw [nearest_eq _ _ _ (e - e2) (by omega) (by rw [hl]; omega) (by omega) (by omega)]
    congr 2
    unfold sig
    rw [hl, if_neg (by omega)]
    have hst := sticky (K * 18014398509481984) N 4 2 hN (by omega) (by omega)
    rw [show (2 : Nat) ^ (55 - 52) = 2 * 4 by decide, hst]
    rw [scale4 K N hN]
  · rw [if_neg hc]
    have hD2 : 9007199254740992 ≤ K * 18014398509481984 / N := (Nat.le_div_iff_mul_le hN).2 (by omega)
    have hD3 : K * 18014398509481984 / N < 18014398509481984 := (Nat.div_lt_iff_lt_mul hN).2 (by omega)
    have hl : (2 * (K * 18014398509481984 / N) + (K * 18014398509481984 % N != 0).toNat).log2 = 54 := log2_of (by simp only [Nat.reducePow]; omega) (by simp only [Nat.reduceAdd, Nat.reducePow]; omega)
    rw [nearest_eq _ _ _ (e - e2 - 1) (by omega) (by rw [hl]; omega) (by omega) (by omega)]
    congr 2
    unfold sig
    rw [hl, if_neg (by omega)]
    have hst := sticky (K * 18014398509481984) N 2 1 hN (by omega) (by omega)
    rw [show (2 : Nat) ^ (54 - 52) = 2 * 2 by decide, hst]
    rw [scale2 K N hN]
end Go.Proofs.Ytiedojmhagojgaa
