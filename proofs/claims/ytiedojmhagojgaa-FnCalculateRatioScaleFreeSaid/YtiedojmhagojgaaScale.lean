/-
  Plain: a quotient's rung hangs on the fraction alone and rises with it.
-/
import Derived.Test.YtiedojmhagojgaaOrder
namespace Go.Proofs.Ytiedojmhagojgaa

theorem pow_le {P Q a b : Nat} (h : P * 2 ^ a ≤ Q * 2 ^ b) (d : Nat) (hd : a = b + d) : P * 2 ^ d ≤ Q := by
  subst hd
  rw [Nat.pow_add, Nat.mul_left_comm, Nat.mul_comm Q] at h
  exact Nat.le_of_mul_le_mul_left h (Nat.two_pow_pos b)
theorem pow_ge {P Q a b : Nat} (h : P * 2 ^ a ≤ Q * 2 ^ b) (d : Nat) (hd : b = a + d) : P ≤ Q * 2 ^ d := by
  subst hd
  rw [Nat.pow_add, Nat.mul_left_comm Q, Nat.mul_comm P] at h
  exact Nat.le_of_mul_le_mul_left h (Nat.two_pow_pos a)
theorem rq_m11 {K N K' N' : Nat} (hN : 0 < N) (hN' : 0 < N') (h : K * N' ≤ K' * N) (c : Nat) : rq (K * c) N ≤ rq (K' * c) N' := by
  refine rq_mono hN hN' ?_
  rw [Nat.mul_right_comm, Nat.mul_right_comm K' c]
  exact Nat.mul_le_mul_right c h
theorem rq_m12 {K N K' N' : Nat} (hN : 0 < N) (hN' : 0 < N') (h : K * N' ≤ 2 * (K' * N)) : rq (K * 4503599627370496) N ≤ rq (K' * 9007199254740992) N' := by
  have e : K' * 2 * N = 2 * (K' * N) := by rw [Nat.mul_comm K' 2, Nat.mul_assoc]
  rw [← e] at h
  have g := rq_m11 hN hN' h 4503599627370496
  have e2 : K' * 2 * 4503599627370496 = K' * 9007199254740992 := by omega
  rwa [e2] at g
theorem rq_m21 {K N K' N' : Nat} (hN : 0 < N) (hN' : 0 < N') (h : 2 * (K * N') ≤ K' * N) : rq (K * 9007199254740992) N ≤ rq (K' * 4503599627370496) N' := by
  have e : K * 2 * N' = 2 * (K * N') := by rw [Nat.mul_comm K 2, Nat.mul_assoc]
  rw [← e] at h
  have g := rq_m11 hN hN' h 4503599627370496
  have e2 : K * 2 * 4503599627370496 = K * 9007199254740992 := by omega
  rwa [e2] at g

theorem quot_ratio {e f e' f' K N K' N' : Nat} (n : Nrm e K) (nf : Nrm f N) (n' : Nrm e' K') (nf' : Nrm f' N') (be : e ≤ 66) (bf : f ≤ 66)
    (h : K * N' * 2 ^ (e + f') ≤ K' * N * 2 ^ (e' + f)) : quot ((e : Int) + 1) K f N ≤ quot ((e' : Int) + 1) K' f' N' := by
  obtain ⟨x1, x2, _, _⟩ := n
  obtain ⟨y1, y2, _, _⟩ := nf
  obtain ⟨z1, z2, _, _⟩ := n'
  obtain ⟨t1, t2, _, _⟩ := nf'
  have hN : 0 < N := by omega
  have hN' : 0 < N' := by omega
  have hT : 0 < N * N' := Nat.mul_pos hN hN'
  unfold quot
  by_cases c1 : N ≤ K
  · rw [if_pos c1]
    have b1 := q_bd1 c1 (by omega) hN
    have u1 : N * N' ≤ K * N' := Nat.mul_le_mul_right _ c1
    by_cases c2 : N' ≤ K'
    · rw [if_pos c2]
      have b2 := q_bd1 c2 (by omega) hN'
      have u2 : K' * N ≤ 2 * (N * N') - N := by
        have := Nat.mul_le_mul_right N (show K' ≤ 2 * N' - 1 by omega)
        rw [Nat.sub_mul, Nat.mul_assoc, Nat.mul_comm N' N] at this
        omega
      have u3 : N ≤ N * N' := Nat.le_mul_of_pos_right _ hN'
      rcases Nat.lt_trichotomy (e + f') (e' + f) with g | g | g
      · unfold rung; omega
      · have := pow_le h 0 (by omega)
        have hh : K * N' ≤ K' * N := by omega
        have hm := rq_m11 hN hN' hh 4503599627370496
        unfold rung; omega
      · exfalso
        obtain ⟨d, hd⟩ : ∃ d, e + f' = e' + f + (d + 1) := ⟨e + f' - (e' + f) - 1, by omega⟩
        have k := pow_le h (d + 1) hd
        rw [Nat.pow_succ] at k
        have : K * N' * 2 ≤ K * N' * (2 ^ d * 2) := Nat.mul_le_mul_left _ (by have := Nat.two_pow_pos d; omega)
        omega
    · rw [if_neg c2]
      have b2 := q_bd2 (K := K') (N := N') (by omega) (by omega) hN'
      have u2 : K' * N ≤ N * N' - N := by
        have := Nat.mul_le_mul_right N (show K' ≤ N' - 1 by omega)
        rw [Nat.sub_mul, Nat.mul_comm N' N] at this
        omega
      have u3 : N ≤ N * N' := Nat.le_mul_of_pos_right _ hN'
      rcases Nat.lt_or_ge (e + f') (e' + f) with g | g
      · rcases Nat.lt_or_ge (e + f' + 1) (e' + f) with g' | g'
        · unfold rung; omega
        · have := pow_ge h 1 (by omega)
          have hh : K * N' ≤ 2 * (K' * N) := by omega
          have hm := rq_m12 hN hN' hh
          unfold rung; omega
      · exfalso
        obtain ⟨d, hd⟩ : ∃ d, e + f' = e' + f + d := ⟨e + f' - (e' + f), by omega⟩
        have k := pow_le h d hd
        have : K * N' * 1 ≤ K * N' * 2 ^ d := Nat.mul_le_mul_left _ (Nat.two_pow_pos d)
        omega
  · rw [if_neg c1]
    have b1 := q_bd2 (K := K) (N := N) (by omega) (by omega) hN
    have u1 : N * N' + N' ≤ 2 * (K * N') := by
      have := Nat.mul_le_mul_right N' (show N + 1 ≤ 2 * K by omega)
      rw [Nat.add_mul, Nat.one_mul, Nat.mul_assoc] at this
      exact this
    by_cases c2 : N' ≤ K'
    · rw [if_pos c2]
      have b2 := q_bd1 c2 (by omega) hN'
      have u2 : K' * N ≤ 2 * (N * N') := by
        have := Nat.mul_le_mul_right N (show K' ≤ 2 * N' by omega)
        rw [Nat.mul_assoc, Nat.mul_comm N' N] at this
        exact this
      rcases Nat.lt_or_ge (e + f') (e' + f + 1) with g | g
      · unfold rung; omega
      · rcases Nat.lt_or_ge (e' + f + 1) (e + f') with g' | g'
        · exfalso
          obtain ⟨d, hd⟩ : ∃ d, e + f' = e' + f + (d + 1 + 1) := ⟨e + f' - (e' + f) - 2, by omega⟩
          have k := pow_le h (d + 1 + 1) hd
          rw [Nat.pow_succ, Nat.pow_succ] at k
          have : K * N' * 4 ≤ K * N' * (2 ^ d * 2 * 2) := Nat.mul_le_mul_left _ (by have := Nat.two_pow_pos d; omega)
          omega
        · have := pow_le h 1 (by omega)
          have hh : 2 * (K * N') ≤ K' * N := by omega
          have hm := rq_m21 hN hN' hh
          unfold rung; omega
    · rw [if_neg c2]
      have b2 := q_bd2 (K := K') (N := N') (by omega) (by omega) hN'
      have u2 : K' * N ≤ N * N' := by
        have := Nat.mul_le_mul_right N (show K' ≤ N' by omega)
        rw [Nat.mul_comm N' N] at this
        exact this
      rcases Nat.lt_trichotomy (e + f') (e' + f) with g | g | g
      · unfold rung; omega
      · have := pow_le h 0 (by omega)
        have hh : K * N' ≤ K' * N := by omega
        have hm := rq_m11 hN hN' hh 9007199254740992
        unfold rung; omega
      · exfalso
        obtain ⟨d, hd⟩ : ∃ d, e + f' = e' + f + (d + 1) := ⟨e + f' - (e' + f) - 1, by omega⟩
        have k := pow_le h (d + 1) hd
        rw [Nat.pow_succ] at k
        have : K * N' * 2 ≤ K * N' * (2 ^ d * 2) := Nat.mul_le_mul_left _ (by have := Nat.two_pow_pos d; omega)
        omega
/-- a count of at most 2^53 is held exactly -/
theorem exact_cnt (M : Nat) (h0 : 0 < M) (h : M ≤ 9007199254740992) : ∃ e K : Nat, Nrm e K ∧ e ≤ 53 ∧ rung (M.log2 : Nat) (sig M) = rung e K ∧ K * 2 ^ e = M * 4503599627370496 := by
  have l1 : 2 ^ M.log2 ≤ M := Nat.log2_self_le (by omega)
  have l2 : M < 2 ^ (M.log2 + 1) := Nat.lt_log2_self
  rcases Nat.lt_or_ge M 9007199254740992 with g | g
  · have hL : M.log2 ≤ 52 := by
      have := (Nat.log2_lt (k := 53) (by omega : M ≠ 0)).2 (by simpa using g)
      omega
    have hs : sig M = M * 2 ^ (52 - M.log2) := by unfold sig; rw [if_pos hL]
    have p2 : 2 ^ (M.log2 + 1) * 2 ^ (52 - M.log2) = 9007199254740992 := by
      rw [← Nat.pow_add, show M.log2 + 1 + (52 - M.log2) = 53 by omega]
    have k2 := Nat.mul_lt_mul_of_pos_right l2 (Nat.two_pow_pos (52 - M.log2))
    rw [p2, ← hs] at k2
    refine ⟨M.log2, sig M, ⟨(sig_bd M h0).1, k2, by omega, by omega⟩, by omega, rfl, ?_⟩
    rw [hs, Nat.mul_assoc, ← Nat.pow_add, show 52 - M.log2 + M.log2 = 52 by omega]
  · obtain rfl : M = 9007199254740992 := by omega
    have hL : (9007199254740992 : Nat).log2 = 53 := log2_of (by decide) (by decide)
    have hs : sig 9007199254740992 = 4503599627370496 := by
      unfold sig
      rw [hL, if_neg (by omega)]
      exact rq_exact 4503599627370496 2 (by omega)
    refine ⟨53, 4503599627370496, ⟨by omega, by omega, by omega, by omega⟩, by omega, ?_, by decide⟩
    rw [hL, hs]

/-- equal fractions, equal quotients -/
theorem quot_same {e f e' f' K N K' N' M L M' L' : Nat} (n : Nrm e K) (nf : Nrm f N) (n' : Nrm e' K') (nf' : Nrm f' N') (be : e ≤ 53) (bf : f ≤ 53) (be' : e' ≤ 53) (bf' : f' ≤ 53)
    (h1 : K * 2 ^ e = M * 4503599627370496) (h2 : N * 2 ^ f = L * 4503599627370496) (h3 : K' * 2 ^ e' = M' * 4503599627370496) (h4 : N' * 2 ^ f' = L' * 4503599627370496) (h : M * L' = M' * L) :
    quot ((e : Int) + 1) K f N = quot ((e' : Int) + 1) K' f' N' := by
  have x : K * N' * 2 ^ (e + f') = K' * N * 2 ^ (e' + f) := by
    have a1 : K * N' * 2 ^ (e + f') = (K * 2 ^ e) * (N' * 2 ^ f') := by rw [Nat.pow_add]; simp only [Nat.mul_left_comm, Nat.mul_assoc]
    have a2 : K' * N * 2 ^ (e' + f) = (K' * 2 ^ e') * (N * 2 ^ f) := by rw [Nat.pow_add]; simp only [Nat.mul_comm, Nat.mul_left_comm, Nat.mul_assoc]
    rw [a1, a2, h1, h2, h3, h4]
    have b1 : ∀ c : Nat, M * c * (L' * c) = M * L' * (c * c) := fun c => by simp only [Nat.mul_comm, Nat.mul_left_comm]
    have b2 : ∀ c : Nat, M' * c * (L * c) = M' * L * (c * c) := fun c => by simp only [Nat.mul_comm, Nat.mul_left_comm]
    rw [b1, b2, h]
  exact Nat.le_antisymm (quot_ratio n nf n' nf' (by omega) (by omega) (Nat.le_of_eq x)) (quot_ratio n' nf' n nf (by omega) (by omega) (Nat.le_of_eq x.symm))

theorem one_quot : quot ((0 : Nat) + 1) 4503599627370496 ((1 : Nat) : Int) 4503599627370496 = rung 0 4503599627370496 := by
  unfold quot
  rw [if_pos (Nat.le_refl _), rq_exact 4503599627370496 4503599627370496 (by omega)]
  rfl
theorem below_quot : quot ((0 : Nat) + 1) 9007199254740991 ((2 : Nat) : Int) 4503599627370496 = rung (-1) 9007199254740991 := by
  unfold quot
  rw [if_pos (by omega), rq_exact 9007199254740991 4503599627370496 (by omega)]
  rfl
/-- twice the matches over the length: one where they are equal, else below one -/
theorem quot_top {e f K N M L : Nat} (n : Nrm e K) (nf : Nrm f N) (be : e ≤ 53) (bf : f ≤ 53) (h1 : K * 2 ^ e = M * 4503599627370496) (h2 : N * 2 ^ f = L * 4503599627370496) (h : 2 * M = L) :
    quot ((e : Int) + 1) K f N = rung 0 4503599627370496 := by
  have r := quot_same n nf (e' := 0) (f' := 1) (K' := 4503599627370496) (N' := 4503599627370496) (M' := 1) (L' := 2) ⟨by omega, by omega, by omega, by omega⟩ ⟨by omega, by omega, by omega, by omega⟩ be bf (by omega) (by omega) h1 h2 (by omega) (by omega) (by omega)
  rw [r]
  exact one_quot
theorem quot_less {e f K N M L : Nat} (n : Nrm e K) (nf : Nrm f N) (be : e ≤ 53) (bf : f ≤ 53) (h1 : K * 2 ^ e = M * 4503599627370496) (h2 : N * 2 ^ f = L * 4503599627370496) (h : 2 * M < L) (hL : L ≤ 9007199254740992) :
    quot ((e : Int) + 1) K f N ≤ rung (-1) 9007199254740991 := by
  have x : K * 4503599627370496 * 2 ^ (e + 2) ≤ 9007199254740991 * N * 2 ^ (0 + f) := by
    have a1 : K * 4503599627370496 * 2 ^ (e + 2) = (K * 2 ^ e) * 18014398509481984 := by
      rw [Nat.pow_add]
      have : ∀ c p : Nat, K * c * (p * 4) = K * p * (4 * c) := fun c p => by simp only [Nat.mul_comm, Nat.mul_left_comm, Nat.mul_assoc]
      exact this 4503599627370496 (2 ^ e)
    have a2 : 9007199254740991 * N * 2 ^ (0 + f) = 9007199254740991 * (N * 2 ^ f) := by rw [Nat.zero_add, Nat.mul_assoc]
    rw [a1, a2, h1, h2]
    omega
  have r := quot_ratio n nf (e' := 0) (f' := 2) (K' := 9007199254740991) (N' := 4503599627370496) ⟨by omega, by omega, by omega, by omega⟩ ⟨by omega, by omega, by omega, by omega⟩ (by omega) (by omega) x
  rw [below_quot] at r
  exact r
theorem rung_below : rung (-1) 9007199254740991 < rung 0 4503599627370496 := by decide
theorem one_word : Ieee.double.word false (rung 0 4503599627370496) = 4607182418800017408 := by decide
end Go.Proofs.Ytiedojmhagojgaa
