/-
  Order of double-precision words by sign and rung; a quotient's rung rises with the dividend and falls with the divisor.
-/
import Derived.Test.YtiedojmhagojgaaFloat
namespace Go.Proofs.Ytiedojmhagojgaa

theorem cmp_lt {a b : Int} (h : a < b) : compare a b = .lt := by
  show compareOfLessAndEq a b = .lt
  unfold compareOfLessAndEq
  rw [if_pos h]
theorem cmp_eq {a b : Int} (h : a = b) : compare a b = .eq := by
  show compareOfLessAndEq a b = .eq
  unfold compareOfLessAndEq
  rw [if_neg (by omega), if_pos h]
theorem cmp_gt {a b : Int} (h : b < a) : compare a b = .gt := by
  show compareOfLessAndEq a b = .gt
  unfold compareOfLessAndEq
  rw [if_neg (by omega), if_neg (by omega)]

theorem lift_lt {K1 K2 : Nat} {i j : Int} (h1 : 4503599627370496 ≤ K1) (h2 : K1 < 9007199254740992) (h3 : 4503599627370496 ≤ K2) (hij : i < j) :
    K1 <<< (i - min i j).toNat < K2 <<< (j - min i j).toNat := by
  rw [show (i - min i j).toNat = 0 by omega, Nat.shiftLeft_zero, Nat.shiftLeft_eq]
  obtain ⟨d, hd⟩ : ∃ d, (j - min i j).toNat = d + 1 := ⟨(j - i).toNat - 1, by omega⟩
  rw [hd, Nat.pow_succ]
  have hp : 1 ≤ 2 ^ d := Nat.two_pow_pos d
  have : K2 * 2 ≤ K2 * (2 ^ d * 2) := Nat.mul_le_mul_left _ (by omega)
  omega
theorem lift_same {K1 K2 : Nat} {i : Int} : K1 <<< (i - min i i).toNat = K1 ∧ K2 <<< (i - min i i).toNat = K2 := by
  rw [show (i - min i i).toNat = 0 by omega]; exact ⟨Nat.shiftLeft_zero, Nat.shiftLeft_zero⟩

structure Nrm (e : Int) (K : Nat) : Prop where
  lo : 4503599627370496 ≤ K
  hi : K < 9007199254740992
  el : -1000 ≤ e
  eh : e ≤ 1000

/-- two positive magnitudes, brought to one place, stand as their rungs do -/
theorem mags {e1 e2 : Int} {K1 K2 : Nat} (n1 : Nrm e1 K1) (n2 : Nrm e2 K2) :
    (rung e1 K1 < rung e2 K2 → K1 <<< ((e1 - 52) - min (e1 - 52) (e2 - 52)).toNat < K2 <<< ((e2 - 52) - min (e1 - 52) (e2 - 52)).toNat) ∧
    (rung e1 K1 = rung e2 K2 → K1 <<< ((e1 - 52) - min (e1 - 52) (e2 - 52)).toNat = K2 <<< ((e2 - 52) - min (e1 - 52) (e2 - 52)).toNat) ∧
    (rung e2 K2 < rung e1 K1 → K2 <<< ((e2 - 52) - min (e1 - 52) (e2 - 52)).toNat < K1 <<< ((e1 - 52) - min (e1 - 52) (e2 - 52)).toNat) := by
  obtain ⟨a1, a2, a3, a4⟩ := n1
  obtain ⟨b1, b2, b3, b4⟩ := n2
  rcases Int.lt_trichotomy e1 e2 with h | h | h
  · have hl := lift_lt (K1 := K1) (K2 := K2) (i := e1 - 52) (j := e2 - 52) a1 a2 b1 (by omega)
    have hr : rung e1 K1 < rung e2 K2 := by unfold rung; omega
    exact ⟨fun _ => hl, fun h => by omega, fun h => by omega⟩
  · subst h
    obtain ⟨l1, l2⟩ := lift_same (K1 := K1) (K2 := K2) (i := e1 - 52)
    rw [l1, l2]
    unfold rung
    exact ⟨fun h => by omega, fun h => by omega, fun h => by omega⟩
  · have hl := lift_lt (K1 := K2) (K2 := K1) (i := e2 - 52) (j := e1 - 52) b1 b2 a1 (by omega)
    rw [Int.min_comm] at hl
    have hr : rung e2 K2 < rung e1 K1 := by unfold rung; omega
    exact ⟨fun h => by omega, fun h => by omega, fun _ => hl⟩

theorem order_pos {e1 e2 : Int} {K1 K2 : Nat} (n1 : Nrm e1 K1) (n2 : Nrm e2 K2) :
    (rung e1 K1 < rung e2 K2 → Ieee.double.order (Ieee.double.word false (rung e1 K1)) (Ieee.double.word false (rung e2 K2)) = some .lt) ∧
    (rung e1 K1 = rung e2 K2 → Ieee.double.order (Ieee.double.word false (rung e1 K1)) (Ieee.double.word false (rung e2 K2)) = some .eq) ∧
    (rung e2 K2 < rung e1 K1 → Ieee.double.order (Ieee.double.word false (rung e1 K1)) (Ieee.double.word false (rung e2 K2)) = some .gt) := by
  obtain ⟨m1, m2, m3⟩ := mags n1 n2
  have hread : Ieee.double.order (Ieee.double.word false (rung e1 K1)) (Ieee.double.word false (rung e2 K2)) = some (compare (K1 <<< ((e1 - 52) - min (e1 - 52) (e2 - 52)).toNat : Int) (K2 <<< ((e2 - 52) - min (e1 - 52) (e2 - 52)).toNat : Nat)) := by
    unfold Ieee.Format.order
    rw [read_word false e1 K1 n1.lo n1.hi (by have := n1.el; omega) (by have := n1.eh; omega), read_word false e2 K2 n2.lo n2.hi (by have := n2.el; omega) (by have := n2.eh; omega)]
    rfl
  rw [hread]
  exact ⟨fun h => by rw [cmp_lt (by have := m1 h; omega)], fun h => by rw [cmp_eq (by have := m2 h; omega)], fun h => by rw [cmp_gt (by have := m3 h; omega)]⟩
theorem order_neg {e1 e2 : Int} {K1 K2 : Nat} (n1 : Nrm e1 K1) (n2 : Nrm e2 K2) (h : rung e2 K2 ≤ rung e1 K1) :
    Ieee.double.order (Ieee.double.word true (rung e1 K1)) (Ieee.double.word true (rung e2 K2)) ≠ some .gt := by
  obtain ⟨m1, m2, m3⟩ := mags n1 n2
  have hread : Ieee.double.order (Ieee.double.word true (rung e1 K1)) (Ieee.double.word true (rung e2 K2)) = some (compare (-(K1 <<< ((e1 - 52) - min (e1 - 52) (e2 - 52)).toNat : Nat) : Int) (-(K2 <<< ((e2 - 52) - min (e1 - 52) (e2 - 52)).toNat : Nat))) := by
    unfold Ieee.Format.order
    rw [read_word true e1 K1 n1.lo n1.hi (by have := n1.el; omega) (by have := n1.eh; omega), read_word true e2 K2 n2.lo n2.hi (by have := n2.el; omega) (by have := n2.eh; omega)]
    rfl
  rw [hread]
  rcases Nat.lt_or_ge (rung e2 K2) (rung e1 K1) with g | g
  · rw [cmp_lt (by have := m3 g; omega)]; simp
  · rw [cmp_eq (by have := m2 (by omega); omega)]; simp
theorem order_np {e1 e2 : Int} {K1 K2 : Nat} (n1 : Nrm e1 K1) (n2 : Nrm e2 K2) :
    Ieee.double.order (Ieee.double.word true (rung e1 K1)) (Ieee.double.word false (rung e2 K2)) = some .lt := by
  have hread : Ieee.double.order (Ieee.double.word true (rung e1 K1)) (Ieee.double.word false (rung e2 K2)) = some (compare (-(K1 <<< ((e1 - 52) - min (e1 - 52) (e2 - 52)).toNat : Nat) : Int) (K2 <<< ((e2 - 52) - min (e1 - 52) (e2 - 52)).toNat : Nat)) := by
    unfold Ieee.Format.order
    rw [read_word true e1 K1 n1.lo n1.hi (by have := n1.el; omega) (by have := n1.eh; omega), read_word false e2 K2 n2.lo n2.hi (by have := n2.el; omega) (by have := n2.eh; omega)]
    rfl
  rw [hread]
  have p : 0 < K2 <<< ((e2 - 52) - min (e1 - 52) (e2 - 52)).toNat := by rw [Nat.shiftLeft_eq]; exact Nat.mul_pos (by have := n2.lo; omega) (Nat.two_pow_pos _)
  generalize K2 <<< ((e2 - 52) - min (e1 - 52) (e2 - 52)).toNat = y at *
  generalize K1 <<< ((e1 - 52) - min (e1 - 52) (e2 - 52)).toNat = x at *
  rw [cmp_lt (by omega)]
theorem read_zero : Ieee.double.read 0 = .number false 0 (-1074) := by decide
theorem zero_shift (n : Nat) : (0 : Nat) <<< n = 0 := by rw [Nat.shiftLeft_eq, Nat.zero_mul]
theorem order_zp {e2 : Int} {K2 : Nat} (n2 : Nrm e2 K2) : Ieee.double.order 0 (Ieee.double.word false (rung e2 K2)) = some .lt := by
  have hread : Ieee.double.order 0 (Ieee.double.word false (rung e2 K2)) = some (compare (((0 : Nat) <<< ((-1074 : Int) - min (-1074) (e2 - 52)).toNat : Nat) : Int) (K2 <<< ((e2 - 52) - min (-1074) (e2 - 52)).toNat : Nat)) := by
    unfold Ieee.Format.order
    rw [read_zero, read_word false e2 K2 n2.lo n2.hi (by have := n2.el; omega) (by have := n2.eh; omega)]
    rfl
  rw [hread, zero_shift]
  have p : 0 < K2 <<< ((e2 - 52) - min (-1074) (e2 - 52)).toNat := by rw [Nat.shiftLeft_eq]; exact Nat.mul_pos (by have := n2.lo; omega) (Nat.two_pow_pos _)
  rw [cmp_lt (by omega)]
theorem order_pz {e2 : Int} {K2 : Nat} (n2 : Nrm e2 K2) : Ieee.double.order (Ieee.double.word false (rung e2 K2)) 0 = some .gt := by
  have hread : Ieee.double.order (Ieee.double.word false (rung e2 K2)) 0 = some (compare ((K2 <<< ((e2 - 52) - min (e2 - 52) (-1074)).toNat : Nat) : Int) ((0 : Nat) <<< ((-1074 : Int) - min (e2 - 52) (-1074)).toNat : Nat)) := by
    unfold Ieee.Format.order
    rw [read_zero, read_word false e2 K2 n2.lo n2.hi (by have := n2.el; omega) (by have := n2.eh; omega)]
    rfl
  rw [hread, zero_shift]
  have p : 0 < K2 <<< ((e2 - 52) - min (e2 - 52) (-1074)).toNat := by rw [Nat.shiftLeft_eq]; exact Nat.mul_pos (by have := n2.lo; omega) (Nat.two_pow_pos _)
  rw [cmp_gt (by omega)]
theorem order_nz {e1 : Int} {K1 : Nat} (n1 : Nrm e1 K1) : Ieee.double.order (Ieee.double.word true (rung e1 K1)) 0 = some .lt := by
  have hread : Ieee.double.order (Ieee.double.word true (rung e1 K1)) 0 = some (compare (-(K1 <<< ((e1 - 52) - min (e1 - 52) (-1074)).toNat : Nat) : Int) ((0 : Nat) <<< ((-1074 : Int) - min (e1 - 52) (-1074)).toNat : Nat)) := by
    unfold Ieee.Format.order
    rw [read_zero, read_word true e1 K1 n1.lo n1.hi (by have := n1.el; omega) (by have := n1.eh; omega)]
    rfl
  rw [hread, zero_shift]
  have p : 0 < K1 <<< ((e1 - 52) - min (e1 - 52) (-1074)).toNat := by rw [Nat.shiftLeft_eq]; exact Nat.mul_pos (by have := n1.lo; omega) (Nat.two_pow_pos _)
  rw [cmp_lt (by omega)]
theorem order_zz : Ieee.double.order 0 0 = some .eq := by decide
/-! the quotient's rung -/
theorem q_bd1 {K N : Nat} (h : N ≤ K) (h2 : K ≤ 2 * N) (hN : 0 < N) : 4503599627370496 ≤ rq (K * 4503599627370496) N ∧ rq (K * 4503599627370496) N ≤ 9007199254740992 := by
  constructor
  · have := rq_mono (A1 := 4503599627370496 * N) (A2 := K * 4503599627370496) hN hN (Nat.mul_le_mul_right _ (by omega))
    rwa [rq_exact _ _ hN] at this
  · have := rq_mono (A1 := K * 4503599627370496) (A2 := 9007199254740992 * N) hN hN (Nat.mul_le_mul_right _ (by omega))
    rwa [rq_exact _ _ hN] at this
theorem q_bd2 {K N : Nat} (h : K ≤ N) (h2 : N ≤ 2 * K) (hN : 0 < N) : 4503599627370496 ≤ rq (K * 9007199254740992) N ∧ rq (K * 9007199254740992) N ≤ 9007199254740992 := by
  constructor
  · have := rq_mono (A1 := 4503599627370496 * N) (A2 := K * 9007199254740992) hN hN (Nat.mul_le_mul_right _ (by omega))
    rwa [rq_exact _ _ hN] at this
  · have := rq_mono (A1 := K * 9007199254740992) (A2 := 9007199254740992 * N) hN hN (Nat.mul_le_mul_right _ (by omega))
    rwa [rq_exact _ _ hN] at this

/-- the dividend's rung rises: so does the quotient's -/
theorem quot_mono {e1 e2 f : Int} {K1 K2 N : Nat} (n1 : Nrm e1 K1) (n2 : Nrm e2 K2) (nf : Nrm f N) (a1 : -200 ≤ e1) (a2 : -200 ≤ e2) (a3 : f ≤ 200) (h : rung e1 K1 ≤ rung e2 K2) : quot e1 K1 f N ≤ quot e2 K2 f N := by
  obtain ⟨x1, x2, x3, x4⟩ := n1
  obtain ⟨y1, y2, y3, y4⟩ := n2
  obtain ⟨z1, z2, z3, z4⟩ := nf
  have hN : 0 < N := by omega
  have hlex : e1 < e2 ∨ (e1 = e2 ∧ K1 ≤ K2) := by unfold rung at h; omega
  unfold quot
  by_cases c1 : N ≤ K1
  · rw [if_pos c1]
    have b1 := q_bd1 c1 (by omega) hN
    by_cases c2 : N ≤ K2
    · rw [if_pos c2]
      have b2 := q_bd1 c2 (by omega) hN
      rcases hlex with g | ⟨g, k⟩
      · unfold rung; omega
      · subst g
        have := rq_mono (A1 := K1 * 4503599627370496) (A2 := K2 * 4503599627370496) hN hN (Nat.mul_le_mul_right _ (by omega))
        unfold rung; omega
    · rw [if_neg c2]
      have b2 := q_bd2 (K := K2) (N := N) (by omega) (by omega) hN
      rcases hlex with g | ⟨g, k⟩
      · have := rq_mono (A1 := K1 * 4503599627370496) (A2 := K2 * 9007199254740992) hN hN (Nat.mul_le_mul_right _ (by omega))
        unfold rung; omega
      · omega
  · rw [if_neg c1]
    have b1 := q_bd2 (K := K1) (N := N) (by omega) (by omega) hN
    by_cases c2 : N ≤ K2
    · rw [if_pos c2]
      have b2 := q_bd1 c2 (by omega) hN
      unfold rung; omega
    · rw [if_neg c2]
      have b2 := q_bd2 (K := K2) (N := N) (by omega) (by omega) hN
      rcases hlex with g | ⟨g, k⟩
      · unfold rung; omega
      · subst g
        have := rq_mono (A1 := K1 * 9007199254740992) (A2 := K2 * 9007199254740992) hN hN (Nat.mul_le_mul_right _ (by omega))
        unfold rung; omega
/-- the divisor's rung rises: the quotient's falls -/
theorem quot_anti {e f1 f2 : Int} {K N1 N2 : Nat} (n : Nrm e K) (n1 : Nrm f1 N1) (n2 : Nrm f2 N2) (a1 : -200 ≤ e) (a2 : f1 ≤ 200) (a3 : f2 ≤ 200) (h : rung f1 N1 ≤ rung f2 N2) : quot e K f2 N2 ≤ quot e K f1 N1 := by
  obtain ⟨x1, x2, x3, x4⟩ := n
  obtain ⟨y1, y2, y3, y4⟩ := n1
  obtain ⟨z1, z2, z3, z4⟩ := n2
  have hN1 : 0 < N1 := by omega
  have hN2 : 0 < N2 := by omega
  have hlex : f1 < f2 ∨ (f1 = f2 ∧ N1 ≤ N2) := by unfold rung at h; omega
  unfold quot
  by_cases c1 : N1 ≤ K
  · rw [if_pos c1]
    have b1 := q_bd1 c1 (by omega) hN1
    by_cases c2 : N2 ≤ K
    · rw [if_pos c2]
      have b2 := q_bd1 c2 (by omega) hN2
      rcases hlex with g | ⟨g, k⟩
      · unfold rung; omega
      · subst g
        have := rq_mono (A1 := K * 4503599627370496) (A2 := K * 4503599627370496) hN2 hN1 (Nat.mul_le_mul_left _ k)
        unfold rung; omega
    · rw [if_neg c2]
      have b2 := q_bd2 (K := K) (N := N2) (by omega) (by omega) hN2
      unfold rung; omega
  · rw [if_neg c1]
    have b1 := q_bd2 (K := K) (N := N1) (by omega) (by omega) hN1
    by_cases c2 : N2 ≤ K
    · rw [if_pos c2]
      have b2 := q_bd1 c2 (by omega) hN2
      rcases hlex with g | ⟨g, k⟩
      · have e0 : K * 4503599627370496 * N1 ≤ K * 9007199254740992 * N2 := by
          have p1 : K * 4503599627370496 * N1 = 4503599627370496 * (K * N1) := by rw [Nat.mul_comm K, Nat.mul_assoc]
          have p2 : K * 9007199254740992 * N2 = 4503599627370496 * (K * (2 * N2)) := by rw [Nat.mul_comm K 9007199254740992, Nat.mul_assoc, Nat.mul_left_comm K 2, ← Nat.mul_assoc 4503599627370496 2]
          rw [p1, p2]
          exact Nat.mul_le_mul_left _ (Nat.mul_le_mul_left _ (by omega))
        have := rq_mono hN2 hN1 e0
        unfold rung; omega
      · omega
    · rw [if_neg c2]
      have b2 := q_bd2 (K := K) (N := N2) (by omega) (by omega) hN2
      rcases hlex with g | ⟨g, k⟩
      · unfold rung; omega
      · subst g
        have := rq_mono (A1 := K * 9007199254740992) (A2 := K * 9007199254740992) hN2 hN1 (Nat.mul_le_mul_left _ k)
        unfold rung; omega
theorem quot_norm {e f : Int} {K N : Nat} (n : Nrm e K) (nf : Nrm f N) (a1 : -200 ≤ e) (a2 : e ≤ 200) (a3 : -200 ≤ f) (a4 : f ≤ 200) : ∃ g Q, Nrm g Q ∧ quot e K f N = rung g Q ∧ -402 ≤ g ∧ g ≤ 402 := by
  obtain ⟨x1, x2, x3, x4⟩ := n
  obtain ⟨z1, z2, z3, z4⟩ := nf
  have hN : 0 < N := by omega
  unfold quot
  by_cases c1 : N ≤ K
  · rw [if_pos c1]
    have b1 := q_bd1 c1 (by omega) hN
    obtain ⟨g, Q, p1, p2, p3, p4, p5⟩ := norm (e - f) _ b1.1 b1.2 (by omega)
    exact ⟨g, Q, ⟨p1, p2, by omega, by omega⟩, p5, by omega, by omega⟩
  · rw [if_neg c1]
    have b1 := q_bd2 (K := K) (N := N) (by omega) (by omega) hN
    obtain ⟨g, Q, p1, p2, p3, p4, p5⟩ := norm (e - f - 1) _ b1.1 b1.2 (by omega)
    exact ⟨g, Q, ⟨p1, p2, by omega, by omega⟩, p5, by omega, by omega⟩
theorem rung_up (e : Int) (K : Nat) (h : 0 ≤ e) : rung (e + 1) K = rung e K + 4503599627370496 := by
  unfold rung
  rw [show (e + 1 + 1022).toNat = (e + 1022).toNat + 1 by omega, Nat.add_mul, Nat.one_mul]
  generalize (e + 1022).toNat * 4503599627370496 = x
  omega
theorem rung_succ {e1 e2 : Int} {K1 K2 : Nat} (h1 : 0 ≤ e1) (h2 : 0 ≤ e2) (h : rung e1 K1 ≤ rung e2 K2) : rung (e1 + 1) K1 ≤ rung (e2 + 1) K2 := by
  rw [rung_up e1 K1 h1, rung_up e2 K2 h2]
  exact Nat.add_le_add_right h _
end Go.Proofs.Ytiedojmhagojgaa
