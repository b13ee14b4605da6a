/-
  The law 'calculateRatio is monotone', for all ints.
-/
import Derived.Test.YtiedojmhagojgaaRatio
namespace Go.Proofs.Ytiedojmhagojgaa
open Go.RowKit
set_option linter.unusedVariables false

def Rat (m l : Int) (z : Nat) : Prop := ∃ y, floatBits .mul .f64 4611686018427387904 (floatOfInt .f64 m) = some y ∧ floatBits .quo .f64 y (floatOfInt .f64 l) = some z
theorem rat_mk {m l : Int} {y z : Nat} (h1 : floatBits .mul .f64 4611686018427387904 (floatOfInt .f64 m) = some y) (h2 : floatBits .quo .f64 y (floatOfInt .f64 l) = some z) : Rat m l z := ⟨y, h1, h2⟩
theorem rat_fun {m l : Int} {z z' : Nat} (h : Rat m l z) (h' : Rat m l z') : z = z' := by
  obtain ⟨y, a, b⟩ := h
  obtain ⟨y', a', b'⟩ := h'
  rw [a] at a'
  injection a' with a'
  subst a'
  rw [b] at b'
  injection b'
theorem rat_calls {m l : Int} {z : Nat} (w : World) (hl : 0 < l) (h : Rat m l z) : Calls Try.prog 6 #[.int .i64 m, .int .i64 l] w fun e w' => e = .returned (.float .f64 z) ∧ w = w' := by
  obtain ⟨y, a, b⟩ := h
  exact ratio_any m l y z w hl a b
/-- a count's float -/
def Cnt (M : Nat) (e : Int) (K : Nat) : Prop := Nrm e K ∧ 0 ≤ e ∧ e ≤ 64 ∧ R M = rung e K
theorem cnt_ex (M : Nat) (h0 : 0 < M) (h : M < 18446744073709551616) : ∃ e K, Cnt M e K := R_norm M h0 h
theorem rat_sgn {m l : Int} {e f : Int} {K N : Nat} (neg : Bool) (hm : decide (m < 0) = neg) (hm0 : m ≠ 0) (b1 : -9223372036854775808 ≤ m) (b2 : m ≤ 9223372036854775807) (hl : 0 < l) (b3 : l ≤ 9223372036854775807)
    (c1 : Cnt m.natAbs e K) (c2 : Cnt l.natAbs f N) : Rat m l (Ieee.double.word neg (quot (e + 1) K f N)) := by
  obtain ⟨n1, e0, e1, r1⟩ := c1
  obtain ⟨n2, f0, f1, r2⟩ := c2
  exact ⟨_, ratio_bits hm rfl (by omega) (by omega) (by simp; omega) rfl (by omega) (by omega) n1 e0 e1 r1 n2 f0 f1 r2⟩
theorem rat_zero {l : Int} {f : Int} {N : Nat} (hl : 0 < l) (b3 : l ≤ 9223372036854775807) (c2 : Cnt l.natAbs f N) : Rat 0 l 0 := by
  obtain ⟨n2, f0, f1, r2⟩ := c2
  have hd : decide (l < 0) = false := decide_eq_false (by omega)
  have h0 : 0 < l.natAbs := by omega
  have h1 : l.natAbs < 18446744073709551616 := by omega
  have h := @ratio_zero l l.natAbs f N hd rfl h0 h1 n2 r2
  exact rat_mk h.1 h.2
theorem nrm_succ {e : Int} {K : Nat} (n : Nrm e K) (h : e ≤ 64) (h0 : 0 ≤ e) : Nrm (e + 1) K := ⟨n.lo, n.hi, by omega, by omega⟩
theorem cnt_mono {M1 M2 : Nat} {e1 e2 : Int} {K1 K2 : Nat} (c1 : Cnt M1 e1 K1) (c2 : Cnt M2 e2 K2) (h0 : 0 < M1) (h : M1 ≤ M2) : rung e1 K1 ≤ rung e2 K2 := by
  rw [← c1.2.2.2, ← c2.2.2.2]; exact R_mono h0 h
theorem quot_cnt {M1 M2 L : Nat} {e1 e2 f : Int} {K1 K2 N : Nat} (c1 : Cnt M1 e1 K1) (c2 : Cnt M2 e2 K2) (cl : Cnt L f N) (h0 : 0 < M1) (h : M1 ≤ M2) : quot (e1 + 1) K1 f N ≤ quot (e2 + 1) K2 f N := by
  obtain ⟨n1, a1, a2, a3⟩ := c1
  obtain ⟨n2, b1, b2, b3⟩ := c2
  obtain ⟨nl, l1, l2, l3⟩ := cl
  exact quot_mono (nrm_succ n1 a2 a1) (nrm_succ n2 b2 b1) nl (by omega) (by omega) (by omega) (rung_succ a1 b1 (by rw [← a3, ← b3]; exact R_mono h0 h))
theorem quot_nrm {M L : Nat} {e f : Int} {K N : Nat} (c1 : Cnt M e K) (cl : Cnt L f N) : ∃ g Q, Nrm g Q ∧ quot (e + 1) K f N = rung g Q := by
  obtain ⟨n1, a1, a2, a3⟩ := c1
  obtain ⟨nl, l1, l2, l3⟩ := cl
  obtain ⟨g, Q, p1, p2, _, _⟩ := quot_norm (nrm_succ n1 a2 a1) nl (by omega) (by omega) (by omega) (by omega)
  exact ⟨g, Q, p1, p2⟩

theorem mono_m {m1 m2 l : Int} (h : m1 ≤ m2) (b1 : -9223372036854775808 ≤ m1) (b2 : m2 ≤ 9223372036854775807) (hl : 0 < l) (b3 : l ≤ 9223372036854775807) :
    ∃ z1 z2, Rat m1 l z1 ∧ Rat m2 l z2 ∧ Ieee.double.order z1 z2 ≠ some .gt := by
  obtain ⟨f, N, cl⟩ := cnt_ex l.natAbs (by omega) (by omega)
  rcases Int.lt_trichotomy m1 0 with s1 | s1 | s1
  · obtain ⟨e1, K1, c1⟩ := cnt_ex m1.natAbs (by omega) (by omega)
    have r1 := rat_sgn true (by simpa using s1) (by omega) b1 (by omega) hl b3 c1 cl
    obtain ⟨g1, Q1, p1, p2⟩ := quot_nrm c1 cl
    rcases Int.lt_trichotomy m2 0 with s2 | s2 | s2
    · obtain ⟨e2, K2, c2⟩ := cnt_ex m2.natAbs (by omega) (by omega)
      have r2 := rat_sgn true (by simpa using s2) (by omega) (by omega) b2 hl b3 c2 cl
      obtain ⟨g2, Q2, p3, p4⟩ := quot_nrm c2 cl
      have hq := quot_cnt c2 c1 cl (by omega) (by omega)
      refine ⟨_, _, r1, r2, ?_⟩
      rw [p2, p4] at hq ⊢
      exact order_neg p1 p3 hq
    · subst s2
      refine ⟨_, _, r1, rat_zero hl b3 cl, ?_⟩
      rw [p2, order_nz p1]; simp
    · obtain ⟨e2, K2, c2⟩ := cnt_ex m2.natAbs (by omega) (by omega)
      have r2 := rat_sgn false (by simp; omega) (by omega) (by omega) b2 hl b3 c2 cl
      obtain ⟨g2, Q2, p3, p4⟩ := quot_nrm c2 cl
      refine ⟨_, _, r1, r2, ?_⟩
      rw [p2, p4, order_np p1 p3]; simp
  · subst s1
    have r1 := rat_zero hl b3 cl
    rcases (show 0 < m2 ∨ m2 ≤ 0 by omega) with s2 | s2
    · obtain ⟨e2, K2, c2⟩ := cnt_ex m2.natAbs (by omega) (by omega)
      have r2 := rat_sgn false (by simp; omega) (by omega) (by omega) b2 hl b3 c2 cl
      obtain ⟨g2, Q2, p3, p4⟩ := quot_nrm c2 cl
      refine ⟨_, _, r1, r2, ?_⟩
      rw [p4, order_zp p3]; simp
    · obtain rfl : m2 = 0 := by omega
      exact ⟨_, _, r1, r1, by rw [order_zz]; simp⟩
  · obtain ⟨e1, K1, c1⟩ := cnt_ex m1.natAbs (by omega) (by omega)
    have r1 := rat_sgn false (by simp; omega) (by omega) b1 (by omega) hl b3 c1 cl
    obtain ⟨g1, Q1, p1, p2⟩ := quot_nrm c1 cl
    obtain ⟨e2, K2, c2⟩ := cnt_ex m2.natAbs (by omega) (by omega)
    have r2 := rat_sgn false (by simp; omega) (by omega) (by omega) b2 hl b3 c2 cl
    obtain ⟨g2, Q2, p3, p4⟩ := quot_nrm c2 cl
    have hq := quot_cnt c1 c2 cl (by omega) (by omega)
    refine ⟨_, _, r1, r2, ?_⟩
    rw [p2, p4] at hq ⊢
    obtain ⟨o1, o2, o3⟩ := order_pos p1 p3
    rcases Nat.lt_or_ge (rung g1 Q1) (rung g2 Q2) with g | g
    · rw [o1 g]; simp
    · rw [o2 (by omega)]; simp
theorem mono_l {m l1 l2 : Int} (hm : 0 ≤ m) (b2 : m ≤ 9223372036854775807) (hl : 0 < l1) (h : l1 ≤ l2) (b3 : l2 ≤ 9223372036854775807) :
    ∃ z1 z2, Rat m l1 z1 ∧ Rat m l2 z2 ∧ Ieee.double.order z1 z2 ≠ some .lt := by
  obtain ⟨f1, N1, cl1⟩ := cnt_ex l1.natAbs (by omega) (by omega)
  obtain ⟨f2, N2, cl2⟩ := cnt_ex l2.natAbs (by omega) (by omega)
  rcases (show 0 < m ∨ m ≤ 0 by omega) with s | s
  · obtain ⟨e, K, c⟩ := cnt_ex m.natAbs (by omega) (by omega)
    have r1 := rat_sgn false (by simp; omega) (by omega) (by omega) b2 hl (by omega) c cl1
    have r2 := rat_sgn false (by simp; omega) (by omega) (by omega) b2 (by omega) b3 c cl2
    obtain ⟨g1, Q1, p1, p2⟩ := quot_nrm c cl1
    obtain ⟨g2, Q2, p3, p4⟩ := quot_nrm c cl2
    have hr := cnt_mono cl1 cl2 (by omega) (by omega)
    have hq : quot (e + 1) K f2 N2 ≤ quot (e + 1) K f1 N1 := by
      obtain ⟨n0, a1, a2, a3⟩ := c
      exact quot_anti (nrm_succ n0 a2 a1) cl1.1 cl2.1 (by omega) (by have := cl1.2.2.1; omega) (by have := cl2.2.2.1; omega) hr
    refine ⟨_, _, r1, r2, ?_⟩
    rw [p2, p4] at hq ⊢
    obtain ⟨o1, o2, o3⟩ := order_pos p1 p3
    rcases Nat.lt_or_ge (rung g2 Q2) (rung g1 Q1) with g | g
    · rw [o3 g]; simp
    · rw [o2 (by omega)]; simp
  · obtain rfl : m = 0 := by omega
    exact ⟨_, _, rat_zero hl (by omega) cl1, rat_zero (by omega) b3 cl2, by rw [order_zz]; simp⟩

theorem bounds_i64 {a : Int} (h : (Lit.int .i64 a).wf = true) : -9223372036854775808 ≤ a ∧ a ≤ 9223372036854775807 := by
  simpa [Lit.wf, IntKind.min, IntKind.max, IntKind.signed, IntKind.bits] using h
theorem not_gt {z1 z2 : Nat} (h : Ieee.double.order z1 z2 ≠ some .gt) : (FloatKind.f64.format.order z1 z2 == some .gt) = false := by
  rw [beq_eq_false_iff_ne]; exact h
theorem not_lt {z1 z2 : Nat} (h : Ieee.double.order z1 z2 ≠ some .lt) : (FloatKind.f64.format.order z1 z2 == some .lt) = false := by
  rw [beq_eq_false_iff_ne]; exact h

theorem mono_walk (m1 m2 l1 l2 : Int) (w : World) (w0 : (Lit.int .i64 m1).wf = true) (w1 : (Lit.int .i64 m2).wf = true) (w2 : (Lit.int .i64 l1).wf = true) (w3 : (Lit.int .i64 l2).wf = true) :
    Calls Try.prog 3 #[.int .i64 m1, .int .i64 m2, .int .i64 l1, .int .i64 l2] w fun e w' => e = .returned (.bool true) ∧ Below w.heap.size w w' := by
  by_cases h1 : m2 < m1
  · go_enter Try.func3, Try.ntmps3
    go_wp2_with fail
    go_ret
    exact ⟨rfl, Below.refl _ _⟩
  replace h1 : m1 ≤ m2 := by omega
  by_cases h2 : l1 ≤ 0
  · go_enter Try.func3, Try.ntmps3
    go_wp2_with fail
    go_ret
    exact ⟨rfl, Below.refl _ _⟩
  replace h2 : 0 < l1 := by omega
  by_cases h3 : l2 < l1
  · go_enter Try.func3, Try.ntmps3
    go_wp2_with fail
    go_ret
    exact ⟨rfl, Below.refl _ _⟩
  replace h3 : l1 ≤ l2 := by omega
  have b1 := bounds_i64 w0
  have b2 := bounds_i64 w1
  have b3 := bounds_i64 w2
  have b4 := bounds_i64 w3
  obtain ⟨z1, z2, r1, r2, o⟩ := mono_m h1 b1.1 b2.2 h2 b3.2
  have o1 := not_gt o
  have R1 := Lib.hid r1
  have R2 := Lib.hid r2
  have h2' : 0 < l2 := by omega
  by_cases hm : 0 ≤ m1
  · obtain ⟨y1, y2, s1, s2, p⟩ := mono_l hm b1.2 h2 h3 b4.2
    obtain rfl := rat_fun r1 s1
    have p1 := not_lt p
    have R3 := Lib.hid s2
    clear r1 r2 o s1 s2 p b1 b2 b3 b4 w0 w1 w2 w3
    go_enter Try.func3, Try.ntmps3
    go_wp2_with fail
    refine (rat_calls _ h2 R1.out).mono ?_
    rintro e w' ⟨rfl, rfl⟩
    go_wp2_with fail
    refine (rat_calls _ h2 R2.out).mono ?_
    rintro e w' ⟨rfl, rfl⟩
    go_wp2_with fail
    refine (rat_calls _ h2 R1.out).mono ?_
    rintro e w' ⟨rfl, rfl⟩
    go_wp2_with fail
    refine (rat_calls _ h2' R3.out).mono ?_
    rintro e w' ⟨rfl, rfl⟩
    go_wp2_with fail
    go_ret
    exact ⟨rfl, Below.refl _ _⟩
  · have hm' : m1 < 0 := by omega
    clear r1 r2 o b1 b2 b3 b4 w0 w1 w2 w3
    go_enter Try.func3, Try.ntmps3
    go_wp2_with fail
    refine (rat_calls _ h2 R1.out).mono ?_
    rintro e w' ⟨rfl, rfl⟩
    go_wp2_with fail
    refine (rat_calls _ h2 R2.out).mono ?_
    rintro e w' ⟨rfl, rfl⟩
    go_wp2_with fail
    go_ret
    exact ⟨rfl, Below.refl _ _⟩
end Go.Proofs.Ytiedojmhagojgaa
