/-
  The laws 'the ratio lies between 0 and 1, and is 1 just at the top' and 'the ratio is free of scale'.
-/
import Derived.Test.YtiedojmhagojgaaMono
import Derived.Test.YtiedojmhagojgaaScale
namespace Go.Proofs.Ytiedojmhagojgaa
open Go.RowKit
set_option linter.unusedVariables false

theorem nrm_one : Nrm 0 4503599627370496 := ⟨Nat.le_refl _, by decide, by decide, by decide⟩
theorem cnt_of {M e K : Nat} (n : Nrm e K) (h : e ≤ 53) (r : rung (M.log2 : Nat) (sig M) = rung e K) : Cnt M e K := ⟨n, by omega, by omega, r⟩

/-- what the law asks of the ratio's word -/
structure Fine (z : Nat) (top : Bool) : Prop where
  ge : (FloatKind.f64.format.order z 0 == some .gt || FloatKind.f64.format.order z 0 == some .eq) = true
  le : (FloatKind.f64.format.order z 4607182418800017408 == some .lt || FloatKind.f64.format.order z 4607182418800017408 == some .eq) = true
  eq : (FloatKind.f64.format.order z 4607182418800017408 == some .eq) = top
theorem fine_of {z : Nat} {top : Bool} {o1 o2 : Ordering} (h1 : Ieee.double.order z 0 = some o1) (h2 : Ieee.double.order z 4607182418800017408 = some o2) (g1 : (o1 == .gt || o1 == .eq) = true) (g2 : (o2 == .lt || o2 == .eq) = true) (g3 : (o2 == .eq) = top) : Fine z top := by
  have e1 : FloatKind.f64.format.order z 0 = some o1 := h1
  have e2 : FloatKind.f64.format.order z 4607182418800017408 = some o2 := h2
  constructor
  · rw [e1]; exact g1
  · rw [e2]; exact g2
  · rw [e2]; exact g3

theorem top_rat {m l : Int} (h0 : 0 ≤ m) (h1 : 2 * m ≤ l) (h2 : 0 < l) (h3 : l ≤ 9007199254740992) : ∃ z, Rat m l z ∧ Fine z (decide (2 * m = l)) := by
  obtain ⟨f, N, nf, bf, rf, xf⟩ := exact_cnt l.natAbs (by omega) (by omega)
  have cl := cnt_of nf bf rf
  rcases (show 0 < m ∨ m ≤ 0 by omega) with s | s
  · obtain ⟨e, K, n, be, r, x⟩ := exact_cnt m.natAbs (by omega) (by omega)
    have c := cnt_of n be r
    have rt := rat_sgn false (by simp; omega) (by omega) (by omega) (by omega) h2 (by omega) c cl
    obtain ⟨g, Q, p1, p2⟩ := quot_nrm c cl
    refine ⟨_, rt, ?_⟩
    by_cases ht : 2 * m = l
    · rw [quot_top n nf be bf x xf (by omega), decide_eq_true ht]
      have o := (order_pos nrm_one nrm_one).2.1 rfl
      rw [one_word] at o ⊢
      have oz := order_pz nrm_one
      rw [one_word] at oz
      exact fine_of oz o rfl rfl rfl
    · have hq := quot_less n nf be bf x xf (by omega) (by omega)
      rw [decide_eq_false ht]
      rw [p2] at hq ⊢
      have o := (order_pos p1 nrm_one).1 (Nat.lt_of_le_of_lt hq rung_below)
      rw [one_word] at o
      exact fine_of (order_pz p1) o rfl rfl rfl
  · obtain rfl : m = 0 := by omega
    refine ⟨_, rat_zero h2 (by omega) cl, ?_⟩
    rw [decide_eq_false (by omega)]
    have o := order_zp nrm_one
    rw [one_word] at o
    exact fine_of order_zz o rfl rfl rfl
theorem top_one : Fine 4607182418800017408 true := by
  have o := (order_pos nrm_one nrm_one).2.1 rfl
  have oz := order_pz nrm_one
  rw [one_word] at o oz
  exact fine_of oz o rfl rfl rfl

theorem ret_bool {x y : Bool} (h : x = y) : Ending.returned (.bool x) = .returned (.bool y) := by rw [h]
theorem top_walk (m l : Int) (w : World) (w0 : (Lit.int .i64 m).wf = true) (w1 : (Lit.int .i64 l).wf = true) :
    Calls Try.prog 4 #[.int .i64 m, .int .i64 l] w fun e w' => e = .returned (.bool true) ∧ Below w.heap.size w w' := by
  have b1 := bounds_i64 w0
  have b2 := bounds_i64 w1
  clear w0 w1
  by_cases h1 : l < 0
  · go_enter Try.func4, Try.ntmps4
    go_wp2_with fail
    go_ret
    exact ⟨rfl, Below.refl _ _⟩
  replace h1 : 0 ≤ l := by omega
  by_cases h2 : 9007199254740992 < l
  · go_enter Try.func4, Try.ntmps4
    go_wp2_with fail
    go_ret
    exact ⟨rfl, Below.refl _ _⟩
  replace h2 : l ≤ 9007199254740992 := by omega
  by_cases h3 : m < 0
  · go_enter Try.func4, Try.ntmps4
    go_wp2_with fail
    go_ret
    exact ⟨rfl, Below.refl _ _⟩
  replace h3 : 0 ≤ m := by omega
  by_cases h4 : l - m < m
  · go_enter Try.func4, Try.ntmps4
    go_wp2_with fail
    go_ret
    exact ⟨rfl, Below.refl _ _⟩
  replace h4 : m ≤ l - m := by omega
  clear b1 b2
  rcases (show 0 < l ∨ l ≤ 0 by omega) with s | s
  · obtain ⟨z, r, fn⟩ := top_rat h3 (by omega) s h2
    obtain ⟨q1, q2, q3⟩ := fn
    have RR := Lib.hid r
    clear r
    have hl0 : (l == 0) = false := by simp; omega
    by_cases ht : 2 * m = l
    · rw [decide_eq_true ht] at q3
      have hm : (m + m == l) = true := by simp; omega
      clear ht
      go_enter Try.func4, Try.ntmps4
      go_wp2_with fail
      refine (rat_calls _ s RR.out).mono ?_
      rintro e w' ⟨rfl, rfl⟩
      go_wp2_with fail
      go_ret
      exact ⟨rfl, Below.refl _ _⟩
    · rw [decide_eq_false ht] at q3
      rw [q3, Bool.or_false] at q2
      have hm : (m + m == l) = false := by simp; omega
      clear ht
      go_enter Try.func4, Try.ntmps4
      go_wp2_with fail
      refine (rat_calls _ s RR.out).mono ?_
      rintro e w' ⟨rfl, rfl⟩
      go_wp2_with fail
      go_ret
      exact ⟨rfl, Below.refl _ _⟩
  · obtain rfl : l = 0 := by omega
    obtain rfl : m = 0 := by omega
    obtain ⟨q1, q2, q3⟩ := top_one
    go_enter Try.func4, Try.ntmps4
    go_wp2_with fail
    refine (ratio_one _ _ _ s).mono ?_
    rintro e w' ⟨rfl, rfl⟩
    go_wp2_with fail
    go_ret
    exact ⟨rfl, Below.refl _ _⟩
/-! scale -/
theorem self_eq {M L : Nat} {e f : Int} {K N : Nat} (c : Cnt M e K) (cl : Cnt L f N) : (FloatKind.f64.format.order (Ieee.double.word false (quot (e + 1) K f N)) (Ieee.double.word false (quot (e + 1) K f N)) == some .eq) = true := by
  obtain ⟨g, Q, p1, p2⟩ := quot_nrm c cl
  rw [p2]
  have o : FloatKind.f64.format.order (Ieee.double.word false (rung g Q)) (Ieee.double.word false (rung g Q)) = some .eq := (order_pos p1 p1).2.1 rfl
  rw [o]
  rfl
theorem zero_eq : (FloatKind.f64.format.order 0 0 == some .eq) = true := by
  have o : FloatKind.f64.format.order 0 0 = some .eq := order_zz
  rw [o]
  rfl
theorem scale_rat {m l k : Int} (hk : 1 ≤ k) (hl : 1 ≤ l) (hm : 0 ≤ m) (hml : m ≤ l) (h : l * k ≤ 9007199254740992) :
    ∃ z, Rat (m * k) (l * k) z ∧ Rat m l z ∧ (FloatKind.f64.format.order z z == some .eq) = true := by
  have hlk : l ≤ l * k := by
    have := Int.mul_le_mul_of_nonneg_left hk (show 0 ≤ l by omega)
    rwa [Int.mul_one] at this
  obtain ⟨f, N, nf, bf, rf, xf⟩ := exact_cnt l.natAbs (by omega) (by omega)
  obtain ⟨f', N', nf', bf', rf', xf'⟩ := exact_cnt (l * k).natAbs (by omega) (by omega)
  have cl := cnt_of nf bf rf
  have cl' := cnt_of nf' bf' rf'
  have hmk0 : 0 ≤ m * k := Int.mul_nonneg hm (by omega)
  have hmk1 : m * k ≤ l * k := Int.mul_le_mul_of_nonneg_right hml (by omega)
  rcases (show 0 < m ∨ m ≤ 0 by omega) with s | s
  · have hmk : 0 < m * k := Int.mul_pos s (by omega)
    obtain ⟨e, K, n, be, r, x⟩ := exact_cnt m.natAbs (by omega) (by omega)
    obtain ⟨e', K', n', be', r', x'⟩ := exact_cnt (m * k).natAbs (by omega) (by omega)
    have c := cnt_of n be r
    have c' := cnt_of n' be' r'
    have rt := rat_sgn false (by simp; omega) (by omega) (by omega) (by omega) (by omega) (by omega) c cl
    have rt' := rat_sgn (m := m * k) (l := l * k) false (decide_eq_false (by omega)) (by omega) (by omega) (by omega) (by omega) (by omega) c' cl'
    have q := quot_same n' nf' n nf be' bf' be bf x' xf' x xf (by rw [Int.natAbs_mul, Int.natAbs_mul]; simp only [Nat.mul_comm, Nat.mul_left_comm])
    rw [q] at rt'
    exact ⟨_, rt', rt, self_eq c cl⟩
  · obtain rfl : m = 0 := by omega
    rw [Int.zero_mul]
    exact ⟨0, rat_zero (by omega) (by omega) cl', rat_zero (by omega) (by omega) cl, zero_eq⟩

theorem scale_walk (m l k : Int) (w : World) (w0 : (Lit.int .i64 m).wf = true) (w1 : (Lit.int .i64 l).wf = true) (w2 : (Lit.int .i64 k).wf = true) :
    Calls Try.prog 5 #[.int .i64 m, .int .i64 l, .int .i64 k] w fun e w' => e = .returned (.bool true) ∧ Below w.heap.size w w' := by
  have b1 := bounds_i64 w0
  have b2 := bounds_i64 w1
  have b3 := bounds_i64 w2
  clear w0 w1 w2
  by_cases h1 : k < 1
  · go_enter Try.func5, Try.ntmps5
    go_wp2_with fail
    go_ret
    exact ⟨rfl, Below.refl _ _⟩
  replace h1 : 1 ≤ k := by omega
  by_cases h2 : l < 1
  · go_enter Try.func5, Try.ntmps5
    go_wp2_with fail
    go_ret
    exact ⟨rfl, Below.refl _ _⟩
  replace h2 : 1 ≤ l := by omega
  by_cases h3 : m < 0
  · go_enter Try.func5, Try.ntmps5
    go_wp2_with fail
    go_ret
    exact ⟨rfl, Below.refl _ _⟩
  replace h3 : 0 ≤ m := by omega
  by_cases h4 : l < m
  · go_enter Try.func5, Try.ntmps5
    go_wp2_with fail
    go_ret
    exact ⟨rfl, Below.refl _ _⟩
  replace h4 : m ≤ l := by omega
  have d0 : 0 ≤ 9007199254740992 / k := Int.ediv_nonneg (by omega) (by omega)
  have d1 : 9007199254740992 / k ≤ 9007199254740992 := Int.ediv_le_self _ (by omega)
  by_cases h5 : 9007199254740992 / k < l
  · go_enter Try.func5, Try.ntmps5
    go_wp2_with fail
    go_ret
    exact ⟨rfl, Below.refl _ _⟩
  replace h5 : l ≤ 9007199254740992 / k := by omega
  have hlk : l * k ≤ 9007199254740992 := by
    have := Int.mul_le_mul_of_nonneg_right h5 (show 0 ≤ k by omega)
    have h := Int.ediv_mul_le 9007199254740992 (show k ≠ 0 by omega)
    omega
  obtain ⟨z, r1, r2, o⟩ := scale_rat h1 h2 h3 h4 hlk
  have R1 := Lib.hid r1
  have R2 := Lib.hid r2
  clear r1 r2
  have p1 : 0 ≤ m * k := Int.mul_nonneg h3 (by omega)
  have p2 : m * k ≤ l * k := Int.mul_le_mul_of_nonneg_right h4 (by omega)
  have p3 : 0 < l * k := Int.mul_pos (by omega) (by omega)
  have p4 : m * k ≤ 9007199254740992 := by omega
  go_enter Try.func5, Try.ntmps5
  go_wp2_with fail
  refine (rat_calls _ p3 R1.out).mono ?_
  rintro e w' ⟨rfl, rfl⟩
  go_wp2_with fail
  refine (rat_calls _ (by omega) R2.out).mono ?_
  rintro e w' ⟨rfl, rfl⟩
  go_wp2_with fail
  go_ret
  exact ⟨rfl, Below.refl _ _⟩
end Go.Proofs.Ytiedojmhagojgaa
