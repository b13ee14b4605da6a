/-
  Joining the lines of a list of bytes gives the list back, by plain lists
-/
import Derived.Test.YtecldoegfjdpnaaPlain
namespace Go.Proofs.Ytecldoegfjdpnaa

theorem first_split (l : List UInt8) : l = first l ++ l.drop (first l).length ∧ (l.drop (first l).length = [] ∨ ∃ r, l.drop (first l).length = 10 :: r) ∧ (first l).count 10 = 0 ∧ rest l = rest (l.drop (first l).length) := by
  induction l with
  | nil => simp [first]
  | cons b l ih =>
    by_cases hb : (b == 10) = true
    · have e : b = 10 := by simpa using hb
      subst e
      simp [first]
    · have hb' : (b == 10) = false := by simpa using hb
      obtain ⟨h1, h2, h3, h4⟩ := ih
      rw [first, if_neg hb]
      refine ⟨?_, ?_, ?_, ?_⟩
      · simp only [List.length_cons, List.drop_succ_cons, List.cons_append]
        rw [← h1]
      · simpa using h2
      · rw [List.count_cons, h3, hb']; simp
      · rw [rest, if_neg hb, h4]
        simp

def St (l : List UInt8) (m n : Nat) : Prop :=
  n ≤ l.length ∧ 0 < m ∧ (l.take n).count 10 + 1 = m ∧ (l.drop n = [] ∨ ∃ r, l.drop n = 10 :: r) ∧ ∀ j, lineAt (m + j) l = (rest (l.drop n)).bind (lineAt j)

theorem first_le (l : List UInt8) : (first l).length ≤ l.length := by
  have h := congrArg List.length (first_split l).1
  simp at h
  omega
theorem take_first (l : List UInt8) : l.take (first l).length = first l := by
  have e := congrArg (List.take (first l).length) (first_split l).1
  exact e.trans List.take_left
theorem st_first (l : List UInt8) : St l 1 (first l).length := by
  obtain ⟨h1, h2, h3, h4⟩ := first_split l
  refine ⟨first_le l, by omega, ?_, h2, fun j => ?_⟩
  · rw [take_first, h3]
  · rw [Nat.add_comm, line_succ, h4]
theorem st_step {l r : List UInt8} {m n : Nat} (h : St l m n) (hr : l.drop n = 10 :: r) :
    lineAt m l = some (first r) ∧ St l (m + 1) (n + 1 + (first r).length) ∧ l.take n ++ [10] ++ first r = l.take (n + 1 + (first r).length) := by
  obtain ⟨h1, h2, h3, h4, h5⟩ := h
  have hlen := congrArg List.length hr
  simp at hlen
  have e0 : l.take (n + 1 + (first r).length) = l.take n ++ [10] ++ first r := by
    rw [Nat.add_assoc, List.take_add, hr, Nat.add_comm 1, List.take_succ_cons, take_first]
    simp
  have e1 : l.drop (n + 1 + (first r).length) = r.drop (first r).length := by
    rw [Nat.add_assoc, ← List.drop_drop, hr, Nat.add_comm 1, List.drop_succ_cons]
  have hf := first_le r
  obtain ⟨f1, f2, f3, f4⟩ := first_split r
  refine ⟨?_, ⟨by omega, by omega, ?_, by rw [e1]; exact f2, fun j => ?_⟩, e0.symm⟩
  · have := h5 0
    rw [Nat.add_zero, hr] at this
    rw [this]
    simp [rest, lineAt]
  · rw [e0, List.count_append, List.count_append, f3]
    simp
    omega
  · rw [e1, ← f4, show m + 1 + j = m + (j + 1) by omega, h5 (j + 1), hr]
    simp [rest, line_succ]
theorem st_end {l : List UInt8} {m n : Nat} (h : St l m n) (hr : l.drop n = []) : lineAt m l = none ∧ l.take n = l ∧ l.count 10 + 1 = m := by
  obtain ⟨h1, h2, h3, h4, h5⟩ := h
  have hn : l.length ≤ n := List.drop_eq_nil_iff.1 hr
  have ht : l.take n = l := List.take_of_length_le hn
  refine ⟨?_, ht, by rw [ht] at h3; exact h3⟩
  have := h5 0
  rw [Nat.add_zero, hr] at this
  rw [this]
  rfl
theorem st_bound {l : List UInt8} {m n : Nat} (h : St l m n) : m ≤ n + 1 ∧ n ≤ l.length := by
  obtain ⟨h1, h2, h3, h4, h5⟩ := h
  have := List.count_le_length (a := (10 : UInt8)) (l := l.take n)
  rw [List.length_take] at this
  omega
theorem st_more {l r : List UInt8} {m n : Nat} (h : St l m n) (hr : l.drop n = 10 :: r) : n + 1 + (first r).length ≤ l.length := (st_step h hr).2.1.1
end Go.Proofs.Ytecldoegfjdpnaa
