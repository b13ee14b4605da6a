/-
  Lines of a list of bytes, by plain lists: no program in sight
-/
import Derived.Lib.Bytealg
import Derived.Lib.Strings
import Derived.Lib.IndexBytes
namespace Go.Proofs.Ytecldoegfjdpnaa

def rest : List UInt8 → Option (List UInt8)
  | [] => none
  | b :: l => if b == 10 then some l else rest l
def first : List UInt8 → List UInt8
  | [] => []
  | b :: l => if b == 10 then [] else b :: first l
def lineAt : Nat → List UInt8 → Option (List UInt8)
  | 0, l => some (first l)
  | n + 1, l => (rest l).bind (lineAt n)
def snip (l : List UInt8) (k : Int) : Option (List UInt8) := if l = [] then none else lineAt (k - 1).toNat l

theorem idx_none {l : List UInt8} (h : Lib.indexByte l 10 < 0) : rest l = none ∧ first l = l := by
  induction l with
  | nil => exact ⟨rfl, rfl⟩
  | cons b l ih =>
    unfold Lib.indexByte at h
    by_cases hb : (b == 10) = true
    · rw [if_pos hb] at h; omega
    · rw [if_neg hb] at h
      have hg := Lib.indexByte_ge l 10
      have h' : Lib.indexByte l 10 < 0 := by
        by_cases e : (Lib.indexByte l 10 == -1) = true
        · have : Lib.indexByte l 10 = -1 := by simpa using e
          omega
        · rw [if_neg e] at h
          omega
      obtain ⟨h1, h2⟩ := ih h'
      constructor
      · rw [rest, if_neg hb, h1]
      · rw [first, if_neg hb, h2]
theorem idx_some {l : List UInt8} {i : Nat} (h : Lib.indexByte l 10 = (i : Int)) : rest l = some (l.drop (i + 1)) ∧ first l = l.take i ∧ i < l.length := by
  induction l generalizing i with
  | nil => simp [Lib.indexByte] at h
  | cons b l ih =>
    unfold Lib.indexByte at h
    by_cases hb : (b == 10) = true
    · rw [if_pos hb] at h
      obtain rfl : i = 0 := by omega
      rw [rest, first, if_pos hb, if_pos hb]
      simp
    · rw [if_neg hb] at h
      by_cases e : (Lib.indexByte l 10 == -1) = true
      · rw [if_pos e] at h; omega
      · rw [if_neg e] at h
        have hg := Lib.indexByte_ge l 10
        have hne : Lib.indexByte l 10 ≠ -1 := by simpa using e
        obtain ⟨j, rfl⟩ : ∃ j, i = j + 1 := ⟨i - 1, by omega⟩
        obtain ⟨h1, h2, h3⟩ := ih (i := j) (by omega)
        rw [rest, first, if_neg hb, if_neg hb, h1, h2]
        simp
        exact h3
theorem snip_none {l : List UInt8} (k : Int) (h : l = []) : snip l k = none := by simp [snip, h]
theorem snip_some {l : List UInt8} (k : Int) (h : l ≠ []) : snip l k = lineAt (k - 1).toNat l := by simp [snip, h]
theorem ba_ext {x : ByteArray} {l : List UInt8} (h : x.data.toList = l) : x = ⟨l.toArray⟩ := by
  subst h; rfl
theorem line_zero (l : List UInt8) : lineAt 0 l = some (first l) := rfl
theorem line_succ (n : Nat) (l : List UInt8) : lineAt (n + 1) l = (rest l).bind (lineAt n) := rfl

/-- where a scan of the bytes from the left stands: line number c, which began at st; the next byte is n -/
def Scan (l : List UInt8) (T c st n : Nat) : Prop :=
  c ≤ T ∧ st ≤ n ∧ n ≤ l.length ∧ lineAt (T - c) (l.drop st) = lineAt T l ∧ first (l.drop st) = (l.drop st).take (n - st) ++ first (l.drop n) ∧ rest (l.drop st) = rest (l.drop n)
theorem scan_start (l : List UInt8) (T : Nat) : Scan l T 0 0 0 := ⟨by omega, by omega, by omega, by simp, by simp, rfl⟩
theorem drop_at {l : List UInt8} {n : Nat} (h : n < l.length) : l.drop n = l[n] :: l.drop (n + 1) := List.drop_eq_getElem_cons h
theorem take_more {l : List UInt8} {st n : Nat} (h1 : st ≤ n) (h : n < l.length) : (l.drop st).take (n + 1 - st) = (l.drop st).take (n - st) ++ [l[n]] := by
  rw [show n + 1 - st = (n - st) + 1 by omega, List.take_succ_eq_append_getElem (by rw [List.length_drop]; omega), List.getElem_drop]
  congr 2
  congr 1
  omega
theorem scan_skip {l : List UInt8} {T c st n : Nat} (h : Scan l T c st n) (hn : n < l.length) (hb : (l[n] == 10) = false) : Scan l T c st (n + 1) := by
  obtain ⟨h1, h2, h3, h4, h5, h6⟩ := h
  refine ⟨h1, by omega, by omega, h4, ?_, ?_⟩
  · rw [h5, drop_at hn, first, if_neg (by rw [hb]; simp), take_more h2 hn]
    simp
  · rw [h6, drop_at hn, rest, if_neg (by rw [hb]; simp)]
theorem scan_line {l : List UInt8} {T c st n : Nat} (h : Scan l T c st n) (hc : c = T) (hn : n = l.length ∨ ∃ hn : n < l.length, (l[n] == 10) = true) : lineAt T l = some ((l.drop st).take (n - st)) := by
  obtain ⟨h1, h2, h3, h4, h5, h6⟩ := h
  rw [← h4, show T - c = 0 by omega, line_zero, h5]
  rcases hn with rfl | ⟨hn, hb⟩
  · simp [first]
  · rw [drop_at hn, first, if_pos hb]; simp
theorem scan_next {l : List UInt8} {T c st n : Nat} (h : Scan l T c st n) (hc : c < T) (hn : n < l.length) (hb : (l[n] == 10) = true) : Scan l T (c + 1) (n + 1) (n + 1) := by
  obtain ⟨h1, h2, h3, h4, h5, h6⟩ := h
  refine ⟨by omega, by omega, by omega, ?_, by simp, rfl⟩
  rw [← h4, show T - c = (T - (c + 1)) + 1 by omega, line_succ, h6, drop_at hn, rest, if_pos hb]
  rfl
theorem scan_end {l : List UInt8} {T c st n : Nat} (h : Scan l T c st n) (hc : c < T) (hn : n = l.length) : lineAt T l = none := by
  obtain ⟨h1, h2, h3, h4, h5, h6⟩ := h
  rw [← h4, show T - c = (T - (c + 1)) + 1 by omega, line_succ, h6, hn]
  simp [rest]
end Go.Proofs.Ytecldoegfjdpnaa
