/-
  The law 'Snippet shifts past the first line', for every two strings and every int.
-/
import Derived.Test.YtldkbeajdhekeaaLaw1
namespace Go.Proofs.Ytldkbeajdhekeaa
open Go.RowKit
set_option linter.unusedVariables false

def snS (s : ByteArray) (k : Int) : ByteArray := ⟨((snip s.data.toList k).getD []).toArray⟩
def snB (s : ByteArray) (k : Int) : Bool := (snip s.data.toList k).isSome
theorem snippet_sn (s : ByteArray) (k : Int) (w : World) (hs : s.size ≤ 4194304) (h1 : -9223372036854775808 ≤ k) (h2 : k ≤ 9223372036854775807) :
    Calls Try.prog 8 #[.agg #[.string s], .int .i64 k] w fun e w' => e = .returned (.tuple #[.string (snS s k), .bool (snB s k)]) ∧ w.alloc (.cells #[.string s] 25) = w' := snippet_any s k w hs h1 h2

def hasNL (l : List UInt8) : Bool := l.any (· == 10)
theorem has_step {l : List UInt8} {k : Nat} (h : k < l.length) (hp : hasNL (l.take k) = false) (hb : (l[k] == 10) = false) : hasNL (l.take (k + 1)) = false := by
  rw [List.take_succ_eq_append_getElem h]
  unfold hasNL at *
  rw [List.any_append, hp]
  simpa using hb
theorem has_hit {l : List UInt8} {k : Nat} (h : k < l.length) (hb : (l[k] == 10) = true) : hasNL l = true := by
  simp [hasNL] at *
  rw [← hb]; exact List.getElem_mem h
theorem hasNewline_any (s : ByteArray) (w : World) (hs : s.size ≤ 4194304) : Calls Try.prog 11 #[.string s] w fun e w' => e = .returned (.bool (hasNL s.data.toList)) ∧ w = w' := by
  have HL := Lib.hid (Lib.size_eq s)
  have HB := Lib.hid (byte_eq s)
  go_enter Try.func11, Try.ntmps11
  go_wp2_with fail
  go_loopg [3] s.size (fun g i wr => ∃ k : Nat, k ≤ s.size ∧ g = s.size - k ∧ w = wr ∧ i = .int .i64 k ∧ hasNL (s.data.toList.take k) = false)
  case atStart => exact ⟨0, by omega, rfl, rfl, rfl, rfl⟩
  case round =>
    obtain ⟨k, hk, rfl, rfl, rfl, hp⟩ := hrel
    have HP := Lib.hid hp
    clear hp
    by_cases hlt : k < s.size
    · have hll : k < s.data.toList.length := by have := HL.out; omega
      have hb := HB.out k hlt hll
      cases hq : (((s[k]'hlt).toNat : Int) == 10) with
      | true =>
        rw [hq] at hb
        have HR := Lib.hid (has_hit hll hb.symm)
        clear hb hll
        go_wp2_with fail
        go_ret
        exact ⟨ret_bool (by rw [HR.out]), rfl⟩
      | false =>
        rw [hq] at hb
        have HR := Lib.hid (has_step hll HP.out hb.symm)
        clear hb hll
        go_wp2_with fail
        go_roundg (s.size - (k + 1))
        case measure => omega
        case rel => exact ⟨k + 1, by omega, rfl, rfl, by go_num, HR.out⟩
    · have HR : Hid (hasNL s.data.toList = false) := by
        have h := HP.out
        rw [List.take_of_length_le (by rw [← HL.out]; omega)] at h
        exact Lib.hid h
      go_wp2_with fail
      go_ret
      exact ⟨ret_bool (by rw [HR.out]), rfl⟩

theorem first_app {l t : List UInt8} (h : hasNL l = false) : first (l ++ 10 :: t) = l ∧ rest (l ++ 10 :: t) = some t := by
  induction l with
  | nil => simp [first, rest]
  | cons b l ih =>
    have h1 : (b == 10) = false := by simp [hasNL] at h ⊢; exact h.1
    have h2 : hasNL l = false := by simp [hasNL] at h ⊢; exact h.2
    obtain ⟨e1, e2⟩ := ih h2
    simp only [List.cons_append, first, rest, h1, e1, e2]
    simp
theorem snip_one {l t : List UInt8} (h : hasNL l = false) : snip (l ++ 10 :: t) 1 = some l := by
  rw [snip_some _ (by simp), show ((1 : Int) - 1).toNat = 0 by rfl, line_zero, (first_app h).1]
theorem snip_more {l t : List UInt8} {k : Int} (h : hasNL l = false) (ht : t ≠ []) (hk : 1 ≤ k) : snip (l ++ 10 :: t) (k + 1) = snip t k := by
  rw [snip_some _ (by simp), snip_some _ ht, show (k + 1 - 1).toNat = (k - 1).toNat + 1 by omega, line_succ, (first_app h).2]
  rfl

theorem bytes10 (s t : ByteArray) (k : Int) (w : World) (hs : s.size ≤ maxLen) (ht : t.size ≤ maxLen) : Calls Try.prog 10 #[.string s, .string t, .int .i64 k] w fun e w' => e = .returned (.bool (decide (s.size + t.size ≤ 1048576))) ∧ w = w' := by
  unfold maxLen at hs ht
  by_cases h : s.size ≤ 1048576
  · by_cases h2 : t.size ≤ 1048576
    · by_cases h3 : s.size + t.size ≤ 1048576
      · rw [decide_eq_true h3]
        have h' : (s.size : Int) ≤ 1048576 := by omega
        have h2' : (t.size : Int) ≤ 1048576 := by omega
        have h3' : (s.size : Int) + t.size ≤ 1048576 := by omega
        go_enter Try.func10, Try.ntmps10
        go_wp2
        go_ret
        exact ⟨rfl, rfl⟩
      · rw [decide_eq_false h3]
        have h' : (s.size : Int) ≤ 1048576 := by omega
        have h2' : (t.size : Int) ≤ 1048576 := by omega
        have h3' : 1048576 < (s.size : Int) + t.size := by omega
        clear h3
        go_enter Try.func10, Try.ntmps10
        go_wp2
        go_ret
        exact ⟨rfl, rfl⟩
    · rw [decide_eq_false (by omega)]
      have h' : (s.size : Int) ≤ 1048576 := by omega
      have h2' : 1048576 < (t.size : Int) := by omega
      clear h2
      go_enter Try.func10, Try.ntmps10
      go_wp2
      go_ret
      exact ⟨rfl, rfl⟩
  · rw [decide_eq_false (by omega)]
    have h' : 1048576 < (s.size : Int) := by omega
    clear h
    go_enter Try.func10, Try.ntmps10
    go_wp2
    go_ret
    exact ⟨rfl, rfl⟩

abbrev NL : ByteArray := { data := #[10] }
theorem join_data (s t : ByteArray) : (s ++ NL ++ t).data.toList = s.data.toList ++ 10 :: t.data.toList := by simp
theorem join_size (s t : ByteArray) : (s ++ NL ++ t).size = s.size + t.size + 1 := by
  rw [Lib.size_eq, join_data, Lib.size_eq s, Lib.size_eq t]; simp; omega
theorem shift_facts (s t : ByteArray) (k : Int) (k1 : 1 ≤ k) (hn : hasNL s.data.toList = false) (ht : t.toList.isEmpty = false) (hs : s.size + t.size ≤ 1048576) :
    snS (s ++ NL ++ t) 1 = s ∧ snB (s ++ NL ++ t) 1 = true ∧ snS (s ++ NL ++ t) (k + 1) = snS t k ∧ snB (s ++ NL ++ t) (k + 1) = snB t k ∧ (s ++ NL ++ t).size ≤ 4194304 := by
  have ht' : t.data.toList ≠ [] := by rw [ByteArray.toList_eq] at ht; simpa using ht
  unfold snS snB
  rw [join_data, snip_one hn, snip_more hn ht' k1, join_size]
  exact ⟨rfl, rfl, rfl, rfl, by omega⟩

theorem shift_main (s t : ByteArray) (k : Int) (w : World) (hs : s.size + t.size ≤ 1048576) (w0 : s.size ≤ maxLen) (w1 : t.size ≤ maxLen) (k1 : 1 ≤ k) (k2 : k < 9223372036854775807) (hn : hasNL s.data.toList = false) (ht : t.toList.isEmpty = false) :
    Calls Try.prog 4 #[.string s, .string t, .int .i64 k] w fun e w' => e = .returned (.bool true) ∧ Below w.heap.size w w' := by
  have hd : decide (s.size + t.size ≤ 1048576) = true := decide_eq_true hs
  have g1 : (s.size : Int) ≤ 1048576 := by omega
  have g2 : (t.size : Int) ≤ 1048576 := by omega
  have g3 : (s.size : Int) + (t.size : Int) ≤ 1048576 := by omega
  have kb : (k == 9223372036854775807) = false := by simp; omega
  have F := Lib.hid (shift_facts s t k k1 hn ht hs)
  go_enter Try.func4, Try.ntmps4
  go_wp2_with fail
  refine (bytes10 _ _ _ _ w0 w1).mono ?_
  rintro e w' ⟨rfl, rfl⟩
  go_wp2_with fail
  refine (hasNewline_any _ _ (by omega)).mono ?_
  rintro e w' ⟨rfl, rfl⟩
  go_wp2_with fail
  generalize s ++ NL ++ t = S at F ⊢
  obtain ⟨f1, f2, f3, f4, f5⟩ := F.out
  clear F
  have HF3 := Lib.hid f3
  have HF4 := Lib.hid f4
  clear f3 f4
  refine (newSource_any _ _).mono ?_
  rintro e w1 ⟨rfl, hb1⟩
  go_wp2_with fail
  refine (snippet_sn _ _ _ f5 (by omega) (by omega)).mono ?_
  rintro e w2 ⟨rfl, rfl⟩
  rw [f1, f2]
  clear f1 f2
  go_wp2_with fail
  refine (snippet_sn _ _ _ f5 (by omega) (by omega)).mono ?_
  rintro e w2 ⟨rfl, rfl⟩
  rw [HF3.out, HF4.out]
  go_wp2_with fail
  refine (newSource_any _ _).mono ?_
  rintro e w3 ⟨rfl, hb3⟩
  go_wp2_with fail
  refine (snippet_sn _ _ _ (by omega) (by omega) (by omega)).mono ?_
  rintro e w2 ⟨rfl, rfl⟩
  go_wp2_with fail
  go_ret
  have z1 := hb1.size
  have z3 := hb3.size
  simp at z3
  refine ⟨rfl, Below.alloc (Below.trans ?_ (hb3.mono ?_)) ?_ _⟩
  · repeat (first | exact hb1 | refine Below.alloc ?_ (by first | omega | (simp; omega)) _)
  · simp; omega
  · omega

theorem shift_walk (s t : ByteArray) (k : Int) (w : World) (w0 : s.size ≤ maxLen) (w1 : t.size ≤ maxLen) (w2 : (Lit.int .i64 k).wf = true) :
    Calls Try.prog 4 #[.string s, .string t, .int .i64 k] w fun e w' => e = .returned (.bool true) ∧ Below w.heap.size w w' := by
  obtain ⟨b1, b2⟩ := bounds_i64 w2
  by_cases hs : s.size + t.size ≤ 1048576
  · have hd : decide (s.size + t.size ≤ 1048576) = true := decide_eq_true hs
    have g1 : (s.size : Int) ≤ 1048576 := by omega
    have g2 : (t.size : Int) ≤ 1048576 := by omega
    have g3 : (s.size : Int) + (t.size : Int) ≤ 1048576 := by omega
    by_cases k1 : k < 1
    · go_enter Try.func4, Try.ntmps4
      go_wp2_with fail
      refine (bytes10 _ _ _ _ w0 w1).mono ?_
      rintro e w' ⟨rfl, rfl⟩
      go_wp2_with fail
      go_ret
      exact ⟨rfl, Below.refl _ _⟩
    · cases kb : (k == 9223372036854775807) with
      | true =>
        go_enter Try.func4, Try.ntmps4
        go_wp2_with fail
        refine (bytes10 _ _ _ _ w0 w1).mono ?_
        rintro e w' ⟨rfl, rfl⟩
        go_wp2_with fail
        go_ret
        exact ⟨rfl, Below.refl _ _⟩
      | false =>
        cases ht : t.toList.isEmpty with
        | true =>
          go_enter Try.func4, Try.ntmps4
          go_wp2_with fail
          refine (bytes10 _ _ _ _ w0 w1).mono ?_
          rintro e w' ⟨rfl, rfl⟩
          go_wp2_with fail
          go_ret
          exact ⟨rfl, Below.refl _ _⟩
        | false =>
          cases hn : hasNL s.data.toList with
          | true =>
            go_enter Try.func4, Try.ntmps4
            go_wp2_with fail
            refine (bytes10 _ _ _ _ w0 w1).mono ?_
            rintro e w' ⟨rfl, rfl⟩
            go_wp2_with fail
            refine (hasNewline_any _ _ (by omega)).mono ?_
            rintro e w' ⟨rfl, rfl⟩
            go_wp2_with fail
            go_ret
            exact ⟨rfl, Below.refl _ _⟩
          | false => exact shift_main s t k w hs w0 w1 (by omega) (by simp at kb; omega) hn ht
  · have hd : decide (s.size + t.size ≤ 1048576) = false := decide_eq_false hs
    go_enter Try.func4, Try.ntmps4
    go_wp2_with fail
    refine (bytes10 _ _ _ _ w0 w1).mono ?_
    rintro e w' ⟨rfl, rfl⟩
    go_wp2_with fail
    go_ret
    exact ⟨rfl, Below.refl _ _⟩
end Go.Proofs.Ytldkbeajdhekeaa
