/-
  Contracts of AllowedNegateSuffix and the law's helpers, and the law over them, for every two strings.
-/
import Derived.Test.YtjbgcphenflcfaaRows
import Derived.WalkKit
import Derived.Lib.Hide
import Derived.Outline
import Derived.Deep.QuietTactic
import Derived.BigQuiet
import Derived.WalkSpells
import Derived.WalkLawsBesides
import Derived.WalkSmall
import Derived.Laws.IdiomStrings
import Derived.Deep.LoopGhost
namespace Go.Proofs.Ytjbgcphenflcfaa
open Go.RowKit
set_option linter.unusedVariables false

theorem ret_bool {x y : Bool} (h : x = y) : Ending.returned (.bool x) = .returned (.bool y) := by rw [h]
def isN (l : List UInt8) : Bool := l == [99, 111, 110, 116, 97, 105, 110, 115] || l == [109, 97, 116, 99, 104, 101, 115] || l == [115, 116, 97, 114, 116, 115, 87, 105, 116, 104] || l == [101, 110, 100, 115, 87, 105, 116, 104] || l == [105, 110]
def letter (b : Int) : Bool := decide (97 ≤ b ∧ b ≤ 122 ∨ 65 ≤ b ∧ b ≤ 90)

theorem allowed_any (s : ByteArray) (w : World) : Calls Try.prog 5 #[.string s] w fun e w' => e = .returned (.bool (isN s.toList)) ∧ w = w' := by
  go_enter Try.func5, Try.ntmps5
  go_wp2
  all_goals go_ret
  all_goals refine ⟨ret_bool ?_, rfl⟩
  all_goals simp_all [isN]
theorem letter_any (b : Int) (w : World) (h0 : 0 ≤ b) (h1 : b ≤ 255) : Calls Try.prog 6 #[.int .u8 b] w fun e w' => e = .returned (.bool (letter b)) ∧ w = w' := by
  by_cases c1 : 97 ≤ b ∧ b ≤ 122
  · obtain ⟨c1, c2⟩ := c1
    have hl : letter b = true := by simp [letter]; omega
    rw [hl]; clear hl
    go_enter Try.func6, Try.ntmps6
    go_wp2
    go_ret
    exact ⟨rfl, rfl⟩
  · by_cases c2 : 65 ≤ b ∧ b ≤ 90
    · obtain ⟨c2, c3⟩ := c2
      have hl : letter b = true := by simp [letter]; omega
      rw [hl]; clear hl c1
      go_enter Try.func6, Try.ntmps6
      go_wp2
      go_ret
      exact ⟨rfl, rfl⟩
    · have hl : letter b = false := by simp [letter]; omega
      rw [hl]; clear hl
      have c3 : b < 65 ∨ (90 < b ∧ b < 97) ∨ 122 < b := by omega
      clear c1 c2
      rcases c3 with c | ⟨c, c'⟩ | c
      all_goals
        go_enter Try.func6, Try.ntmps6
        go_wp2
        go_ret
        exact ⟨by first | rfl | (refine ret_bool ?_; simp; omega), rfl⟩
theorem bytes_any (s t : ByteArray) (w : World) (hs : s.size ≤ maxLen) (ht : t.size ≤ maxLen) : Calls Try.prog 4 #[.string s, .string t] w fun e w' => e = .returned (.bool (decide (s.size + t.size ≤ 1048576))) ∧ w = w' := by
  unfold maxLen at hs ht
  by_cases h : s.size ≤ 1048576
  · by_cases h2 : t.size ≤ 1048576
    · by_cases h3 : s.size + t.size ≤ 1048576
      · rw [decide_eq_true h3]
        have h' : (s.size : Int) ≤ 1048576 := by omega
        have h2' : (t.size : Int) ≤ 1048576 := by omega
        have h3' : (s.size : Int) + t.size ≤ 1048576 := by omega
        go_enter Try.func4, Try.ntmps4
        go_wp2
        go_ret
        exact ⟨rfl, rfl⟩
      · rw [decide_eq_false h3]
        have h' : (s.size : Int) ≤ 1048576 := by omega
        have h2' : (t.size : Int) ≤ 1048576 := by omega
        have h3' : 1048576 < (s.size : Int) + t.size := by omega
        clear h3
        go_enter Try.func4, Try.ntmps4
        go_wp2
        go_ret
        exact ⟨rfl, rfl⟩
    · rw [decide_eq_false (by omega)]
      have h' : (s.size : Int) ≤ 1048576 := by omega
      have h2' : 1048576 < (t.size : Int) := by omega
      clear h2
      go_enter Try.func4, Try.ntmps4
      go_wp2
      go_ret
      exact ⟨rfl, rfl⟩
  · rw [decide_eq_false (by omega)]
    have h' : 1048576 < (s.size : Int) := by omega
    clear h
    go_enter Try.func4, Try.ntmps4
    go_wp2
    go_ret
    exact ⟨rfl, rfl⟩

theorem five {s : ByteArray} (h : isN s.toList = true) : s = ⟨#[99, 111, 110, 116, 97, 105, 110, 115]⟩ ∨ s = ⟨#[109, 97, 116, 99, 104, 101, 115]⟩ ∨ s = ⟨#[115, 116, 97, 114, 116, 115, 87, 105, 116, 104]⟩ ∨ s = ⟨#[101, 110, 100, 115, 87, 105, 116, 104]⟩ ∨ s = ⟨#[105, 110]⟩ := by
  rw [ByteArray.toList_eq] at h
  obtain ⟨⟨l⟩⟩ := s
  simp [isN] at h
  rcases h with (((h | h) | h) | h) | h <;> subst h <;> simp
theorem f_len {s : ByteArray} (h : isN s.toList = true) : 2 ≤ s.size ∧ s.size ≤ 10 := by
  rcases five h with h | h | h | h | h <;> subst h <;> decide
theorem f_head {s : ByteArray} (h : isN s.toList = true) (h0 : 0 < s.size) : 97 ≤ (s[0].toNat : Int) ∧ (s[0].toNat : Int) ≤ 122 := by
  have gen : ∀ (x : UInt8) (r : List UInt8) (h0 : 0 < (ByteArray.mk (x :: r).toArray).size), (97 ≤ x.toNat ∧ x.toNat ≤ 122) → 97 ≤ (((ByteArray.mk (x :: r).toArray)[0]'h0).toNat : Int) ∧ (((ByteArray.mk (x :: r).toArray)[0]'h0).toNat : Int) ≤ 122 := by
    intro x r h0 hx
    show 97 ≤ (x.toNat : Int) ∧ (x.toNat : Int) ≤ 122
    omega
  rcases five h with h | h | h | h | h <;> subst h <;> exact gen _ _ _ (by decide)
theorem f_letters {s : ByteArray} (h : isN s.toList = true) : ∀ k (hk : k < s.size), letter (s[k].toNat : Int) = true := by
  have gen : ∀ (l : List UInt8), (∀ x ∈ l, letter (x.toNat : Int) = true) → ∀ k (hk : k < (ByteArray.mk l.toArray).size), letter ((ByteArray.mk l.toArray)[k].toNat : Int) = true := by
    intro l hl k hk
    exact hl _ (List.getElem_mem (l := l) (n := k) hk)
  rcases five h with h | h | h | h | h <;> subst h <;> exact gen _ (by decide)
theorem f_more {s : ByteArray} (h : isN s.toList = true) (t : ByteArray) (ht : 0 < t.size) : isN (s ++ t).toList = false := by
  rw [ByteArray.toList_eq]
  obtain ⟨⟨l⟩⟩ := t
  cases l with
  | nil => simp [ByteArray.size] at ht
  | cons x r =>
    rcases five h with h | h | h | h | h <;> subst h <;> simp [isN]
theorem f_less {s : ByteArray} (h : isN s.toList = true) : isN (s.extract 0 (s.size - 1)).toList = false := by
  rw [ByteArray.toList_eq, ByteArray.data_extract]
  rcases five h with h | h | h | h | h <;> subst h <;> simp [isN, ByteArray.size]
def bigName (s : ByteArray) : List UInt8 := match s.data.toList with
  | [] => []
  | x :: r => UInt8.ofNat (x.toNat - 32) :: r
theorem f_big {s : ByteArray} (h : isN s.toList = true) : isN (bigName s) = false := by
  rcases five h with h | h | h | h | h <;> subst h <;> decide
/-- what '[]byte(s)' lays -/
theorem conv (s : ByteArray) (w : World) : ∃ cap C, (convert 9 25 (.string s)).run Try.prog w = .ok (.slice (some ⟨w.heap.size, 0, none⟩) s.size cap) (w.drew.alloc (.cells C 5 (C.size, C.size + 1))) ∧
    ∀ j (hj : j < s.data.size), C[j]? = some (.int .u8 (s.data[j].toNat : Int)) :=
  ⟨_, _, run_bytes_of_string w 9 25 5 s Try.underlying9 Try.underlying25 Try.underlying5, fun j hj => bytesRow_at s _ j hj⟩

theorem big_len (s : ByteArray) : (bigName s).length = s.size := by
  obtain ⟨⟨l⟩⟩ := s
  cases l <;> simp [bigName, ByteArray.size]
theorem big_at (s : ByteArray) (j : Nat) (hj : j < (bigName s).length) (h0 : 0 < s.size) (a1 : 97 ≤ (s[0].toNat : Int)) : (((bigName s)[j]).toNat : Int) = if j = 0 then (s[0].toNat : Int) - 32 else ((s.data[j]'(by have := big_len s; simp only [ByteArray.size] at this; omega)).toNat : Int) := by
  obtain ⟨⟨l⟩⟩ := s
  cases l with
  | nil => simp [ByteArray.size] at h0
  | cons x r =>
    have e : (ByteArray.mk (x :: r).toArray)[0] = x := rfl
    rw [e] at a1 ⊢
    cases j with
    | zero =>
      have := x.toNat_lt
      simp [bigName]
      omega
    | succ j => simp [bigName]
/-- what 'string(b)' reads behind the store -/
theorem back (s : ByteArray) (w : World) (cap : Nat) (C : Array Value) (h0 : 0 < s.size) (a1 : 97 ≤ (s[0].toNat : Int)) (hC : ∀ j (hj : j < s.data.size), C[j]? = some (.int .u8 (s.data[j].toNat : Int))) :
    (convert 25 9 (.slice (some ⟨w.heap.size, 0, none⟩) s.size cap)).run Try.prog ((w.alloc (.cells C 5 (C.size, C.size + 1))).setCell ⟨w.heap.size, 0, none⟩ (.int .u8 ((s[0].toNat : Int) - 32))).drew =
      .ok (.string ⟨(bigName s).toArray⟩) ((w.alloc (.cells C 5 (C.size, C.size + 1))).setCell ⟨w.heap.size, 0, none⟩ (.int .u8 ((s[0].toNat : Int) - 32))).drew := by
  have h := run_convert_bytes_back (P := Try.prog) ((w.alloc (.cells C 5 (C.size, C.size + 1))).setCell ⟨w.heap.size, 0, none⟩ (.int .u8 ((s[0].toNat : Int) - 32))).drew 25 9 5 ⟨w.heap.size, 0, none⟩ cap (bigName s) Try.underlying25 Try.underlying5 Try.underlying9 ?_
  · rw [big_len] at h; exact h
  · intro j hj
    rw [big_at s j hj h0 a1]
    have hjs : j < s.data.size := by have := big_len s; simp only [ByteArray.size] at this; omega
    show (World.setCell _ _ _).cell? _ = _
    by_cases e : j = 0
    · subst e
      rw [if_pos rfl]
      exact World.cell?_setCell_same _ _ _ (u := .int .u8 (s.data[0].toNat : Int)) (by rw [World.cell?_alloc_mark]; exact hC 0 hjs)
    · have ea : (⟨w.heap.size, 0, none⟩ : Addr).add j = ⟨w.heap.size, j, none⟩ := by simp [Addr.add, e]
      rw [if_neg e, ← hC j hjs, ea, World.cell?_setCell_other _ _ _ _ (by simp), World.cell?_alloc_mark]

theorem law_yes (s t : ByteArray) (w : World) (h1 : s.size ≤ 524288) (h2 : t.size ≤ 524288) (hd : decide (s.size + t.size ≤ 1048576) = true) (hN : isN s.toList = true) (ws : s.size ≤ maxLen) (wt : t.size ≤ maxLen) :
    Calls Try.prog 3 #[.string s, .string t] w fun e w' => e = .returned (.bool true) ∧ Below w.heap.size w w' := by
  have g1 : (s.size : Int) ≤ 524288 := by omega
  have g2 : (t.size : Int) ≤ 524288 := by omega
  have hl := f_len hN
  have l1 : 2 ≤ (s.size : Int) := by omega
  have l2 : (s.size : Int) ≤ 10 := by omega
  have h0 : 0 < s.size := by omega
  obtain ⟨a1, a2⟩ := f_head hN h0
  have hLet := Lib.hid (f_letters hN)
  have hMore := Lib.hid (f_more hN t)
  have hLess := f_less hN
  clear hl
  obtain ⟨cap, C, hconv, hC⟩ := conv s w
  have HC := Lib.hid hC
  have hC0 : C[0]? = some (.int .u8 (s[0].toNat : Int)) := hC 0 h0
  have hcell : (w.alloc (.cells C 5 (C.size, C.size + 1))).cell? ⟨w.heap.size, 0, none⟩ = some (.int .u8 (s[0].toNat : Int)) := by rw [World.cell?_alloc_mark]; exact hC0
  have hfr : (w.alloc (.cells C 5 (C.size, C.size + 1))).frozen? ⟨w.heap.size, 0, none⟩ = false := by
    rw [World.frozen?_alloc_mark]
    have : 0 < C.size := by have := Array.getElem?_eq_some_iff.1 hC0; exact this.1
    rw [decide_eq_false (by omega : ¬ C.size ≤ 0)]; rfl
  have hback := back s w cap C h0 a1 hC
  have hBig := f_big hN
  clear hC hC0
  go_enter Try.func3, Try.ntmps3
  go_wp2_with fail
  refine (bytes_any _ _ _ ws wt).mono ?_
  rintro e w' ⟨rfl, rfl⟩
  go_wp2_with fail
  refine (allowed_any _ _).mono ?_
  rintro e w' ⟨rfl, rfl⟩
  go_wp2_with fail
  go_loopg [5] s.size (fun g i wr => ∃ k : Nat, k ≤ s.size ∧ g = s.size - k ∧ w = wr ∧ i = .int .i64 k)
  case atStart => exact ⟨0, by omega, rfl, rfl, rfl⟩
  case round =>
    obtain ⟨k, hk, rfl, rfl, rfl⟩ := hrel
    by_cases hlt : k < s.size
    · have hb := (s[k]).toNat_lt
      have hlet := hLet.out k hlt
      have c0 : 0 ≤ ((s[k]).toNat : Int) := by omega
      have c1 : ((s[k]).toNat : Int) ≤ 255 := by omega
      clear hb
      go_wp2_with (go_at_call 6; refine (letter_any _ _ c0 c1).mono ?_; rintro e w' ⟨rfl, rfl⟩)
      go_roundg (s.size - (k + 1))
      case measure => omega
      case rel => exact ⟨k + 1, by omega, rfl, rfl, by go_num⟩
    · obtain rfl : k = s.size := by omega
      by_cases ht : 0 < t.size
      · have ht' : (0 : Int) < (t.size : Int) := by omega
        have hm := hMore.out ht
        go_wp2_with (go_at_call 5; refine (allowed_any _ _).mono ?_; rintro e w' ⟨rfl, rfl⟩)
        go_ret
        exact ⟨rfl, (((Below.refl _ _).alloc (Nat.le_refl _) _).setCell (Nat.le_refl _) _).drew⟩
      · have ht' : (t.size : Int) ≤ 0 := by omega
        go_wp2_with (go_at_call 5; refine (allowed_any _ _).mono ?_; rintro e w' ⟨rfl, rfl⟩)
        go_ret
        exact ⟨rfl, (((Below.refl _ _).alloc (Nat.le_refl _) _).setCell (Nat.le_refl _) _).drew⟩
theorem near_walk (s t : ByteArray) (w : World) (ws : s.size ≤ maxLen) (wt : t.size ≤ maxLen) :
    Calls Try.prog 3 #[.string s, .string t] w fun e w' => e = .returned (.bool true) ∧ Below w.heap.size w w' := by
  by_cases h : s.size + t.size ≤ 1048576
  · have hd : decide (s.size + t.size ≤ 1048576) = true := decide_eq_true h
    by_cases h1 : s.size ≤ 524288
    · by_cases h2 : t.size ≤ 524288
      · cases hN : isN s.toList with
        | true => exact law_yes s t w h1 h2 hd hN ws wt
        | false =>
          have g1 : (s.size : Int) ≤ 524288 := by omega
          have g2 : (t.size : Int) ≤ 524288 := by omega
          go_enter Try.func3, Try.ntmps3
          go_wp2_with fail
          refine (bytes_any _ _ _ ws wt).mono ?_
          rintro e w' ⟨rfl, rfl⟩
          go_wp2_with fail
          refine (allowed_any _ _).mono ?_
          rintro e w' ⟨rfl, rfl⟩
          go_wp2_with fail
          go_ret
          exact ⟨rfl, Below.refl _ _⟩
      · have g1 : (s.size : Int) ≤ 524288 := by omega
        have g2 : 524288 < (t.size : Int) := by omega
        go_enter Try.func3, Try.ntmps3
        go_wp2_with fail
        refine (bytes_any _ _ _ ws wt).mono ?_
        rintro e w' ⟨rfl, rfl⟩
        go_wp2_with fail
        go_ret
        exact ⟨rfl, Below.refl _ _⟩
    · have g1 : 524288 < (s.size : Int) := by omega
      go_enter Try.func3, Try.ntmps3
      go_wp2_with fail
      refine (bytes_any _ _ _ ws wt).mono ?_
      rintro e w' ⟨rfl, rfl⟩
      go_wp2_with fail
      go_ret
      exact ⟨rfl, Below.refl _ _⟩
  · have hd : decide (s.size + t.size ≤ 1048576) = false := decide_eq_false h
    go_enter Try.func3, Try.ntmps3
    go_wp2_with fail
    refine (bytes_any _ _ _ ws wt).mono ?_
    rintro e w' ⟨rfl, rfl⟩
    go_wp2_with fail
    go_ret
    exact ⟨rfl, Below.refl _ _⟩
end Go.Proofs.Ytjbgcphenflcfaa
