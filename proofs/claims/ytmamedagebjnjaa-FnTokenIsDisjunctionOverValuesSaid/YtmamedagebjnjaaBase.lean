/-
  Contracts of (Token).Is and of the law's helpers.
-/
import Derived.Test.YtmamedagebjnjaaRows
import Derived.WalkKit
import Derived.Lib.Hide
import Derived.Outline
import Derived.WalkSpells
import Derived.WalkLawsBesides
import Derived.WalkSmall
import Derived.Deep.LoopGhost
import Derived.Deep.OwnRows
namespace Go.Proofs.Ytmamedagebjnjaa
open Go.RowKit
set_option linter.unusedVariables false

theorem ret_bool {x y : Bool} (h : x = y) : Ending.returned (.bool x) = .returned (.bool y) := by rw [h]
/-- a slice of strings, by its elements -/
def SRead (w : World) (a : Option Addr) (xs : List ByteArray) : Prop :=
  ∀ i (h : i < xs.length), ∃ b off, a = some ⟨b, off, none⟩ ∧ b < w.heap.size ∧ w.cell? ⟨b, off + i, none⟩ = some (.string xs[i])
def hit (tv : ByteArray) (xs : List ByteArray) : Bool := xs.any fun v => v.toList == tv.toList
def isT (tk tv k : ByteArray) (xs : List ByteArray) : Bool := (k.toList == tk.toList) && (hit tv xs || xs.isEmpty)
theorem hit_step {tv : ByteArray} {xs : List ByteArray} {i : Nat} (h : i < xs.length) (hp : hit tv (xs.take i) = false) (hb : (xs[i].toList == tv.toList) = false) : hit tv (xs.take (i + 1)) = false := by
  rw [List.take_succ_eq_append_getElem h]
  unfold hit at *
  rw [List.any_append, hp]
  simpa using hb
theorem hit_here {tv : ByteArray} {xs : List ByteArray} {i : Nat} (h : i < xs.length) (hb : (xs[i].toList == tv.toList) = true) : hit tv xs = true := by
  unfold hit
  rw [List.any_eq_true]
  exact ⟨xs[i], List.getElem_mem h, hb⟩

theorem is_any (tk tv k : ByteArray) (a : Option Addr) (n cap : Nat) (xs : List ByteArray) (w : World) (hn : xs.length = n) (hn2 : n ≤ 1048576) (hr : SRead w a xs) :
    Calls Try.prog 7 #[.agg #[.int .i64 0, .int .i64 0, .string tk, .string tv], .string k, .slice a n cap] w fun e w' => e = .returned (.bool (isT tk tv k xs)) ∧ w.alloc (.cells #[.int .i64 0, .int .i64 0, .string tk, .string tv] 31) = w' := by
  have HN := Lib.hid hn
  have HR := Lib.hid hr
  clear hn hr
  cases hk : (k.toList == tk.toList) with
  | false =>
    have R : Hid (isT tk tv k xs = false) := by unfold isT; rw [hk]; exact Lib.hid rfl
    have hk2 : (k.toList != tk.toList) = true := by unfold bne; rw [hk]; rfl
    go_enter Try.func7, Try.ntmps7
    go_wp2_with fail
    go_ret
    exact ⟨ret_bool (by rw [R.out]), rfl⟩
  | true =>
    have R : Hid (isT tk tv k xs = (hit tv xs || xs.isEmpty)) := by unfold isT; rw [hk]; exact Lib.hid rfl
    have hk2 : (k.toList != tk.toList) = false := by unfold bne; rw [hk]; rfl
    go_enter Try.func7, Try.ntmps7
    go_wp2_with fail
    go_loopg [15] n (fun g i wr => ∃ j : Nat, j ≤ n ∧ g = n - j ∧ w.alloc (.cells #[.int .i64 0, .int .i64 0, .string tk, .string tv] 31) = wr ∧ i = .int .i64 j ∧ hit tv (xs.take j) = false)
    case atStart => exact ⟨0, by omega, rfl, rfl, rfl, rfl⟩
    case round =>
      obtain ⟨j, hj, rfl, rfl, rfl, hp⟩ := hrel
      have HP := Lib.hid hp
      clear hp
      by_cases hlt : j < n
      · have hjl : j < xs.length := by have := HN.out; omega
        obtain ⟨b, off, rfl, hb, hc⟩ := HR.out j hjl
        have hc2 : ∀ o, (w.alloc o).cell? ⟨b, off + j, none⟩ = some (.string xs[j]) := fun o => by rw [World.cell?_alloc_lt _ _ _ hb]; exact hc
        cases hq : (xs[j].toList == tv.toList) with
        | true =>
          have H1 := Lib.hid (hit_here hjl hq)
          go_wp2_with fail
          go_ret
          exact ⟨ret_bool (by rw [R.out, H1.out]; rfl), rfl⟩
        | false =>
          have H1 := Lib.hid (hit_step hjl HP.out hq)
          go_wp2_with fail
          go_roundg (n - (j + 1))
          case measure => omega
          case rel => exact ⟨j + 1, by omega, rfl, rfl, by go_num, H1.out⟩
      · have H1 : Hid (hit tv xs = false) := by
          have h := HP.out
          rw [List.take_of_length_le (by rw [HN.out]; omega)] at h
          exact Lib.hid h
        have H2 : Hid (xs.isEmpty = ((n : Int) == 0)) := by
          rw [← HN.out]
          cases xs with
          | nil => exact Lib.hid rfl
          | cons x r => exact Lib.hid (by simp; omega)
        go_wp2_with fail
        go_ret
        exact ⟨ret_bool (by rw [R.out, H1.out, H2.out]; rfl), rfl⟩

theorem Try.info9 : (Try.prog.info? 9).map (fun i => (i.zero, i.size, i.bytes)) = some (some (.string ⟨#[]⟩), 1, 16) := by kernel_rfl
def strCells (xs : List ByteArray) : Array Value := (xs.map Value.string).toArray
def Part (C : Array Value) (xs : List ByteArray) (n i : Nat) : Prop := C.size = n ∧ ∀ j (h : j < xs.length), j < i → C[j]? = some (.string xs[j])
theorem part_start (xs : List ByteArray) (n : Nat) (z : Value) : Part (madeCells #[z] n) xs n 0 := ⟨size_madeCells _ _, fun j _ h => by omega⟩
theorem part_step {C : Array Value} {xs : List ByteArray} {n i : Nat} (hp : Part C xs n i) (hi : i < xs.length) (hn : i < n) : Part (C.setIfInBounds i (.string xs[i])) xs n (i + 1) := by
  refine ⟨by simpa using hp.1, fun j hj hji => ?_⟩
  by_cases e : j = i
  · subst e; rw [Array.getElem?_setIfInBounds, if_pos rfl, if_pos (by rw [hp.1]; exact hn)]
  · rw [Array.getElem?_setIfInBounds, if_neg (by omega)]; exact hp.2 j hj (by omega)
theorem part_end {C : Array Value} {xs : List ByteArray} {n : Nat} (hp : Part C xs n n) (hn : xs.length = n) : C = strCells xs := by
  apply Array.ext
  · rw [hp.1, ← hn]; simp [strCells]
  · intro i h1 h2
    have h3 : i < xs.length := by rw [hn, ← hp.1]; exact h1
    have h := hp.2 i h3 (by rw [← hp.1]; exact h1)
    rw [Array.getElem?_eq_getElem h1] at h
    injection h with h
    rw [h]
    simp [strCells]
theorem part_old {C : Array Value} {xs : List ByteArray} {n i : Nat} (hp : Part C xs n i) (hn : i < n) : ∃ v, C[i]? = some v := ⟨_, Array.getElem?_eq_getElem (by rw [hp.1]; exact hn)⟩

theorem clone_nil (w : World) : Calls Try.prog 6 #[.slice none 0 0] w fun e w' => e = .returned (.slice none 0 0) ∧ w = w' := by
  have hnil := fun W => Lib.run_eql_slice_nil (P := Try.prog) W 22 9 none 0 0 0 0 Try.underlying22
  go_enter Try.func6, Try.ntmps6
  go_wp2_with fail
  go_ret
  exact ⟨rfl, rfl⟩
theorem clone_some (x : Addr) (n cap : Nat) (xs : List ByteArray) (w : World) (hn : xs.length = n) (hn2 : n ≤ 65536) (hr : SRead w (some x) xs) :
    Calls Try.prog 6 #[.slice (some x) n cap] w fun e w' => e = .returned (.slice (some ⟨w.heap.size, 0, none⟩) n n) ∧ w.alloc (.cells (strCells xs) 9) = w' := by
  have HN := Lib.hid hn
  have HR := Lib.hid hr
  clear hn hr
  have hnil := fun W => Lib.run_eql_slice_nil (P := Try.prog) W 22 9 (some x) n cap 0 0 Try.underlying22
  have hmk := fun W => run_make_row' (P := Try.prog) 22 9 (.string ⟨#[]⟩) 16 Try.underlying22 Try.info9 rfl .i64 .i64 n (by omega) (by omega) W
  go_enter Try.func6, Try.ntmps6
  go_wp2_with fail
  go_loopg [4] n (fun g i wr => ∃ (j : Nat) (C : Array Value), j ≤ n ∧ g = n - j ∧ w.alloc (.cells C 9) = wr ∧ i = .int .i64 j ∧ Part C xs n j)
  case atStart => exact ⟨0, _, by omega, rfl, rfl, rfl, part_start _ _ _⟩
  case round =>
    obtain ⟨j, C, hj, rfl, rfl, rfl, hp⟩ := hrel
    have HP := Lib.hid hp
    clear hp
    by_cases hlt : j < n
    · have hjl : j < xs.length := by have := HN.out; omega
      obtain ⟨b, off, hx, hb, hc⟩ := HR.out j hjl
      obtain rfl : x = ⟨b, off, none⟩ := by injection hx
      have hc2 : ∀ o, (w.alloc o).cell? ⟨b, off + j, none⟩ = some (.string xs[j]) := fun o => by rw [World.cell?_alloc_lt _ _ _ hb]; exact hc
      obtain ⟨vo, hvo⟩ := part_old HP.out hlt
      have H1 := Lib.hid (part_step HP.out hjl hlt)
      go_wp2_with fail
      go_roundg (n - (j + 1))
      case measure => omega
      case rel => exact ⟨j + 1, _, by omega, rfl, rfl, by go_num, H1.out⟩
    · obtain rfl : j = n := by omega
      have H1 := Lib.hid (part_end HP.out HN.out)
      go_wp2_with fail
      go_ret
      exact ⟨rfl, by rw [H1.out]⟩

def SomeBool (P : Bool → Prop) (w : World) (e : Ending) (w' : World) : Prop := ∃ b : Bool, P b ∧ e = .returned (.bool b) ∧ w = w'
theorem size_int (s : ByteArray) : (0 : Int) ≤ (s.size : Int) := by omega

theorem tooBig_any (s1 s2 s3 : ByteArray) (a : Option Addr) (n cap : Nat) (xs : List ByteArray) (w : World) (hn : xs.length = n) (hn2 : n ≤ 9223372036854775807) (hr : SRead w a xs) :
    Calls Try.prog 5 #[.string s1, .string s2, .string s3, .slice a n cap] w (SomeBool (fun b => b = false → n ≤ 65536) w) := by
  have HN := Lib.hid hn
  have HR := Lib.hid hr
  clear hn hr
  by_cases h1 : n ≤ 65536
  · have h1' : (n : Int) ≤ 65536 := by omega
    by_cases h2 : 1048576 < wrap64 (wrap64 (wrap64 ((s1.size : Int) + (s2.size : Int)) + (s3.size : Int)) + 16 * (n : Int))
    · go_enter Try.func5, Try.ntmps5
      go_wp2_with fail
      go_ret
      exact ⟨true, fun h => (by cases h), rfl, rfl⟩
    · have h2' : wrap64 (wrap64 (wrap64 ((s1.size : Int) + (s2.size : Int)) + (s3.size : Int)) + 16 * (n : Int)) ≤ 1048576 := by omega
      go_enter Try.func5, Try.ntmps5
      go_wp2_with fail
      clear h2 h2'
      go_loopg [9, 10] n (fun g t i wr => ∃ (j : Nat) (z : Int), j ≤ n ∧ g = n - j ∧ w = wr ∧ i = .int .i64 j ∧ t = .int .i64 z)
      case atStart => exact ⟨0, _, by omega, rfl, rfl, rfl, rfl⟩
      case round =>
        obtain ⟨j, z, hj, rfl, rfl, rfl, rfl⟩ := hrel
        by_cases hlt : j < n
        · have hjl : j < xs.length := by have := HN.out; omega
          obtain ⟨b, off, rfl, hb, hc⟩ := HR.out j hjl
          by_cases h3 : 1048576 < wrap64 (z + (xs[j].size : Int))
          · go_wp2_with fail
            go_ret
            exact ⟨true, fun h => (by cases h), rfl, rfl⟩
          · have h3' : wrap64 (z + (xs[j].size : Int)) ≤ 1048576 := by omega
            go_wp2_with fail
            go_roundg (n - (j + 1))
            case measure => omega
            case rel => exact ⟨j + 1, _, by omega, rfl, rfl, by go_num, rfl⟩
        · go_wp2_with fail
          go_ret
          exact ⟨false, fun _ => h1, rfl, rfl⟩
  · have h1' : 65536 < (n : Int) := by omega
    go_enter Try.func5, Try.ntmps5
    go_wp2_with fail
    go_ret
    exact ⟨true, fun h => (by cases h), rfl, rfl⟩

theorem zbytes_any (s1 s2 s3 : ByteArray) (a : Option Addr) (n cap : Nat) (r : Int) (xs : List ByteArray) (w : World) (hn : xs.length = n) (hn2 : n ≤ 9223372036854775807) (hr : SRead w a xs) :
    Calls Try.prog 4 #[.string s1, .string s2, .string s3, .slice a n cap, .int .u16 r] w (SomeBool (fun _ => True) w) := by
  have HN := Lib.hid hn
  have HR := Lib.hid hr
  clear hn hr
  by_cases c0 : 1048576 < (s1.size : Int)
  · go_enter Try.func4, Try.ntmps4
    go_wp2_with fail
    go_ret
    exact ⟨false, trivial, rfl, rfl⟩
  replace c0 : (s1.size : Int) ≤ 1048576 := by omega
  by_cases c1 : 1048576 < (s2.size : Int)
  · go_enter Try.func4, Try.ntmps4
    go_wp2_with fail
    go_ret
    exact ⟨false, trivial, rfl, rfl⟩
  replace c1 : (s2.size : Int) ≤ 1048576 := by omega
  by_cases c2 : 1048576 < (s1.size : Int) + (s2.size : Int)
  · go_enter Try.func4, Try.ntmps4
    go_wp2_with fail
    go_ret
    exact ⟨false, trivial, rfl, rfl⟩
  replace c2 : (s1.size : Int) + (s2.size : Int) ≤ 1048576 := by omega
  by_cases c3 : 1048576 < (s3.size : Int)
  · go_enter Try.func4, Try.ntmps4
    go_wp2_with fail
    go_ret
    exact ⟨false, trivial, rfl, rfl⟩
  replace c3 : (s3.size : Int) ≤ 1048576 := by omega
  by_cases c4 : 1048576 < (s1.size : Int) + (s2.size : Int) + (s3.size : Int)
  · go_enter Try.func4, Try.ntmps4
    go_wp2_with fail
    go_ret
    exact ⟨false, trivial, rfl, rfl⟩
  replace c4 : (s1.size : Int) + (s2.size : Int) + (s3.size : Int) ≤ 1048576 := by omega
  by_cases c5 : 1048576 < (n : Int)
  · go_enter Try.func4, Try.ntmps4
    go_wp2_with fail
    go_ret
    exact ⟨false, trivial, rfl, rfl⟩
  replace c5 : (n : Int) ≤ 1048576 := by omega
  by_cases c6 : 1048576 < (s1.size : Int) + (s2.size : Int) + (s3.size : Int) + (n : Int)
  · go_enter Try.func4, Try.ntmps4
    go_wp2_with fail
    go_ret
    exact ⟨false, trivial, rfl, rfl⟩
  replace c6 : (s1.size : Int) + (s2.size : Int) + (s3.size : Int) + (n : Int) ≤ 1048576 := by omega
  go_enter Try.func4, Try.ntmps4
  go_wp2_with fail
  go_loopg [11, 12] n (fun g t i wr => ∃ (j : Nat) (z : Int), j ≤ n ∧ g = n - j ∧ w = wr ∧ i = .int .i64 j ∧ t = .int .i64 z)
  case atStart => exact ⟨0, _, by omega, rfl, rfl, rfl, rfl⟩
  case round =>
    obtain ⟨j, z, hj, rfl, rfl, rfl, rfl⟩ := hrel
    by_cases hlt : j < n
    · have hjl : j < xs.length := by have := HN.out; omega
      obtain ⟨b, off, rfl, hb, hc⟩ := HR.out j hjl
      by_cases h2 : 1048576 < (xs[j].size : Int)
      · go_wp2_with fail
        go_ret
        exact ⟨false, trivial, rfl, rfl⟩
      · replace h2 : (xs[j].size : Int) ≤ 1048576 := by omega
        by_cases h3 : 1048576 < wrap64 (z + (xs[j].size : Int))
        · go_wp2_with fail
          go_ret
          exact ⟨false, trivial, rfl, rfl⟩
        · have h3' : wrap64 (z + (xs[j].size : Int)) ≤ 1048576 := by omega
          go_wp2_with fail
          go_roundg (n - (j + 1))
          case measure => omega
          case rel => exact ⟨j + 1, _, by omega, rfl, rfl, by go_num, rfl⟩
    · go_wp2_with fail
      go_ret
      exact ⟨true, trivial, rfl, rfl⟩
end Go.Proofs.Ytmamedagebjnjaa
