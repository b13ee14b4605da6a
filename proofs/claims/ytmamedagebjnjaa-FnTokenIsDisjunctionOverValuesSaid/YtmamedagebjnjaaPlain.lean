/-
  Plain facts: a hit among strings does not hang on their order; worlds that keep the law's own blocks.
-/
import Derived.Test.YtmamedagebjnjaaBase
namespace Go.Proofs.Ytmamedagebjnjaa
open Go.RowKit
set_option linter.unusedVariables false

theorem hit_same {tv : ByteArray} {xs ys : List ByteArray} (h1 : ∀ y ∈ ys, y ∈ xs) (h2 : ∀ x ∈ xs, x ∈ ys) : hit tv ys = hit tv xs := by
  unfold hit
  rw [Bool.eq_iff_iff, List.any_eq_true, List.any_eq_true]
  exact ⟨fun ⟨y, hy, e⟩ => ⟨y, h1 y hy, e⟩, fun ⟨x, hx, e⟩ => ⟨x, h2 x hx, e⟩⟩
theorem isT_same {tk tv k : ByteArray} {xs ys : List ByteArray} (hl : ys.length = xs.length) (h : hit tv ys = hit tv xs) : isT tk tv k ys = isT tk tv k xs := by
  unfold isT
  rw [h]
  congr 2
  cases xs <;> cases ys <;> simp at hl ⊢
def rotL (xs : List ByteArray) (s : Nat) : List ByteArray := (List.range xs.length).map fun j => xs.getD ((j + s) % xs.length) ⟨#[]⟩
theorem rot_len (xs : List ByteArray) (s : Nat) : (rotL xs s).length = xs.length := by simp [rotL]
theorem rot_at (xs : List ByteArray) (s j : Nat) (h : j < (rotL xs s).length) (h2 : (j + s) % xs.length < xs.length) : (rotL xs s)[j] = xs[(j + s) % xs.length] := by
  simp [rotL, h2]
theorem rot_hit {tv : ByteArray} {xs : List ByteArray} {s : Nat} (hs : s < xs.length) : hit tv (rotL xs s) = hit tv xs := by
  have hpos : 0 < xs.length := by omega
  apply hit_same
  · intro y hy
    obtain ⟨j, hj, e⟩ := List.getElem_of_mem hy
    rw [rot_at xs s j hj (Nat.mod_lt _ hpos)] at e
    rw [← e]
    exact List.getElem_mem _
  · intro x hx
    obtain ⟨j, hj, e⟩ := List.getElem_of_mem hx
    have h1 : (j + (xs.length - s)) % xs.length < (rotL xs s).length := by rw [rot_len]; exact Nat.mod_lt _ hpos
    have e2 : ((j + (xs.length - s)) % xs.length + s) % xs.length = j := by
      rw [Nat.mod_add_mod, show j + (xs.length - s) + s = j + xs.length by omega, Nat.add_mod_right, Nat.mod_eq_of_lt hj]
    have e3 := rot_at xs s _ h1 (by rw [e2]; exact hj)
    have : (rotL xs s)[(j + (xs.length - s)) % xs.length] = x := by
      rw [e3, ← e]
      congr 1
    rw [← this]
    exact List.getElem_mem _
def swapL (xs : List ByteArray) (s : Nat) (h : s < xs.length) : List ByteArray := (xs.set 0 xs[s]).set s (xs[0]'(by omega))
theorem swap_len (xs : List ByteArray) (s : Nat) (h : s < xs.length) : (swapL xs s h).length = xs.length := by simp [swapL]
theorem swap_hit {tv : ByteArray} {xs : List ByteArray} {s : Nat} (hs : s < xs.length) : hit tv (swapL xs s hs) = hit tv xs := by
  apply hit_same
  · intro y hy
    obtain ⟨j, hj, e⟩ := List.getElem_of_mem hy
    simp only [swapL, List.getElem_set] at e
    split at e
    · rw [← e]; exact List.getElem_mem _
    · split at e
      · rw [← e]; exact List.getElem_mem _
      · rw [← e]; exact List.getElem_mem _
  · intro x hx
    obtain ⟨j, hj, e⟩ := List.getElem_of_mem hx
    by_cases e0 : j = 0
    · subst e0
      have : (swapL xs s hs)[s]'(by rw [swap_len]; exact hs) = x := by simp [swapL, e]
      rw [← this]; exact List.getElem_mem _
    · by_cases es : j = s
      · subst es
        have : (swapL xs j hs)[0]'(by rw [swap_len]; omega) = x := by
          simp only [swapL, List.getElem_set]
          rw [if_neg (by omega), if_pos (by trivial)]
          exact e
        rw [← this]; exact List.getElem_mem _
      · have : (swapL xs s hs)[j]'(by rw [swap_len]; exact hj) = x := by
          simp only [swapL, List.getElem_set]
          rw [if_neg (by omega), if_neg (by omega)]
          exact e
        rw [← this]; exact List.getElem_mem _
theorem rev_hit {tv : ByteArray} {xs : List ByteArray} : hit tv xs.reverse = hit tv xs := hit_same (fun y h => by simpa using h) (fun x h => by simpa using h)
theorem hit_one {tk tv k x : ByteArray} : isT tk tv k [x] = ((k.toList == tk.toList) && (x.toList == tv.toList)) := by simp [isT, hit]
/-- the loop's 'some': how far the OR has come -/
theorem some_step {tk tv k : ByteArray} {xs : List ByteArray} {i : Nat} (h : i < xs.length) : (xs.take (i + 1)).any (fun x => isT tk tv k [x]) = ((xs.take i).any (fun x => isT tk tv k [x]) || isT tk tv k [xs[i]]) := by
  rw [List.take_succ_eq_append_getElem h, List.any_append]
  simp
theorem some_all {tk tv k : ByteArray} {xs : List ByteArray} (h : xs ≠ []) : xs.any (fun x => isT tk tv k [x]) = isT tk tv k xs := by
  have e : xs.isEmpty = false := by simpa using h
  unfold isT
  rw [e, Bool.or_false]
  cases hk : (k.toList == tk.toList) with
  | true =>
    unfold hit
    congr 1
    funext x
    simp
  | false => simp
theorem bare_le {tk tv k : ByteArray} {xs : List ByteArray} : (isT tk tv k xs && !isT tk tv k []) = false := by
  unfold isT hit
  cases hk : (k.toList == tk.toList) <;> simp

/-- the law's own two blocks: the clone and the token -/
structure Inv (w : World) (B : Nat) (xs : List ByteArray) (tk tv : ByteArray) (W : World) : Prop where
  row : W.heap[B]? = some (.cells (strCells xs) 9 (0, 0))
  tok : W.heap[B + 1]? = some (.cells #[.int .i64 0, .int .i64 0, .string tk, .string tv] 31 (0, 0))
  size : B + 2 ≤ W.heap.size
  below : Below w.heap.size w W
  base : w.heap.size ≤ B
theorem Inv.alloc {w W : World} {B : Nat} {xs : List ByteArray} {tk tv : ByteArray} (h : Inv w B xs tk tv W) (o : Obj) : Inv w B xs tk tv (W.alloc o) := by
  have hs := h.size
  have hb := h.base
  exact ⟨(Below.heap_alloc W o B (by omega)).trans h.row, (Below.heap_alloc W o (B + 1) (by omega)).trans h.tok, by simp; omega, h.below.alloc (by omega) _, hb⟩
theorem Inv.drew {w W : World} {B : Nat} {xs : List ByteArray} {tk tv : ByteArray} (h : Inv w B xs tk tv W) : Inv w B xs tk tv W.drew := ⟨h.row, h.tok, h.size, h.below.drew, h.base⟩
theorem Inv.cell {w W : World} {B : Nat} {xs : List ByteArray} {tk tv : ByteArray} (h : Inv w B xs tk tv W) {i : Nat} (hi : i < xs.length) : W.cell? ⟨B, i, none⟩ = some (.string xs[i]) := by
  rw [cell_of_row W B i _ _ _ h.row]
  simp [strCells, hi]
theorem Inv.t0 {w W : World} {B : Nat} {xs : List ByteArray} {tk tv : ByteArray} (h : Inv w B xs tk tv W) : W.cell? ⟨B + 1, 0, none⟩ = some (.int .i64 0) ∧ W.cell? ⟨B + 1, 1, none⟩ = some (.int .i64 0) ∧ W.cell? ⟨B + 1, 1 + 1, none⟩ = some (.string tk) ∧ W.cell? ⟨B + 1, 1 + 1 + 1, none⟩ = some (.string tv) := by
  refine ⟨?_, ?_, ?_, ?_⟩ <;> rw [cell_of_row W (B + 1) _ _ _ _ h.tok] <;> rfl
theorem sread_row {W : World} {B : Nat} {xs : List ByteArray} {t : Nat × Nat} (h : W.heap[B]? = some (.cells (strCells xs) 9 t)) (hB : B < W.heap.size) : SRead W (some ⟨B, 0, none⟩) xs := by
  intro i hi
  refine ⟨B, 0, rfl, hB, ?_⟩
  rw [Nat.zero_add, cell_of_row W B i _ _ _ h]
  simp [strCells, hi]
theorem Inv.read {w W : World} {B : Nat} {xs : List ByteArray} {tk tv : ByteArray} (h : Inv w B xs tk tv W) : SRead W (some ⟨B, 0, none⟩) xs := sread_row h.row (by have := h.size; omega)
theorem sread_nil (W : World) (a : Option Addr) : SRead W a [] := fun i h => absurd h (by simp)
theorem sread_one (W : World) (x : ByteArray) (b : Nat) (hb : b = W.heap.size) : SRead (W.alloc (.cells #[.string x] 9)) (some ⟨b, 0, none⟩) [x] := by
  subst hb
  exact sread_row (xs := [x]) (heap_alloc_new W _) (by simp)
theorem SRead.alloc {W : World} {a : Option Addr} {ys : List ByteArray} (h : SRead W a ys) (o : Obj) : SRead (W.alloc o) a ys := by
  intro i hi
  obtain ⟨b, off, e, hb, hc⟩ := h i hi
  exact ⟨b, off, e, by simp; omega, by rw [World.cell?_alloc_lt _ _ _ hb]; exact hc⟩
theorem sread_new (W : World) (ys : List ByteArray) (b : Nat) (hb : b = W.heap.size) : SRead (W.alloc (.cells (strCells ys) 9)) (some ⟨b, 0, none⟩) ys := by
  subst hb
  exact sread_row (heap_alloc_new W _) (by simp)

def RevPart (C : Array Value) (xs : List ByteArray) (n i : Nat) : Prop := C.size = n ∧ ∀ j (h : j < xs.length), j < i → C[n - 1 - j]? = some (.string xs[j])
theorem rev_start (xs : List ByteArray) (n : Nat) (z : Value) : RevPart (madeCells #[z] n) xs n 0 := ⟨size_madeCells _ _, fun j _ h => by omega⟩
theorem rev_step {C : Array Value} {xs : List ByteArray} {n i : Nat} (hp : RevPart C xs n i) (hi : i < xs.length) (hn : xs.length = n) : RevPart (C.setIfInBounds (n - 1 - i) (.string xs[i])) xs n (i + 1) := by
  refine ⟨by simpa using hp.1, fun j hj hji => ?_⟩
  by_cases e : j = i
  · subst e; rw [Array.getElem?_setIfInBounds, if_pos rfl, if_pos (by rw [hp.1]; omega)]
  · rw [Array.getElem?_setIfInBounds, if_neg (by omega)]; exact hp.2 j hj (by omega)
theorem rev_old {C : Array Value} {xs : List ByteArray} {n i : Nat} (hp : RevPart C xs n i) (hn : i < n) : ∃ v, C[n - 1 - i]? = some v := ⟨_, Array.getElem?_eq_getElem (by rw [hp.1]; omega)⟩
theorem rev_end {C : Array Value} {xs : List ByteArray} {n : Nat} (hp : RevPart C xs n n) (hn : xs.length = n) : C = strCells xs.reverse := by
  apply Array.ext
  · rw [hp.1, ← hn]; simp [strCells]
  · intro i h1 h2
    have h1' := hp.1
    have h := hp.2 (n - 1 - i) (by omega) (by omega)
    rw [show n - 1 - (n - 1 - i) = i by omega, Array.getElem?_eq_getElem h1] at h
    injection h with h
    rw [h]
    simp [strCells, hn]
def RotPart (C : Array Value) (xs : List ByteArray) (s n i : Nat) : Prop := C.size = n ∧ ∀ j, j < n → j < i → C[j]? = some (.string (xs.getD ((j + s) % n) ⟨#[]⟩))
theorem rot_start (xs : List ByteArray) (s n : Nat) (z : Value) : RotPart (madeCells #[z] n) xs s n 0 := ⟨size_madeCells _ _, fun j _ h => by omega⟩
theorem rot_step {C : Array Value} {xs : List ByteArray} {s n i p : Nat} (hp : RotPart C xs s n i) (hi : i < n) (hm : (i + s) % n = p) (hpl : p < xs.length) : RotPart (C.setIfInBounds i (.string xs[p])) xs s n (i + 1) := by
  refine ⟨by simpa using hp.1, fun j hj hji => ?_⟩
  by_cases e : j = i
  · subst e; rw [Array.getElem?_setIfInBounds, if_pos rfl, if_pos (by rw [hp.1]; exact hi), hm]; simp [hpl]
  · rw [Array.getElem?_setIfInBounds, if_neg (by omega)]; exact hp.2 j hj (by omega)
theorem rot_old {C : Array Value} {xs : List ByteArray} {s n i : Nat} (hp : RotPart C xs s n i) (hn : i < n) : ∃ v, C[i]? = some v := ⟨_, Array.getElem?_eq_getElem (by rw [hp.1]; exact hn)⟩
theorem rot_end {C : Array Value} {xs : List ByteArray} {s n : Nat} (hp : RotPart C xs s n n) (hn : xs.length = n) : C = strCells (rotL xs s) := by
  apply Array.ext
  · rw [hp.1, ← hn]; simp [strCells, rotL]
  · intro i h1 h2
    have h1' := hp.1
    have h := hp.2 i (by omega) (by omega)
    rw [Array.getElem?_eq_getElem h1] at h
    injection h with h
    rw [h]
    simp [strCells, rotL, hn]
theorem swap_cells (xs : List ByteArray) (s : Nat) (h : s < xs.length) (h0 : 0 < xs.length) : ((strCells xs).setIfInBounds 0 (.string xs[s])).setIfInBounds s (.string xs[0]) = strCells (swapL xs s h) := by
  simp [strCells, swapL]
theorem str_at (xs : List ByteArray) (i : Nat) (h : i < xs.length) : (strCells xs)[i]? = some (.string xs[i]) := by simp [strCells, h]
theorem str_set (xs : List ByteArray) (s : Nat) (h : s < xs.length) (v : Value) : ∃ u, ((strCells xs).setIfInBounds 0 v)[s]? = some u := ⟨_, Array.getElem?_eq_getElem (by simpa [strCells] using h)⟩
end Go.Proofs.Ytmamedagebjnjaa
