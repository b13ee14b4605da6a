/-
  Helpers of the law 'the snippets rejoin to String()': contracts and facts on the byte buffer.
-/
import Derived.Test.YtecldoegfjdpnaaBase
import Derived.Test.YtecldoegfjdpnaaLines
import Derived.Test.YtecldoegfjdpnaaBuf
namespace Go.Proofs.Ytecldoegfjdpnaa
open Go.RowKit
set_option linter.unusedVariables false

theorem byte_eq (s : ByteArray) (n : Nat) (h : n < s.size) (h' : n < s.data.toList.length) : (((s[n]'h).toNat : Int) == 10) = (s.data.toList[n] == 10) := by
  have e : s.data.toList[n] = s[n]'h := by simp; rfl
  rw [e, Bool.eq_iff_iff]
  simp [← UInt8.toNat_inj]
  omega
theorem ret_bool {x y : Bool} (h : x = y) : Ending.returned (.bool x) = .returned (.bool y) := by rw [h]
theorem newSource_any (s : ByteArray) (w : World) : Calls Try.prog 5 #[.string s] w fun e w' => e = .returned (.agg #[.string s]) ∧ Below w.heap.size w w' := by
  go_enter Try.func5, Try.ntmps5
  go_wp2_with fail
  exact bodyPost_ret (v := .agg #[.string s]) (by simp [results, Try.results5, go_sem]) rfl ⟨rfl, (Below.refl _ _).alloc (Nat.le_refl _) _⟩
def snS (s : ByteArray) (k : Int) : ByteArray := ⟨((snip s.data.toList k).getD []).toArray⟩
def snB (s : ByteArray) (k : Int) : Bool := (snip s.data.toList k).isSome
theorem snippet_sn (s : ByteArray) (k : Int) (w : World) (hs : s.size ≤ 4194304) (h1 : -9223372036854775808 ≤ k) (h2 : k ≤ 9223372036854775807) :
    Calls Try.prog 6 #[.agg #[.string s], .int .i64 k] w fun e w' => e = .returned (.tuple #[.string (snS s k), .bool (snB s k)]) ∧ w.alloc (.cells #[.string s] 24) = w' := snippet_any s k w hs h1 h2
theorem count_hit {l : List UInt8} {k : Nat} (h : k < l.length) (hb : (l[k] == 10) = true) : (l.take (k + 1)).count 10 = (l.take k).count 10 + 1 := by
  rw [List.take_succ_eq_append_getElem h, List.count_append]
  have e : l[k] = 10 := by simpa using hb
  rw [e]; simp
theorem count_miss {l : List UInt8} {k : Nat} (h : k < l.length) (hb : (l[k] == 10) = false) : (l.take (k + 1)).count 10 = (l.take k).count 10 := by
  rw [List.take_succ_eq_append_getElem h, List.count_append]
  simp only [List.count_cons, List.count_nil, hb]
  simp
theorem Try.info5 : (Try.prog.info? 5).map (fun i => (i.zero, i.size, i.bytes)) = some (some (.int .u8 0), 1, 1) := by kernel_rfl
theorem bytes4 (s : ByteArray) (w : World) (hs : s.size ≤ maxLen) : Calls Try.prog 4 #[.string s] w fun e w' => e = .returned (.bool (decide (s.size ≤ 1048576))) ∧ w = w' := by
  unfold maxLen at hs
  by_cases h : s.size ≤ 1048576
  · rw [decide_eq_true h]
    have h' : (s.size : Int) ≤ 1048576 := by omega
    go_enter Try.func4, Try.ntmps4
    go_wp2
    go_ret
    exact ⟨rfl, rfl⟩
  · rw [decide_eq_false h]
    have h' : 1048576 < (s.size : Int) := by omega
    clear h
    go_enter Try.func4, Try.ntmps4
    go_wp2
    go_ret
    exact ⟨rfl, rfl⟩
theorem sn_data {s : ByteArray} {k : Int} {l : List UInt8} (h : snip s.data.toList k = some l) : snS s k = ⟨l.toArray⟩ ∧ snB s k = true := by
  unfold snS snB; rw [h]; exact ⟨rfl, rfl⟩
theorem sn_none {s : ByteArray} {k : Int} (h : snip s.data.toList k = none) : snS s k = ⟨#[]⟩ ∧ snB s k = false := by
  unfold snS snB; rw [h]; exact ⟨rfl, rfl⟩
theorem ne_of {s : ByteArray} (he : s.toList.isEmpty = false) : s.data.toList ≠ [] := by rw [ByteArray.toList_eq] at he; simpa using he
theorem sn_first (s : ByteArray) (he : s.toList.isEmpty = false) : (snS s 1).data.toList = first s.data.toList ∧ snB s 1 = true ∧ St s.data.toList 1 (first s.data.toList).length := by
  have h : snip s.data.toList 1 = some (first s.data.toList) := snip_some _ (ne_of he)
  obtain ⟨h1, h2⟩ := sn_data h
  exact ⟨by rw [h1], h2, st_first _⟩
theorem keepA {w wr w3 : World} {B : Nat} {s : ByteArray} (hcell : wr.cell? ⟨B, 0, none⟩ = some (.string s)) (hsz : B + 2 ≤ wr.heap.size) (hbel : Below w.heap.size w wr) (hw : w.heap.size ≤ B)
    (hg : wr.grownBy w3 (some (B + 1))) : w3.cell? ⟨B, 0, none⟩ = some (.string s) ∧ B + 2 ≤ w3.heap.size ∧ Below w.heap.size w w3 := by
  have h2 := hg.size
  exact ⟨hg.cell hcell (by simp), by omega, hbel.grown hg (by omega) (fun k hk => by injection hk with hk; omega)⟩
theorem keepO {w wr : World} {B : Nat} {s : ByteArray} (o : Obj) (h : wr.cell? ⟨B, 0, none⟩ = some (.string s) ∧ B + 2 ≤ wr.heap.size ∧ Below w.heap.size w wr) (hw : w.heap.size ≤ B) :
    (wr.alloc o).cell? ⟨B, 0, none⟩ = some (.string s) ∧ B + 2 ≤ (wr.alloc o).heap.size ∧ Below w.heap.size w (wr.alloc o) := by
  obtain ⟨h1, h2, h3⟩ := h
  refine ⟨?_, by simp; omega, h3.alloc (by omega) _⟩
  rw [World.cell?_alloc_lt _ _ _ (by simp; omega)]; exact h1
theorem ownA {W : World} {B : Nat} {l : List UInt8} {p : ByteArray} {base cap : Nat} (hp : p.data.toList = first l) (h : W.ownsRow base 5 1 (.slice (some ⟨B, 0, none⟩) (0 + p.size) cap) (0 + p.size) (cellsOf (l.take 0) ++ byteCells p)) :
    W.ownsRow base 5 1 (.slice (some ⟨B, 0, none⟩) (first l).length cap) (first l).length (cellsOf (l.take (first l).length)) := by
  have e : p.size = (first l).length := by rw [Lib.size_eq, hp]
  rw [Nat.zero_add, e, byteCells_eq, hp] at h
  rw [take_first]
  simpa [cellsOf] using h
theorem ownB {W : World} {B n : Nat} {l r : List UInt8} {p : ByteArray} {base cap : Nat} (hp : p.data.toList = first r) (hl : l.take n ++ [10] ++ first r = l.take (n + 1 + (first r).length))
    (h : W.ownsRow base 5 1 (.slice (some ⟨B, 0, none⟩) (n + 1 + p.size) cap) (n + 1 + p.size) ((cellsOf (l.take n) ++ [.int .u8 10]) ++ byteCells p)) :
    W.ownsRow base 5 1 (.slice (some ⟨B, 0, none⟩) (n + 1 + (first r).length) cap) (n + 1 + (first r).length) (cellsOf (l.take (n + 1 + (first r).length))) := by
  have e : p.size = (first r).length := by rw [Lib.size_eq, hp]
  rw [e, byteCells_eq, hp] at h
  rw [← hl, cellsOf_append, cellsOf_append]
  exact h
theorem size_of {p : ByteArray} {l : List UInt8} (h : p.data.toList = l) : p.size = l.length := by rw [Lib.size_eq, h]
theorem one_cell (W : World) (b : Nat) (v : Value) (t : TypeId) (hb : b = W.heap.size) : ∀ j u, [v][j]? = some u → (W.alloc (.cells #[v] t)).cell? ((⟨b, 0, none⟩ : Addr).add j) = some u := by
  intro j u hj
  subst hb
  match j, hj with
  | 0, hj => simp at hj; subst hj; simp [Addr.add]
theorem sn_more (s : ByteArray) (he : s.toList.isEmpty = false) {m n : Nat} {r : List UInt8} (h : St s.data.toList m n) (hr : s.data.toList.drop n = 10 :: r) : (snS s ((m : Int) + 1)).data.toList = first r ∧ snB s ((m : Int) + 1) = true := by
  have h' : snip s.data.toList ((m : Int) + 1) = some (first r) := by
    rw [snip_some _ (ne_of he), show ((m : Int) + 1 - 1).toNat = m by omega]; exact (st_step h hr).1
  obtain ⟨h1, h2⟩ := sn_data h'
  exact ⟨by rw [h1], h2⟩
theorem sn_stop (s : ByteArray) (he : s.toList.isEmpty = false) {m n : Nat} (h : St s.data.toList m n) (hr : s.data.toList.drop n = []) : snS s ((m : Int) + 1) = ⟨#[]⟩ ∧ snB s ((m : Int) + 1) = false := by
  have h' : snip s.data.toList ((m : Int) + 1) = none := by
    rw [snip_some _ (ne_of he), show ((m : Int) + 1 - 1).toNat = m by omega]; exact (st_end h hr).1
  exact sn_none h'

theorem string_any (s : ByteArray) (w : World) : Calls Try.prog 7 #[.agg #[.string s]] w fun e w' => e = .returned (.string s) ∧ w.alloc (.cells #[.string s] 24) = w' := by
  go_enter Try.func7, Try.ntmps7
  go_wp2_with fail
  go_ret
  exact ⟨rfl, rfl⟩
end Go.Proofs.Ytecldoegfjdpnaa
