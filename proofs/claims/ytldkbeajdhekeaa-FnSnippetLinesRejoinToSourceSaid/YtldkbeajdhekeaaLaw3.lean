/-
  The law 'the lines rejoin to the source', for every string.
-/
import Derived.Test.YtldkbeajdhekeaaLaw2
import Derived.Test.YtldkbeajdhekeaaLines
import Derived.Test.YtldkbeajdhekeaaBuf
namespace Go.Proofs.Ytldkbeajdhekeaa
open Go.RowKit
set_option linter.unusedVariables false

theorem ret_int {k : IntKind} {a b : Int} (h : a = b) : Ending.returned (.int k a) = .returned (.int k b) := by rw [h]
theorem count_hit {l : List UInt8} {k : Nat} (h : k < l.length) (hb : (l[k] == 10) = true) : (l.take (k + 1)).count 10 = (l.take k).count 10 + 1 := by
  rw [List.take_succ_eq_append_getElem h, List.count_append]
  have e : l[k] = 10 := by simpa using hb
  rw [e]; simp
theorem count_miss {l : List UInt8} {k : Nat} (h : k < l.length) (hb : (l[k] == 10) = false) : (l.take (k + 1)).count 10 = (l.take k).count 10 := by
  rw [List.take_succ_eq_append_getElem h, List.count_append]
  simp only [List.count_cons, List.count_nil, hb]
  simp
def cntNL (l : List UInt8) : Nat := l.count 10
theorem countNewlines_any (s : ByteArray) (w : World) (hs : s.size ≤ 4194304) : Calls Try.prog 13 #[.string s] w fun e w' => e = .returned (.int .i64 (cntNL s.data.toList)) ∧ w = w' := by
  have HL := Lib.hid (Lib.size_eq s)
  have HB := Lib.hid (byte_eq s)
  go_enter Try.func13, Try.ntmps13
  go_wp2_with fail
  go_loopg [3, 4] s.size (fun g c i wr => ∃ k q : Nat, k ≤ s.size ∧ q ≤ k ∧ g = s.size - k ∧ w = wr ∧ i = .int .i64 k ∧ c = .int .i64 q ∧ (s.data.toList.take k).count 10 = q)
  case atStart => exact ⟨0, 0, by omega, by omega, rfl, rfl, rfl, rfl, rfl⟩
  case round =>
    obtain ⟨k, q, hk, hqk, rfl, rfl, rfl, rfl, hp⟩ := hrel
    have HP := Lib.hid hp
    clear hp
    by_cases hlt : k < s.size
    · have hll : k < s.data.toList.length := by have := HL.out; omega
      have hb := HB.out k hlt hll
      cases hq : (((s[k]'hlt).toNat : Int) == 10) with
      | true =>
        rw [hq] at hb
        have HR := Lib.hid (count_hit hll hb.symm)
        clear hb hll
        go_wp2_with fail
        go_roundg (s.size - (k + 1))
        case measure => omega
        case rel => exact ⟨k + 1, q + 1, by omega, by omega, rfl, rfl, by go_num, by go_num, by rw [HR.out, HP.out]⟩
      | false =>
        rw [hq] at hb
        have HR := Lib.hid (count_miss hll hb.symm)
        clear hb hll
        go_wp2_with fail
        go_roundg (s.size - (k + 1))
        case measure => omega
        case rel => exact ⟨k + 1, q, by omega, by omega, rfl, rfl, by go_num, rfl, by rw [HR.out, HP.out]⟩
    · have HR : Hid (cntNL s.data.toList = q) := by
        have h := HP.out
        rw [List.take_of_length_le (by rw [← HL.out]; omega)] at h
        exact Lib.hid h
      go_wp2_with fail
      go_ret
      exact ⟨ret_int (by rw [HR.out]), rfl⟩
theorem bytes12 (s : ByteArray) (w : World) (hs : s.size ≤ maxLen) : Calls Try.prog 12 #[.string s] w fun e w' => e = .returned (.bool (decide (s.size ≤ 1048576))) ∧ w = w' := by
  unfold maxLen at hs
  by_cases h : s.size ≤ 1048576
  · rw [decide_eq_true h]
    have h' : (s.size : Int) ≤ 1048576 := by omega
    go_enter Try.func12, Try.ntmps12
    go_wp2
    go_ret
    exact ⟨rfl, rfl⟩
  · rw [decide_eq_false h]
    have h' : 1048576 < (s.size : Int) := by omega
    clear h
    go_enter Try.func12, Try.ntmps12
    go_wp2
    go_ret
    exact ⟨rfl, rfl⟩

theorem Try.info5 : (Try.prog.info? 5).map (fun i => (i.zero, i.size, i.bytes)) = some (some (.int .u8 0), 1, 1) := by kernel_rfl

theorem sn_data {s : ByteArray} {k : Int} {l : List UInt8} (h : snip s.data.toList k = some l) : snS s k = ⟨l.toArray⟩ ∧ snB s k = true := by
  unfold snS snB; rw [h]; exact ⟨rfl, rfl⟩
theorem sn_none {s : ByteArray} {k : Int} (h : snip s.data.toList k = none) : snS s k = ⟨#[]⟩ ∧ snB s k = false := by
  unfold snS snB; rw [h]; exact ⟨rfl, rfl⟩
theorem ne_of {s : ByteArray} (he : s.toList.isEmpty = false) : s.data.toList ≠ [] := by rw [ByteArray.toList_eq] at he; simpa using he
theorem sn_first (s : ByteArray) (he : s.toList.isEmpty = false) : (snS s 1).data.toList = first s.data.toList ∧ snB s 1 = true ∧ St s.data.toList 1 (first s.data.toList).length := by
  have h : snip s.data.toList 1 = some (first s.data.toList) := snip_some _ (ne_of he)
  obtain ⟨h1, h2⟩ := sn_data h
  exact ⟨by rw [h1], h2, st_first _⟩

theorem keepA {w wr w3 : World} {B : Nat} {s : ByteArray} (hcell : wr.cell? ⟨B, 0, none⟩ = some (.string s)) (hsz : B + 2 ≤ wr.heap.size) (hbel : Below w.heap.size w wr) (hw : w.heap.size ≤ B)
    (hg : wr.grownBy w3 (some (B + 1))) : w3.cell? ⟨B, 0, none⟩ = some (.string s) ∧ B + 2 ≤ w3.heap.size ∧ Below w.heap.size w w3 := by
  have h2 := hg.size
  exact ⟨hg.cell hcell (by simp), by omega, hbel.grown hg (by omega) (fun k hk => by injection hk with hk; omega)⟩
theorem keepO {w wr : World} {B : Nat} {s : ByteArray} (o : Obj) (h : wr.cell? ⟨B, 0, none⟩ = some (.string s) ∧ B + 2 ≤ wr.heap.size ∧ Below w.heap.size w wr) (hw : w.heap.size ≤ B) :
    (wr.alloc o).cell? ⟨B, 0, none⟩ = some (.string s) ∧ B + 2 ≤ (wr.alloc o).heap.size ∧ Below w.heap.size w (wr.alloc o) := by
  obtain ⟨h1, h2, h3⟩ := h
  refine ⟨?_, by simp; omega, h3.alloc (by omega) _⟩
  rw [World.cell?_alloc_lt _ _ _ (by simp; omega)]; exact h1
theorem ownA {W : World} {B : Nat} {l : List UInt8} {p : ByteArray} {base cap : Nat} (hp : p.data.toList = first l) (h : W.ownsRow base 5 1 (.slice (some ⟨B, 0, none⟩) (0 + p.size) cap) (0 + p.size) (cellsOf (l.take 0) ++ byteCells p)) :
    W.ownsRow base 5 1 (.slice (some ⟨B, 0, none⟩) (first l).length cap) (first l).length (cellsOf (l.take (first l).length)) := by
  have e : p.size = (first l).length := by rw [Lib.size_eq, hp]
  rw [Nat.zero_add, e, byteCells_eq, hp] at h
  rw [take_first]
  simpa [cellsOf] using h
theorem ownB {W : World} {B n : Nat} {l r : List UInt8} {p : ByteArray} {base cap : Nat} (hp : p.data.toList = first r) (hl : l.take n ++ [10] ++ first r = l.take (n + 1 + (first r).length))
    (h : W.ownsRow base 5 1 (.slice (some ⟨B, 0, none⟩) (n + 1 + p.size) cap) (n + 1 + p.size) ((cellsOf (l.take n) ++ [.int .u8 10]) ++ byteCells p)) :
    W.ownsRow base 5 1 (.slice (some ⟨B, 0, none⟩) (n + 1 + (first r).length) cap) (n + 1 + (first r).length) (cellsOf (l.take (n + 1 + (first r).length))) := by
  have e : p.size = (first r).length := by rw [Lib.size_eq, hp]
  rw [e, byteCells_eq, hp] at h
  rw [← hl, cellsOf_append, cellsOf_append]
  exact h
theorem size_of {p : ByteArray} {l : List UInt8} (h : p.data.toList = l) : p.size = l.length := by rw [Lib.size_eq, h]
theorem one_cell (W : World) (b : Nat) (v : Value) (t : TypeId) (hb : b = W.heap.size) : ∀ j u, [v][j]? = some u → (W.alloc (.cells #[v] t)).cell? ((⟨b, 0, none⟩ : Addr).add j) = some u := by
  intro j u hj
  subst hb
  match j, hj with
  | 0, hj => simp at hj; subst hj; simp [Addr.add]
theorem sn_more (s : ByteArray) (he : s.toList.isEmpty = false) {m n : Nat} {r : List UInt8} (h : St s.data.toList m n) (hr : s.data.toList.drop n = 10 :: r) : (snS s ((m : Int) + 1)).data.toList = first r ∧ snB s ((m : Int) + 1) = true := by
  have h' : snip s.data.toList ((m : Int) + 1) = some (first r) := by
    rw [snip_some _ (ne_of he), show ((m : Int) + 1 - 1).toNat = m by omega]; exact (st_step h hr).1
  obtain ⟨h1, h2⟩ := sn_data h'
  exact ⟨by rw [h1], h2⟩
theorem sn_stop (s : ByteArray) (he : s.toList.isEmpty = false) {m n : Nat} (h : St s.data.toList m n) (hr : s.data.toList.drop n = []) : snS s ((m : Int) + 1) = ⟨#[]⟩ ∧ snB s ((m : Int) + 1) = false := by
  have h' : snip s.data.toList ((m : Int) + 1) = none := by
    rw [snip_some _ (ne_of he), show ((m : Int) + 1 - 1).toNat = m by omega]; exact (st_end h hr).1
  exact sn_none h'

theorem rejoin_main (s : ByteArray) (w : World) (hs : s.size ≤ 4096) (w0 : s.size ≤ maxLen) (he : s.toList.isEmpty = false) :
    Calls Try.prog 5 #[.string s] w fun e w' => e = .returned (.bool true) ∧ Below w.heap.size w w' := by
  have hd : decide (s.size ≤ 1048576) = true := decide_eq_true (by omega)
  have g1 : (s.size : Int) ≤ 4096 := by omega
  have HL := Lib.hid (Lib.size_eq s)
  obtain ⟨i0, hi, hz0, hz1, hz2⟩ := info_parts Try.info5
  have hmk := fun W => run_make (P := Try.prog) W 31 5 i0 (.int .u8 0) Try.underlying31 hi hz0 .i64 .i64 0 s.size (by omega) (by omega) (by rw [hz2]; omega) (by omega)
  go_enter Try.func5, Try.ntmps5
  go_wp2_with fail
  refine (bytes12 _ _ w0).mono ?_
  rintro e w' ⟨rfl, rfl⟩
  go_wp2_with fail
  refine (newSource_any _ _).mono ?_
  rintro e w1 ⟨rfl, hb1⟩
  go_wp2_with fail
  have z1 := hb1.size
  generalize hB : w1.heap.size = B at *
  have HB0 := Lib.hid hB
  clear hB
  go_loopg [6, 7, 8] (s.size + 2) (fun g bf kk sp wr => ∃ m n : Nat, m ≤ n + 1 ∧ n ≤ s.size ∧ g = s.size + 2 - m ∧ (m = 0 ∧ n = 0 ∨ St s.data.toList m n) ∧
    bf = .slice (some ⟨B + 1, 0, none⟩) n s.size ∧ kk = .int .i64 ((m : Int) + 1) ∧ sp = .bool false ∧ wr.ownsRow (B + 1) 5 1 (.slice (some ⟨B + 1, 0, none⟩) n s.size) n (cellsOf (s.data.toList.take n)) ∧
    wr.cell? ⟨B, 0, none⟩ = some (.string s) ∧ B + 2 ≤ wr.heap.size ∧ Below w.heap.size w wr)
  case atStart =>
    have e : (w1.alloc (.cells #[.string s] 25)).heap.size = B + 1 := by simp [HB0.out]
    have ho := World.ownsRow_made (w := w1.alloc (.cells #[.string s] 25)) (base := B + 1) (e := 5) (size := 1) (madeCells #[.int .u8 0] s.size) s.size (by omega) w0 (by rw [size_madeCells]; omega)
    rw [e] at ho
    refine ⟨0, 0, by omega, by omega, rfl, .inl ⟨rfl, rfl⟩, rfl, rfl, rfl, ho, ?_, ?_, ?_⟩
    · rw [World.cell?_alloc_lt _ _ _ (by simp [HB0.out])]
      rw [← HB0.out]; simp
    · simp [HB0.out]
    · exact (hb1.alloc (by rw [HB0.out]; exact z1) _).alloc (by rw [e]; omega) _
  case round =>
    obtain ⟨m, n, hmn, hn, rfl, hst, rfl, rfl, rfl, hown, hcell, hsz, hbel⟩ := hrel
    have hfits : (m : Int) + 1 ≤ (s.size : Int) + 2 := by omega
    rcases hst with ⟨rfl, rfl⟩ | hst
    · obtain ⟨f1, f2, f3⟩ := sn_first s he
      have HF := Lib.hid f3
      clear f3
      have hll := first_le s.data.toList
      have hpl : (snS s 1).size ≤ s.size := by rw [size_of f1, HL.out]; exact hll
      have HF1 := Lib.hid f1
      clear f1 hll
      generalize hp : snS s 1 = p at *
      have HK := Lib.hid (keepO (.cells #[.string s] 25) ⟨hcell, hsz, hbel⟩ z1)
      go_wp2_with (first | (go_at_call 8; refine (snippet_sn _ _ _ (by omega) (by omega) (by omega)).mono ?_; rintro e w2 ⟨rfl, rfl⟩) | (at_builtin; refine wpList_append_src _ rfl (.tmp 56) (.tmp 57) 31 9 rfl (B + 1) 5 i0 1 Try.underlying31 hi hz1 (B + 1) 0 s.size _ rfl (hown.alloc _) _ _ _ rfl (Src.ofString _ Try.underlying9 p) (by omega) ?_; intro w3 hown3 hgr3))
      go_roundg (s.size + 2 - 1)
      case measure => omega
      case rel =>
        have hbd := st_bound HF.out
        rw [← HL.out] at hbd
        obtain ⟨q1, q2, q3⟩ := keepA HK.out.1 HK.out.2.1 HK.out.2.2 z1 hgr3
        exact ⟨1, _, by omega, hbd.2, rfl, .inr HF.out, by rw [← size_of HF1.out], rfl, rfl, ownA HF1.out hown3, q1, q2, q3⟩
    · have hm0 : 0 < m := hst.2.1
      have HST := Lib.hid hst
      rcases hst.2.2.2.1 with hr | ⟨r, hr⟩
      · obtain ⟨f1, f2⟩ := sn_stop s he hst hr
        obtain ⟨e1, e2, e3⟩ := st_end hst hr
        obtain ⟨q, rfl⟩ : ∃ q, m = q + 1 := ⟨m - 1, by omega⟩
        have hcnt : cntNL s.data.toList = q := by unfold cntNL; omega
        have eq1 : (((q + 1 : Nat) : Int) + 1) = (q : Int) + 1 + 1 := by omega
        rw [eq1] at f1 f2
        clear eq1 hm0
        have ho2 := hown
        rw [e2] at ho2
        have hback : (convert 31 9 (.slice (some ⟨B + 1, 0, none⟩) n s.size)).run Try.prog (wr.alloc (.cells #[.string s] 25)) = .ok (.string s) (wr.alloc (.cells #[.string s] 25)) := string_of_row Try.underlying31 Try.underlying5 Try.underlying9 (ho2.alloc (.cells #[.string s] 25))
        have HK := Lib.hid (keepO (.cells #[.string s] 25) ⟨hcell, hsz, hbel⟩ z1)
        clear e1 e2 e3 hst hr hown ho2
        go_wp2_with fail
        refine (snippet_sn _ _ _ (by omega) (by omega) (by omega)).mono ?_
        rintro e w2 ⟨rfl, rfl⟩
        go_wp2_with fail
        refine (countNewlines_any _ _ (by omega)).mono ?_
        rintro e w2 ⟨rfl, rfl⟩
        go_wp2_with fail
        go_ret
        exact ⟨rfl, HK.out.2.2⟩
      · obtain ⟨f1, f2⟩ := sn_more s he hst hr
        obtain ⟨g1', g2', g3'⟩ := st_step hst hr
        have hmore := st_more hst hr
        have hpl : n + 1 + (snS s ((m : Int) + 1)).size ≤ s.size := by rw [size_of f1, HL.out]; exact hmore
        have HF1 := Lib.hid f1
        have HS2 := Lib.hid g2'
        have HT := Lib.hid g3'
        clear f1 g1' g2' g3' hmore hst hr
        generalize hp : snS s ((m : Int) + 1) = p at *
        have hgt : (1 : Int) < (m : Int) + 1 := by omega
        have HK := Lib.hid (keepO (.cells #[.int .u8 10] 5) (keepO (.cells #[.string s] 25) ⟨hcell, hsz, hbel⟩ z1) z1)
        go_wp2_with (first | (go_at_call 8; refine (snippet_sn _ _ _ (by omega) (by omega) (by omega)).mono ?_; rintro e w2 ⟨rfl, rfl⟩) | (at_builtin; refine wpList_append_src _ rfl (.tmp 53) (.tmp 54) 31 31 rfl (B + 1) 5 i0 1 Try.underlying31 hi hz1 (B + 1) n s.size _ rfl ((hown.alloc _).alloc _) _ _ _ rfl (Src.ofSlice _ Try.underlying31 _ 1 1 [.int .u8 10] rfl (one_cell _ _ _ _ (by simp)) (by simp [Value.oneCell'])) (by omega) ?_; intro w3 hown3 hgr3) | (at_builtin; refine wpList_append_src _ rfl (.tmp 56) (.tmp 57) 31 9 rfl (B + 1) 5 i0 1 Try.underlying31 hi hz1 (B + 1) (n + 1) s.size _ rfl hown3 _ _ _ rfl (Src.ofString _ Try.underlying9 p) (by omega) ?_; intro w4 hown4 hgr4))
        go_roundg (s.size + 2 - (m + 1))
        case measure => omega
        case rel =>
          have hbd := st_bound HS2.out
          rw [← HL.out] at hbd
          obtain ⟨q1, q2, q3⟩ := keepA HK.out.1 HK.out.2.1 HK.out.2.2 z1 hgr3
          obtain ⟨q4, q5, q6⟩ := keepA q1 q2 q3 z1 hgr4
          exact ⟨m + 1, _, by omega, hbd.2, rfl, .inr HS2.out, by rw [← size_of HF1.out], by go_num, rfl, ownB HF1.out HT.out hown4, q4, q5, q6⟩

theorem rejoin_walk (s : ByteArray) (w : World) (w0 : s.size ≤ maxLen) : Calls Try.prog 5 #[.string s] w fun e w' => e = .returned (.bool true) ∧ Below w.heap.size w w' := by
  by_cases h : s.size ≤ 1048576
  · have hd : decide (s.size ≤ 1048576) = true := decide_eq_true h
    by_cases h2 : s.size ≤ 4096
    · have g1 : (s.size : Int) ≤ 4096 := by omega
      cases he : s.toList.isEmpty with
      | false => exact rejoin_main s w h2 w0 he
      | true =>
        have hn : s.data.toList = [] := by rw [ByteArray.toList_eq] at he; simpa using he
        obtain ⟨f1, f2⟩ := sn_none (k := 1) (snip_none 1 hn)
        clear hn
        go_enter Try.func5, Try.ntmps5
        go_wp2_with fail
        refine (bytes12 _ _ w0).mono ?_
        rintro e w' ⟨rfl, rfl⟩
        go_wp2_with fail
        refine (newSource_any _ _).mono ?_
        rintro e w1 ⟨rfl, hb1⟩
        have z1 := hb1.size
        go_wp2_with fail
        refine (snippet_sn _ _ _ (by omega) (by omega) (by omega)).mono ?_
        rintro e w2 ⟨rfl, rfl⟩
        go_wp2_with fail
        go_ret
        exact ⟨rfl, (hb1.alloc z1 _).alloc (by simp; omega) _⟩
    · have g1 : 4096 < (s.size : Int) := by omega
      go_enter Try.func5, Try.ntmps5
      go_wp2_with fail
      refine (bytes12 _ _ w0).mono ?_
      rintro e w' ⟨rfl, rfl⟩
      go_wp2_with fail
      go_ret
      exact ⟨rfl, Below.refl _ _⟩
  · have hd : decide (s.size ≤ 1048576) = false := decide_eq_false h
    go_enter Try.func5, Try.ntmps5
    go_wp2_with fail
    refine (bytes12 _ _ w0).mono ?_
    rintro e w' ⟨rfl, rfl⟩
    go_wp2_with fail
    go_ret
    exact ⟨rfl, Below.refl _ _⟩
end Go.Proofs.Ytldkbeajdhekeaa
