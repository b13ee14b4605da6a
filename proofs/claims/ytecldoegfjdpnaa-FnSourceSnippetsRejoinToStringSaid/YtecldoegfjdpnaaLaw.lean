/-
  The law 'the snippets rejoin to String()', for every string.
-/
import Derived.Test.YtecldoegfjdpnaaHelp
import Derived.Deep.RegionWith
namespace Go.Proofs.Ytecldoegfjdpnaa
open Go.RowKit
set_option linter.unusedVariables false

theorem st_not_last {l : List UInt8} {m n : Nat} (h : St l m n) (hm : m < l.count 10 + 1) : ∃ r, l.drop n = 10 :: r := by
  rcases h.2.2.2.1 with hr | hr
  · have := (st_end h hr).2.2
    omega
  · exact hr
theorem st_last {l : List UInt8} {m n : Nat} (h : St l m n) (hm : m = l.count 10 + 1) : l.drop n = [] := by
  rcases h.2.2.2.1 with hr | ⟨r, hr⟩
  · exact hr
  · have h3 := h.2.2.1
    have e : l.count 10 = (l.take n).count 10 + (l.drop n).count 10 := by rw [← List.count_append, List.take_append_drop]
    rw [hr] at e
    simp at e
    omega

set_option maxHeartbeats 1000000 in
theorem rejoin_main (s : ByteArray) (w : World) (hs : s.size ≤ 4096) (w0 : s.size ≤ maxLen) (he : s.toList.isEmpty = false) :
    Calls Try.prog 3 #[.string s] w fun e w' => e = .returned (.bool true) ∧ Below w.heap.size w w' := by
  have hd : decide (s.size ≤ 1048576) = true := decide_eq_true (by omega)
  have g1 : (s.size : Int) ≤ 4096 := by omega
  have HL := Lib.hid (Lib.size_eq s)
  have HB := Lib.hid (byte_eq s)
  obtain ⟨i0, hi, hz0, hz1, hz2⟩ := info_parts Try.info5
  have hmk := fun W => run_make (P := Try.prog) W 29 5 i0 (.int .u8 0) Try.underlying29 hi hz0 .i64 .i64 0 s.size (by omega) (by omega) (by rw [hz2]; omega) (by omega)
  go_enter Try.func3, Try.ntmps3
  go_wp2_with fail
  refine (bytes4 _ _ w0).mono ?_
  rintro e w' ⟨rfl, rfl⟩
  go_wp2_with fail
  refine (newSource_any _ _).mono ?_
  rintro e w1 ⟨rfl, hb1⟩
  go_wp2_with fail
  have z1 := hb1.size
  generalize hB : w1.heap.size = B at *
  have HB0 := Lib.hid hB
  go_loopg [6, 7] s.size (fun g c i wr => ∃ k q : Nat, k ≤ s.size ∧ q ≤ k ∧ g = s.size - k ∧ w1.alloc (.cells #[.string s] 24) = wr ∧ i = .int .i64 k ∧ c = .int .i64 (1 + (q : Int)) ∧ (s.data.toList.take k).count 10 = q)
  case atStart => exact ⟨0, 0, by omega, by omega, rfl, rfl, rfl, rfl, rfl⟩
  case round =>
    obtain ⟨k, q, hk, hqk, rfl, rfl, rfl, rfl, hp⟩ := hrel
    have HP := Lib.hid hp
    clear hp
    by_cases hlt : k < s.size
    · have hll : k < s.data.toList.length := by have := HL.out; omega
      have hb := HB.out k hlt hll
      cases hq : (((s[k]'hlt).toNat : Int) == 10) with
      | true =>
        rw [hq] at hb
        have HR := Lib.hid (count_hit hll hb.symm)
        clear hb hll
        go_wp2_with fail
        go_roundg (s.size - (k + 1))
        case measure => omega
        case rel => exact ⟨k + 1, q + 1, by omega, by omega, rfl, rfl, by go_num, by go_num, by rw [HR.out, HP.out]⟩
      | false =>
        rw [hq] at hb
        have HR := Lib.hid (count_miss hll hb.symm)
        clear hb hll
        go_wp2_with fail
        go_roundg (s.size - (k + 1))
        case measure => omega
        case rel => exact ⟨k + 1, q, by omega, by omega, rfl, rfl, by go_num, rfl, by rw [HR.out, HP.out]⟩
    · have HR : Hid (s.data.toList.count 10 = q) := by
        have h := HP.out
        rw [List.take_of_length_le (by rw [← HL.out]; omega)] at h
        exact Lib.hid h
      go_wp2_with fail
      go_loopg [8, 9] (q + 1) (fun g bf kk wr => ∃ m n : Nat, m ≤ n + 1 ∧ n ≤ s.size ∧ m ≤ q + 1 ∧ g = q + 1 - m ∧ (m = 0 ∧ n = 0 ∨ St s.data.toList m n) ∧
        bf = .slice (some ⟨B + 1, 0, none⟩) n s.size ∧ kk = .int .i64 ((m : Int) + 1) ∧ wr.ownsRow (B + 1) 5 1 (.slice (some ⟨B + 1, 0, none⟩) n s.size) n (cellsOf (s.data.toList.take n)) ∧
        wr.cell? ⟨B, 0, none⟩ = some (.string s) ∧ B + 2 ≤ wr.heap.size ∧ Below w.heap.size w wr)
      case atStart =>
        have e : (w1.alloc (.cells #[.string s] 24)).heap.size = B + 1 := by simp [HB0.out]
        have ho := World.ownsRow_made (w := w1.alloc (.cells #[.string s] 24)) (base := B + 1) (e := 5) (size := 1) (madeCells #[.int .u8 0] s.size) s.size (by omega) w0 (by rw [size_madeCells]; omega)
        rw [e] at ho
        refine ⟨0, 0, by omega, by omega, by omega, rfl, .inl ⟨rfl, rfl⟩, rfl, rfl, ho, ?_, ?_, ?_⟩
        · rw [World.cell?_alloc_lt _ _ _ (by simp [HB0.out])]
          rw [← HB0.out]; simp
        · simp [HB0.out]
        · exact (hb1.alloc (by rw [HB0.out]; exact z1) _).alloc (by rw [e]; omega) _
      case round =>
        obtain ⟨m, n, hmn, hn, hmq, rfl, hst, rfl, rfl, hown, hcell, hsz, hbel⟩ := hrel
        by_cases hlast : m < q + 1
        · have hle : (m : Int) + 1 ≤ 1 + (q : Int) := by omega
          rcases hst with ⟨rfl, rfl⟩ | hst
          · obtain ⟨f1, f2, f3⟩ := sn_first s he
            have HF := Lib.hid f3
            clear f3
            have hll := first_le s.data.toList
            have hpl : (snS s 1).size ≤ s.size := by rw [size_of f1, HL.out]; exact hll
            have HF1 := Lib.hid f1
            clear f1 hll
            generalize hp : snS s 1 = p at *
            have HK := Lib.hid (keepO (.cells #[.string s] 24) ⟨hcell, hsz, hbel⟩ z1)
            go_wp2_with (first | (go_at_call 6; refine (snippet_sn _ _ _ (by omega) (by omega) (by omega)).mono ?_; rintro e w2 ⟨rfl, rfl⟩) | (at_builtin; refine wpList_append_src _ rfl (.tmp 73) (.tmp 74) 29 9 rfl (B + 1) 5 i0 1 Try.underlying29 hi hz1 (B + 1) 0 s.size _ rfl (hown.alloc _) _ _ _ rfl (Src.ofString _ Try.underlying9 p) (by omega) ?_; intro w3 hown3 hgr3))
            go_roundg (q + 1 - 1)
            case measure => omega
            case rel =>
              have hbd := st_bound HF.out
              rw [← HL.out] at hbd
              obtain ⟨q1, q2, q3⟩ := keepA HK.out.1 HK.out.2.1 HK.out.2.2 z1 hgr3
              exact ⟨1, _, by omega, hbd.2, by omega, rfl, .inr HF.out, by rw [← size_of HF1.out], rfl, ownA HF1.out hown3, q1, q2, q3⟩
          · obtain ⟨r, hr⟩ := st_not_last hst (by rw [HR.out]; exact hlast)
            have hm0 : 0 < m := hst.2.1
            obtain ⟨f1, f2⟩ := sn_more s he hst hr
            obtain ⟨g1', g2', g3'⟩ := st_step hst hr
            have hmore := st_more hst hr
            have hpl : n + 1 + (snS s ((m : Int) + 1)).size ≤ s.size := by rw [size_of f1, HL.out]; exact hmore
            have HF1 := Lib.hid f1
            have HS2 := Lib.hid g2'
            have HT := Lib.hid g3'
            clear f1 g1' g2' g3' hmore hst hr
            generalize hp : snS s ((m : Int) + 1) = p at *
            have hgt : (1 : Int) < (m : Int) + 1 := by omega
            have HK := Lib.hid (keepO (.cells #[.int .u8 10] 5) (keepO (.cells #[.string s] 24) ⟨hcell, hsz, hbel⟩ z1) z1)
            go_wp2_with (first | (go_at_call 6; refine (snippet_sn _ _ _ (by omega) (by omega) (by omega)).mono ?_; rintro e w2 ⟨rfl, rfl⟩) | (at_builtin; refine wpList_append_src _ rfl (.tmp 70) (.tmp 71) 29 29 rfl (B + 1) 5 i0 1 Try.underlying29 hi hz1 (B + 1) n s.size _ rfl ((hown.alloc _).alloc _) _ _ _ rfl (Src.ofSlice _ Try.underlying29 _ 1 1 [.int .u8 10] rfl (one_cell _ _ _ _ (by simp)) (by simp [Value.oneCell'])) (by omega) ?_; intro w3 hown3 hgr3) | (at_builtin; refine wpList_append_src _ rfl (.tmp 73) (.tmp 74) 29 9 rfl (B + 1) 5 i0 1 Try.underlying29 hi hz1 (B + 1) (n + 1) s.size _ rfl hown3 _ _ _ rfl (Src.ofString _ Try.underlying9 p) (by omega) ?_; intro w4 hown4 hgr4))
            go_roundg (q + 1 - (m + 1))
            case measure => omega
            case rel =>
              have hbd := st_bound HS2.out
              rw [← HL.out] at hbd
              obtain ⟨q1, q2, q3⟩ := keepA HK.out.1 HK.out.2.1 HK.out.2.2 z1 hgr3
              obtain ⟨q4, q5, q6⟩ := keepA q1 q2 q3 z1 hgr4
              exact ⟨m + 1, _, by omega, hbd.2, by omega, rfl, .inr HS2.out, by rw [← size_of HF1.out], by go_num, ownB HF1.out HT.out hown4, q4, q5, q6⟩
        · obtain rfl : m = q + 1 := by omega
          have hst' : St s.data.toList (q + 1) n := by
            rcases hst with ⟨h, _⟩ | h
            · omega
            · exact h
          have hr := st_last hst' (by rw [HR.out])
          obtain ⟨f1, f2⟩ := sn_stop s he hst' hr
          obtain ⟨e1, e2, e3⟩ := st_end hst' hr
          have eq1 : (((q + 1 : Nat) : Int) + 1) = 1 + (q : Int) + 1 := by omega
          rw [eq1] at f1 f2
          have ho2 := hown
          rw [e2] at ho2
          have hback0 : (convert 29 9 (.slice (some ⟨B + 1, 0, none⟩) n s.size)).run Try.prog wr.drew = .ok (.string s) wr.drew := string_of_row Try.underlying29 Try.underlying5 Try.underlying9 ho2.drew
          have hback1 : (convert 29 9 (.slice (some ⟨B + 1, 0, none⟩) n s.size)).run Try.prog (wr.alloc (.cells #[.string s] 24)).drew = .ok (.string s) (wr.alloc (.cells #[.string s] 24)).drew := string_of_row Try.underlying29 Try.underlying5 Try.underlying9 (ho2.alloc (.cells #[.string s] 24)).drew
          have HK := Lib.hid (keepO (.cells #[.string s] 24) ⟨hcell, hsz, hbel⟩ z1)
          have hcell2 := HK.out.1
          clear e1 e2 e3 hst hst' hr hown eq1 hlast
          go_wp2_with fail
          go_region_with ((go_at_call 7; refine (string_any _ _).mono ?_; rintro e w2 ⟨rfl, rfl⟩))
          all_goals
            go_wp2_with fail
            refine (snippet_sn _ _ _ (by omega) (by omega) (by omega)).mono ?_
            rintro e w2 ⟨rfl, rfl⟩
            go_wp2_with fail
            go_ret
            exact ⟨rfl, HK.out.2.2.drew.alloc (by have := HK.out.2.1; simp at this ⊢; omega) _⟩

theorem rejoin_walk (s : ByteArray) (w : World) (w0 : s.size ≤ maxLen) : Calls Try.prog 3 #[.string s] w fun e w' => e = .returned (.bool true) ∧ Below w.heap.size w w' := by
  by_cases h : s.size ≤ 1048576
  · have hd : decide (s.size ≤ 1048576) = true := decide_eq_true h
    by_cases h2 : s.size ≤ 4096
    · have g1 : (s.size : Int) ≤ 4096 := by omega
      cases he : s.toList.isEmpty with
      | false => exact rejoin_main s w h2 w0 he
      | true =>
        have hn : s.data.toList = [] := by rw [ByteArray.toList_eq] at he; simpa using he
        obtain ⟨f1, f2⟩ := sn_none (k := 1) (snip_none 1 hn)
        clear hn
        go_enter Try.func3, Try.ntmps3
        go_wp2_with fail
        refine (bytes4 _ _ w0).mono ?_
        rintro e w' ⟨rfl, rfl⟩
        go_wp2_with fail
        refine (newSource_any _ _).mono ?_
        rintro e w1 ⟨rfl, hb1⟩
        have z1 := hb1.size
        go_wp2_with fail
        refine (snippet_sn _ _ _ (by omega) (by omega) (by omega)).mono ?_
        rintro e w2 ⟨rfl, rfl⟩
        go_wp2_with fail
        refine (string_any _ _).mono ?_
        rintro e w2 ⟨rfl, rfl⟩
        go_wp2_with fail
        go_ret
        exact ⟨rfl, ((hb1.alloc z1 _).alloc (by simp; omega) _).alloc (by simp; omega) _⟩
    · have g1 : 4096 < (s.size : Int) := by omega
      go_enter Try.func3, Try.ntmps3
      go_wp2_with fail
      refine (bytes4 _ _ w0).mono ?_
      rintro e w' ⟨rfl, rfl⟩
      go_wp2_with fail
      go_ret
      exact ⟨rfl, Below.refl _ _⟩
  · have hd : decide (s.size ≤ 1048576) = false := decide_eq_false h
    go_enter Try.func3, Try.ntmps3
    go_wp2_with fail
    refine (bytes4 _ _ w0).mono ?_
    rintro e w' ⟨rfl, rfl⟩
    go_wp2_with fail
    go_ret
    exact ⟨rfl, Below.refl _ _⟩
end Go.Proofs.Ytecldoegfjdpnaa
