/-
  Contracts of strings.IndexByte and of (Source).Snippet.
-/
import Derived.Test.YtecldoegfjdpnaaRows
import Derived.Test.YtecldoegfjdpnaaPlain
import Derived.WalkKit
import Derived.Lib.Hide
import Derived.Outline
import Derived.WalkSpells
import Derived.WalkLawsBesides
import Derived.WalkSmall
import Derived.Deep.LoopGhost
namespace Go.Proofs.Ytecldoegfjdpnaa
open Go.RowKit
set_option linter.unusedVariables false

def ixb (s : ByteArray) : Int := Lib.indexByte s.data.toList 10
theorem indexByte_any (s : ByteArray) (w : World) : Calls Try.prog 8 #[.string s, .int .u8 10] w fun e w' => e = .returned (.int .i64 (ixb s)) ∧ w = w' := by
  go_enter Try.func8, Try.ntmps8
  go_wp2
  rw [run_callFunc_extern Try.func10 (by kernel_rfl) (by kernel_rfl) (by kernel_rfl) (e := Extern.BytealgIndexByte.indexByte) (by kernel_rfl), Lib.run_indexByteString]
  simp only [Result.andThen]
  rw [Oper.upon_value]
  go_wp2
  go_ret
  exact ⟨rfl, rfl⟩
theorem ret_sb {x y : ByteArray} {a b : Bool} (h : x = y) (h' : a = b) : Ending.returned (.tuple #[.string x, .bool a]) = .returned (.tuple #[.string y, .bool b]) := by rw [h, h']
def Snipped (s : ByteArray) (k : Int) (w : World) (e : Ending) (w' : World) : Prop := e = .returned (.tuple #[.string ⟨((snip s.data.toList k).getD []).toArray⟩, .bool (snip s.data.toList k).isSome]) ∧ w.alloc (.cells #[.string s] 24) = w'

theorem snippet_empty (s : ByteArray) (k : Int) (w : World) (hs : s.toList.isEmpty = true) :
    Calls Try.prog 6 #[.agg #[.string s], .int .i64 k] w (Snipped s k w) := by
  have hn : s.data.toList = [] := by rw [ByteArray.toList_eq] at hs; simpa using hs
  have R := Lib.hid (snip_none k hn)
  clear hn
  go_enter Try.func6, Try.ntmps6
  go_wp2_with fail
  go_ret2
  exact ⟨ret_sb (by rw [R.out]; rfl) (by rw [R.out]; rfl), rfl⟩

theorem snippet_some (s : ByteArray) (k : Int) (w : World) (hs : s.size ≤ 4194304) (he : s.toList.isEmpty = false) (h1 : -9223372036854775808 ≤ k) (h2 : k ≤ 9223372036854775807) :
    Calls Try.prog 6 #[.agg #[.string s], .int .i64 k] w (Snipped s k w) := by
  have hn : s.data.toList ≠ [] := by rw [ByteArray.toList_eq] at he; simpa using he
  have hlen := Lib.size_eq s
  have R := Lib.hid (snip_some k hn)
  have HL := Lib.hid hlen
  clear hn hlen
  go_enter Try.func6, Try.ntmps6
  go_wp2_with fail
  go_loopg [6, 7] s.size (fun g st i wr => ∃ (n j : Nat), n ≤ s.size ∧ j ≤ (k - 1).toNat ∧ g = s.size - n ∧ w.alloc (.cells #[.string s] 24) = wr ∧ st = .int .i64 n ∧ i = .int .i64 (1 + (j : Int)) ∧ lineAt ((k - 1).toNat - j) (s.data.toList.drop n) = lineAt (k - 1).toNat s.data.toList)
  case atStart => exact ⟨0, 0, by omega, by omega, rfl, rfl, rfl, rfl, rfl⟩
  case round =>
    obtain ⟨n, j, hn, hj, rfl, rfl, rfl, rfl, hline⟩ := hrel
    have HLN := Lib.hid hline
    clear hline
    have hex : ixb (s.extract n s.size) = Lib.indexByte (s.data.toList.drop n) 10 := by unfold ixb; rw [Lib.extract_to_end]
    by_cases hlt : j < (k - 1).toNat
    · have hlt' : 1 + (j : Int) < k := by omega
      by_cases hi : ixb (s.extract n s.size) < 0
      · have hi' := hi
        rw [hex] at hi'
        obtain ⟨q1, q2⟩ := idx_none hi'
        have R2 : Hid (snip s.data.toList k = none) := by
          rw [R.out, ← HLN.out, show (k - 1).toNat - j = ((k - 1).toNat - j - 1) + 1 by omega, line_succ, q1]
          rfl
        clear q1 q2 hex hi'
        go_wp2_with (go_at_call 8; refine (indexByte_any _ _).mono ?_; rintro e w' ⟨rfl, rfl⟩)
        go_ret2
        exact ⟨ret_sb (by rw [R2.out]; rfl) (by rw [R2.out]; rfl), rfl⟩
      · obtain ⟨i, hii⟩ := Int.eq_ofNat_of_zero_le (show 0 ≤ ixb (s.extract n s.size) by omega)
        obtain ⟨q1, q2, q3⟩ := idx_some (hex.symm.trans hii)
        have q4 : n + (i + 1) ≤ s.size := by rw [HL.out]; rw [List.length_drop] at q3; omega
        have R3 : Hid (lineAt ((k - 1).toNat - (j + 1)) (s.data.toList.drop (n + (i + 1))) = lineAt (k - 1).toNat s.data.toList) := by
          rw [← HLN.out, show (k - 1).toNat - j = ((k - 1).toNat - (j + 1)) + 1 by omega, line_succ, q1, List.drop_drop]
          rfl
        clear q1 q2 q3 hi hex
        go_wp2_with (go_at_call 8; refine (indexByte_any _ _).mono ?_; rintro e w' ⟨rfl, rfl⟩)
        go_roundg (s.size - (n + (i + 1)))
        case measure => omega
        case rel => exact ⟨n + (i + 1), j + 1, q4, by omega, rfl, rfl, by go_num, by go_num, R3.out⟩
    · have hlt' : k ≤ 1 + (j : Int) := by omega
      have HZ : Hid (snip s.data.toList k = some (first (s.data.toList.drop n))) := by
        rw [R.out, ← HLN.out, show (k - 1).toNat - j = 0 by omega, line_zero]
        exact Lib.hid rfl
      by_cases hi : ixb (s.extract n s.size) < 0
      · have hi' := hi
        rw [hex] at hi'
        obtain ⟨q1, q2⟩ := idx_none hi'
        rw [q2] at HZ
        have hge : ixb (s.extract n s.size) = -1 := by
          have := Lib.indexByte_ge (s.data.toList.drop n) 10
          omega
        clear q1 q2 hex hi' hi
        go_wp2_with (go_at_call 8; refine (indexByte_any _ _).mono ?_; rintro e w' ⟨rfl, rfl⟩)
        go_ret2
        exact ⟨ret_sb (by rw [HZ.out]; exact ba_ext (Lib.extract_to_end s n)) (by rw [HZ.out]; rfl), rfl⟩
      · obtain ⟨i, hii⟩ := Int.eq_ofNat_of_zero_le (show 0 ≤ ixb (s.extract n s.size) by omega)
        obtain ⟨q1, q2, q3⟩ := idx_some (hex.symm.trans hii)
        have q4 : n + (i + 1) ≤ s.size := by rw [HL.out]; rw [List.length_drop] at q3; omega
        rw [q2] at HZ
        clear q1 q2 q3 hi hex
        go_wp2_with (go_at_call 8; refine (indexByte_any _ _).mono ?_; rintro e w' ⟨rfl, rfl⟩)
        go_ret2
        exact ⟨ret_sb (by rw [HZ.out]; exact ba_ext (by rw [Lib.extract_data]; simp)) (by rw [HZ.out]; rfl), rfl⟩

theorem snippet_any (s : ByteArray) (k : Int) (w : World) (hs : s.size ≤ 4194304) (h1 : -9223372036854775808 ≤ k) (h2 : k ≤ 9223372036854775807) :
    Calls Try.prog 6 #[.agg #[.string s], .int .i64 k] w (Snipped s k w) := by
  cases he : s.toList.isEmpty with
  | true => exact snippet_empty s k w he
  | false => exact snippet_some s k w hs he h1 h2
end Go.Proofs.Ytecldoegfjdpnaa
