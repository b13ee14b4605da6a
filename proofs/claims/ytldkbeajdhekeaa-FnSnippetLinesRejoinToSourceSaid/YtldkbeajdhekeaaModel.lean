/-
  The contract of the law's own one-pass line model.
-/
import Derived.Test.YtldkbeajdhekeaaBase
namespace Go.Proofs.Ytldkbeajdhekeaa
open Go.RowKit
set_option linter.unusedVariables false

def Modelled (s : ByteArray) (k : Int) (w : World) (e : Ending) (w' : World) : Prop := e = .returned (.tuple #[.string ⟨((snip s.data.toList k).getD []).toArray⟩, .bool (snip s.data.toList k).isSome]) ∧ w = w'
theorem byte_eq (s : ByteArray) (n : Nat) (h : n < s.size) (h' : n < s.data.toList.length) : (((s[n]'h).toNat : Int) == 10) = (s.data.toList[n] == 10) := by
  have e : s.data.toList[n] = s[n]'h := by simp; rfl
  rw [e, Bool.eq_iff_iff]
  simp [← UInt8.toNat_inj]
  omega
theorem model_empty (s : ByteArray) (k : Int) (w : World) (hs : s.toList.isEmpty = true) :
    Calls Try.prog 9 #[.string s, .int .i64 k] w (Modelled s k w) := by
  have hn : s.data.toList = [] := by rw [ByteArray.toList_eq] at hs; simpa using hs
  have R := Lib.hid (snip_none k hn)
  clear hn
  go_enter Try.func9, Try.ntmps9
  go_wp2_with fail
  go_ret2
  exact ⟨ret_sb (by rw [R.out]; rfl) (by rw [R.out]; rfl), rfl⟩

theorem model_low (s : ByteArray) (k : Int) (w : World) (hs : s.size ≤ 4194304) (he : s.toList.isEmpty = false) (hk : k < 1) :
    Calls Try.prog 9 #[.string s, .int .i64 k] w (Modelled s k w) := by
  have hn : s.data.toList ≠ [] := by rw [ByteArray.toList_eq] at he; simpa using he
  have R := Lib.hid (snip_some k hn)
  have HT : Hid ((k - 1).toNat = 0) := by rw [show (k - 1).toNat = 0 by omega]; exact Lib.hid rfl
  rw [HT.out] at R
  have HL := Lib.hid (Lib.size_eq s)
  have HB := Lib.hid (byte_eq s)
  have hk1 : k < 1 := hk
  clear hn HT
  go_enter Try.func9, Try.ntmps9
  go_wp2_with fail
  go_loopg [7, 8, 9] (s.size + 1) (fun g ln st i wr => ∃ (c a n : Nat), n ≤ s.size + 1 ∧ a ≤ s.size + 1 ∧ c ≤ n ∧ g = s.size + 1 - n ∧ w = wr ∧ ln = .int .i64 (1 + (c : Int)) ∧ st = .int .i64 a ∧ i = .int .i64 n ∧ ((n ≤ s.size ∧ Scan s.data.toList 0 c a n) ∨ (n = s.size + 1 ∧ lineAt 0 s.data.toList = none)))
  case atStart => exact ⟨0, 0, 0, by omega, by omega, by omega, rfl, rfl, rfl, rfl, rfl, .inl ⟨by omega, scan_start _ _⟩⟩
  case round =>
    obtain ⟨c, a, n, hn, ha, hcn, rfl, rfl, rfl, rfl, rfl, hinv⟩ := hrel
    have HI := Lib.hid hinv
    clear hinv
    by_cases hlt : n ≤ s.size
    · have hsc : Scan s.data.toList 0 c a n := by rcases HI.out with h | h; exact h.2; omega
      have han : a ≤ n := hsc.2.1
      have hcT : c ≤ 0 := hsc.1
      have hlen : n ≤ s.data.toList.length := hsc.2.2.1
      have HS := Lib.hid hsc
      have HLE := Lib.hid hlen
      clear hsc hlen
      by_cases hend : n = s.size
      · have b1 : ((n : Int) == (s.size : Int)) = true := by simp [hend]
        by_cases hct : c = 0
        · have HR : Hid (snip s.data.toList k = some ((s.data.toList.drop a).take (n - a))) := by
            rw [R.out, scan_line HS.out hct (.inl (by rw [hend]; exact HL.out))]
            exact Lib.hid rfl
          have b2 : ((1 : Int) + (c : Int) == 1) = true := by simp; omega
          clear hend hct
          go_wp2_with fail
          go_ret2
          exact ⟨ret_sb (by rw [HR.out]; exact ba_ext (Lib.extract_data s a n)) (by rw [HR.out]; rfl), rfl⟩
        · have HR : Hid (lineAt 0 s.data.toList = none) := Lib.hid (scan_end HS.out (by omega) (by rw [hend]; exact HL.out))
          have b2 : ((1 : Int) + (c : Int) == 1) = false := by simp; omega
          have HE := Lib.hid hend
          clear hend hct
          go_wp2_with fail
          go_roundg (s.size + 1 - (n + 1))
          case measure => omega
          case rel => exact ⟨c + 1, n + 1, n + 1, by omega, by omega, by omega, rfl, rfl, by go_num, by go_num, by go_num, .inr ⟨by have := HE.out; omega, HR.out⟩⟩
      · have hlt2 : n < s.size := by omega
        have b1 : ((n : Int) == (s.size : Int)) = false := by simp; omega
        have hll : n < s.data.toList.length := by have := HL.out; omega
        have hb := HB.out n hlt2 hll
        cases hq : (((s[n]'hlt2).toNat : Int) == 10) with
        | true =>
          rw [hq] at hb
          by_cases hct : c = 0
          · have HR : Hid (snip s.data.toList k = some ((s.data.toList.drop a).take (n - a))) := by
              rw [R.out, scan_line HS.out hct (.inr ⟨hll, hb.symm⟩)]
              exact Lib.hid rfl
            have b2 : ((1 : Int) + (c : Int) == 1) = true := by simp; omega
            clear hct hb hend hll
            go_wp2_with fail
            go_ret2
            exact ⟨ret_sb (by rw [HR.out]; exact ba_ext (Lib.extract_data s a n)) (by rw [HR.out]; rfl), rfl⟩
          · have HR := Lib.hid (scan_next HS.out (by omega) hll hb.symm)
            have b2 : ((1 : Int) + (c : Int) == 1) = false := by simp; omega
            clear hct hb hend hll
            go_wp2_with fail
            go_roundg (s.size + 1 - (n + 1))
            case measure => omega
            case rel => exact ⟨c + 1, n + 1, n + 1, by omega, by omega, by omega, rfl, rfl, by go_num, by go_num, by go_num, .inl ⟨by omega, HR.out⟩⟩
        | false =>
          rw [hq] at hb
          have HR := Lib.hid (scan_skip HS.out hll hb.symm)
          clear hb hend hll
          go_wp2_with fail
          go_roundg (s.size + 1 - (n + 1))
          case measure => omega
          case rel => exact ⟨c, a, n + 1, by omega, by omega, by omega, rfl, rfl, rfl, rfl, by go_num, .inl ⟨by omega, HR.out⟩⟩
    · have HR : Hid (lineAt 0 s.data.toList = none) := by rcases HI.out with h | h; omega; exact Lib.hid h.2
      rw [← R.out] at HR
      go_wp2_with fail
      go_ret2
      exact ⟨ret_sb (by rw [HR.out]; rfl) (by rw [HR.out]; rfl), rfl⟩

theorem model_high (s : ByteArray) (T : Nat) (w : World) (hs : s.size ≤ 4194304) (he : s.toList.isEmpty = false) (hT : 1 + (T : Int) ≤ 9223372036854775807) :
    Calls Try.prog 9 #[.string s, .int .i64 (1 + (T : Int))] w (Modelled s (1 + (T : Int)) w) := by
  have hn : s.data.toList ≠ [] := by rw [ByteArray.toList_eq] at he; simpa using he
  have R := Lib.hid (snip_some (1 + (T : Int)) hn)
  have HT : Hid (((1 + (T : Int)) - 1).toNat = T) := by rw [show (1 + (T : Int) - 1).toNat = T by omega]; exact Lib.hid rfl
  rw [HT.out] at R
  have HL := Lib.hid (Lib.size_eq s)
  have HB := Lib.hid (byte_eq s)
  have hk1 : ¬ (1 + (T : Int) < 1) := by omega
  clear hn HT
  go_enter Try.func9, Try.ntmps9
  go_wp2_with fail
  go_loopg [7, 8, 9] (s.size + 1) (fun g ln st i wr => ∃ (c a n : Nat), n ≤ s.size + 1 ∧ a ≤ s.size + 1 ∧ c ≤ n ∧ g = s.size + 1 - n ∧ w = wr ∧ ln = .int .i64 (1 + (c : Int)) ∧ st = .int .i64 a ∧ i = .int .i64 n ∧ ((n ≤ s.size ∧ Scan s.data.toList T c a n) ∨ (n = s.size + 1 ∧ lineAt T s.data.toList = none)))
  case atStart => exact ⟨0, 0, 0, by omega, by omega, by omega, rfl, rfl, rfl, rfl, rfl, .inl ⟨by omega, scan_start _ _⟩⟩
  case round =>
    obtain ⟨c, a, n, hn, ha, hcn, rfl, rfl, rfl, rfl, rfl, hinv⟩ := hrel
    have HI := Lib.hid hinv
    clear hinv
    by_cases hlt : n ≤ s.size
    · have hsc : Scan s.data.toList T c a n := by rcases HI.out with h | h; exact h.2; omega
      have han : a ≤ n := hsc.2.1
      have hcT : c ≤ T := hsc.1
      have hlen : n ≤ s.data.toList.length := hsc.2.2.1
      have HS := Lib.hid hsc
      have HLE := Lib.hid hlen
      clear hsc hlen
      by_cases hend : n = s.size
      · have b1 : ((n : Int) == (s.size : Int)) = true := by simp [hend]
        by_cases hct : c = T
        · have HR : Hid (snip s.data.toList (1 + (T : Int)) = some ((s.data.toList.drop a).take (n - a))) := by
            rw [R.out, scan_line HS.out hct (.inl (by rw [hend]; exact HL.out))]
            exact Lib.hid rfl
          have b2 : ((1 : Int) + (c : Int) == 1 + (T : Int)) = true := by simp; omega
          clear hend hct
          go_wp2_with fail
          go_ret2
          exact ⟨ret_sb (by rw [HR.out]; exact ba_ext (Lib.extract_data s a n)) (by rw [HR.out]; rfl), rfl⟩
        · have HR : Hid (lineAt T s.data.toList = none) := Lib.hid (scan_end HS.out (by omega) (by rw [hend]; exact HL.out))
          have b2 : ((1 : Int) + (c : Int) == 1 + (T : Int)) = false := by simp; omega
          have HE := Lib.hid hend
          clear hend hct
          go_wp2_with fail
          go_roundg (s.size + 1 - (n + 1))
          case measure => omega
          case rel => exact ⟨c + 1, n + 1, n + 1, by omega, by omega, by omega, rfl, rfl, by go_num, by go_num, by go_num, .inr ⟨by have := HE.out; omega, HR.out⟩⟩
      · have hlt2 : n < s.size := by omega
        have b1 : ((n : Int) == (s.size : Int)) = false := by simp; omega
        have hll : n < s.data.toList.length := by have := HL.out; omega
        have hb := HB.out n hlt2 hll
        cases hq : (((s[n]'hlt2).toNat : Int) == 10) with
        | true =>
          rw [hq] at hb
          by_cases hct : c = T
          · have HR : Hid (snip s.data.toList (1 + (T : Int)) = some ((s.data.toList.drop a).take (n - a))) := by
              rw [R.out, scan_line HS.out hct (.inr ⟨hll, hb.symm⟩)]
              exact Lib.hid rfl
            have b2 : ((1 : Int) + (c : Int) == 1 + (T : Int)) = true := by simp; omega
            clear hct hb hend hll
            go_wp2_with fail
            go_ret2
            exact ⟨ret_sb (by rw [HR.out]; exact ba_ext (Lib.extract_data s a n)) (by rw [HR.out]; rfl), rfl⟩
          · have HR := Lib.hid (scan_next HS.out (by omega) hll hb.symm)
            have b2 : ((1 : Int) + (c : Int) == 1 + (T : Int)) = false := by simp; omega
            clear hct hb hend hll
            go_wp2_with fail
            go_roundg (s.size + 1 - (n + 1))
            case measure => omega
            case rel => exact ⟨c + 1, n + 1, n + 1, by omega, by omega, by omega, rfl, rfl, by go_num, by go_num, by go_num, .inl ⟨by omega, HR.out⟩⟩
        | false =>
          rw [hq] at hb
          have HR := Lib.hid (scan_skip HS.out hll hb.symm)
          clear hb hend hll
          go_wp2_with fail
          go_roundg (s.size + 1 - (n + 1))
          case measure => omega
          case rel => exact ⟨c, a, n + 1, by omega, by omega, by omega, rfl, rfl, rfl, rfl, by go_num, .inl ⟨by omega, HR.out⟩⟩
    · have HR : Hid (lineAt T s.data.toList = none) := by rcases HI.out with h | h; omega; exact Lib.hid h.2
      rw [← R.out] at HR
      go_wp2_with fail
      go_ret2
      exact ⟨ret_sb (by rw [HR.out]; rfl) (by rw [HR.out]; rfl), rfl⟩

theorem model_any (s : ByteArray) (k : Int) (w : World) (hs : s.size ≤ 4194304) (h2 : k ≤ 9223372036854775807) :
    Calls Try.prog 9 #[.string s, .int .i64 k] w (Modelled s k w) := by
  cases he : s.toList.isEmpty with
  | true => exact model_empty s k w he
  | false =>
    by_cases hk : k < 1
    · exact model_low s k w hs he hk
    · obtain ⟨T, hT⟩ : ∃ T : Nat, k = 1 + (T : Int) := ⟨(k - 1).toNat, by omega⟩
      subst hT
      exact model_high s T w hs he h2
end Go.Proofs.Ytldkbeajdhekeaa
