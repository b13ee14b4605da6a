/-
  The law 'hex round trip', for every uint64 and either case.
-/
import Derived.Test.YtofnemkgaenldaaWalks
import Derived.Laws.BitsAllLaws
import Derived.Deep.LoopGhost
namespace Go.Proofs.Ytofnemkgaenldaa
open Go.RowKit
set_option linter.unusedVariables false

def dg (u : Bool) (d : Nat) : Nat := if d < 10 then 48 + d else if u then 55 + d else 87 + d
def Filled (u : Bool) (N : Nat) (c : Array Value) (j : Nat) : Prop := c.size = 16 ∧ ∀ t, t < j → c[15 - t]? = some (.int .u8 ((dg u (N / 16 ^ t % 16) : Nat) : Int))

theorem dg_lo (d : Nat) (h : d < 16) : ((LO[d]'h).toNat : Int) = ((dg false d : Nat) : Int) := by
  have := lo_at d h
  rw [this]; simp [dg]
theorem dg_up (d : Nat) (h : d < 16) : ((UP[d]'h).toNat : Int) = ((dg true d : Nat) : Int) := by
  have := up_at d h
  rw [this]; simp [dg]
theorem mask15 (M : Nat) (h : M < 18446744073709551616) : bits .and .u64 (M : Int) 15 = ((M % 16 : Nat) : Int) := by
  have := u64_and_nat M 15 h (by omega)
  rw [nat_mask4] at this
  exact this
theorem fill_start (u : Bool) (N : Nat) (x : Value) : Filled u N #[x, x, x, x, x, x, x, x, x, x, x, x, x, x, x, x] 0 := ⟨rfl, fun t h => absurd h (by omega)⟩
theorem fill_step {u : Bool} {N j M D : Nat} {c : Array Value} (h : Filled u N c j) (hj : j < 16) (hM : N / 16 ^ j = M) (hD : M % 16 = D) :
    Filled u N (c.setIfInBounds (15 - j) (.int .u8 ((dg u D : Nat) : Int))) (j + 1) := by
  refine ⟨by simpa using h.1, fun t ht => ?_⟩
  by_cases e : t = j
  · subst e
    rw [Array.getElem?_setIfInBounds, if_pos rfl, if_pos (by rw [h.1]; omega), hM, hD]
  · rw [Array.getElem?_setIfInBounds, if_neg (by omega)]
    exact h.2 t (by omega)
theorem div_step (N j M : Nat) (h : N / 16 ^ j = M) : M / 16 = N / 16 ^ (j + 1) := by
  rw [← h, Nat.div_div_eq_div_mul, Nat.pow_succ]
theorem div_lt {N : Nat} (j : Nat) (h : N < 18446744073709551616) : N / 16 ^ j < 18446744073709551616 := Nat.lt_of_le_of_lt (Nat.div_le_self _ _) h
theorem fill_old {u : Bool} {N j : Nat} {c : Array Value} (h : Filled u N c j) : ∃ v, c[15 - j]? = some v := ⟨_, Array.getElem?_eq_getElem (by rw [h.1]; omega)⟩

theorem dg_bd (u : Bool) (d : Nat) (h : d < 16) : dg u d ≤ 255 := by unfold dg; (repeat' split) <;> omega
theorem dg_hok (u : Bool) (d : Nat) (h : d < 16) : hok (dg u d : Nat) = true := by
  unfold dg hok; cases u <;> simp <;> (repeat' split) <;> omega
theorem dg_hv (u : Bool) (d : Nat) (h : d < 16) : hv (dg u d : Nat) = (d : Int) := by
  unfold dg hv; cases u <;> simp <;> (repeat' split) <;> omega
theorem dg_dv (u : Bool) (d : Nat) (h : d < 16) : dv (dg u d : Nat) = (d : Int) := by
  unfold dv; rw [dg_hok u d h, if_pos rfl, dg_hv u d h]
theorem fill_at {u : Bool} {N : Nat} {c : Array Value} (h : Filled u N c 16) (k : Nat) (hk : k < 16) : c[k]? = some (.int .u8 ((dg u (N / 16 ^ (15 - k) % 16) : Nat) : Int)) := by
  have := h.2 (15 - k) (by omega)
  rwa [show 15 - (15 - k) = k by omega] at this
theorem div_back (N k : Nat) (hk : k < 16) : N / 16 ^ (16 - (k + 1)) = N / 16 ^ (16 - k) * 16 + N / 16 ^ (15 - k) % 16 := by
  have e : 16 - k = 15 - k + 1 := by omega
  rw [e, Nat.pow_succ, ← Nat.div_div_eq_div_mul, show 16 - (k + 1) = 15 - k by omega]
  omega
theorem top_lt {N : Nat} (h : N < 18446744073709551616) (k : Nat) (hk : k < 16) : N / 16 ^ (16 - k) < 1152921504606846976 := by
  have h1 : N / 16 ^ (16 - k) ≤ N / 16 ^ 1 := Nat.div_le_div_left (Nat.pow_le_pow_right (by omega) (by omega)) (by omega)
  omega

theorem start_zero {N : Nat} (h : N < 18446744073709551616) : N / 16 ^ (16 - 0) = 0 := Nat.div_eq_of_lt (by simpa using h)

theorem or_join (A D : Nat) (hA : A < 1152921504606846976) (hD : D < 16) : bits .or .u64 ((A : Int) * 16) (D : Int) = ((A * 16 + D : Nat) : Int) := by
  have h := u64_or_nat (A * 16) D (by omega) (by omega)
  rw [nat_join 4 (A * 16) D (by omega) (by omega)] at h
  rw [← h]
  congr 1

theorem round_nat (N : Nat) (u : Bool) (w : World) (w0 : N < 18446744073709551616) :
    Calls Try.prog 5 #[.int .u64 N, .bool u] w fun e w' => e = .returned (.bool true) ∧ Below w.heap.size w w' := by
  have hN := div_lt (N := N)
  have HN := Lib.hid hN
  clear hN
  go_enter Try.func5, Try.ntmps5
  go_wp2
  go_loopw [6, 7] (fun m i wr => ∃ (j : Nat) (c : Array Value), j ≤ 16 ∧ i = .int .i64 (15 - (j : Int)) ∧ m = .int .u64 ((N / 16 ^ j : Nat) : Int) ∧ wr = w.alloc (.cells c 30) ∧ Filled u N c j) (fun _ i _ => (intOf i + 1).toNat)
  case atStart => exact ⟨0, _, by omega, rfl, by simp, rfl, fill_start _ _ _⟩
  case round =>
    obtain ⟨j, c, hj, rfl, rfl, rfl, hc⟩ := hrel
    by_cases hlt : j < 16
    · obtain ⟨vo, hvo⟩ := fill_old hc
      have hMlt := HN.out j w0
      have hds := div_step N j _ rfl
      have hst := fun D => fill_step (M := N / 16 ^ j) (D := D) hc hlt rfl
      generalize N / 16 ^ j = M at *
      have hm := mask15 M hMlt
      generalize hD : M % 16 = D at *
      have hDl : D < 16 := by omega
      have HST := Lib.hid (hst D rfl)
      have HDS := Lib.hid hds
      have C := Lib.hid hc
      clear hc hst hds hD
      cases u
      · have hl := dg_lo D hDl
        go_wp2
        go_roundw
        case rel => exact ⟨j + 1, _, by omega, by go_num, by rw [← HDS.out]; go_num, rfl, HST.out⟩
        case measure => simp [intOf]; omega
      · have hl := dg_up D hDl
        go_wp2
        go_roundw
        case rel => exact ⟨j + 1, _, by omega, by go_num, by rw [← HDS.out]; go_num, rfl, HST.out⟩
        case measure => simp [intOf]; omega
    · obtain rfl : j = 16 := by omega
      have C := Lib.hid hc
      clear hc
      have START := Lib.hid (start_zero w0)
      go_wp2
      go_loopg [9, 10, 11] 16 (fun g a b i wr => ∃ k : Nat, k ≤ 16 ∧ g = 16 - k ∧ wr = w.alloc (.cells c 30) ∧ i = .int .i64 k ∧ a = .int .u64 ((N / 16 ^ (16 - k) : Nat) : Int) ∧ b = .int .u64 ((N / 16 ^ (16 - k) : Nat) : Int))
      case atStart => exact ⟨0, by omega, rfl, rfl, rfl, by rw [START.out]; rfl, by rw [START.out]; rfl⟩
      case round =>
        obtain ⟨k, hk, rfl, rfl, rfl, rfl, rfl⟩ := hrel
        by_cases hlt : k < 16
        · have hcell := fill_at C.out k hlt
          have hdb := div_back N k hlt
          have htl := top_lt w0 k hlt
          have hDl : N / 16 ^ (15 - k) % 16 < 16 := by omega
          generalize N / 16 ^ (15 - k) % 16 = D at *
          generalize N / 16 ^ (16 - k) = A at *
          have g1 := dg_bd u D hDl
          have g2 := dg_hok u D hDl
          have g3 := dg_hv u D hDl
          have g4 := dg_dv u D hDl
          generalize dg u D = G at *
          have HDB := Lib.hid hdb
          clear hdb
          go_wp2_with (first | (go_at_call 6; refine (unhex_any _ _ (by omega) (by omega)).mono ?_; rintro e w' ⟨rfl, rfl⟩) | (go_at_call 8; refine (digitVal_any _ _ (by omega) (by omega)).mono ?_; rintro e w' ⟨rfl, rfl⟩))
          go_roundg (16 - (k + 1))
          case measure => omega
          case rel =>
            exact ⟨k + 1, by omega, rfl, rfl, by go_num, by rw [HDB.out, or_join A D htl hDl], by rw [HDB.out, or_join A D htl hDl]⟩
        · obtain rfl : k = 16 := by omega
          go_wp2
          go_ret
          exact ⟨rfl, (Below.refl _ _).alloc (Nat.le_refl _) _⟩

theorem round_walk (n : Int) (u : Bool) (w : World) (w0 : (Lit.int .u64 n).wf = true) :
    Calls Try.prog 5 #[.int .u64 n, .bool u] w fun e w' => e = .returned (.bool true) ∧ Below w.heap.size w w' := by
  have hb : 0 ≤ n ∧ n ≤ 18446744073709551615 := by simpa [Lit.wf, IntKind.min, IntKind.max, IntKind.signed, IntKind.bits] using w0
  obtain ⟨N, rfl⟩ := Int.eq_ofNat_of_zero_le hb.1
  exact round_nat N u w (by omega)
end Go.Proofs.Ytofnemkgaenldaa
