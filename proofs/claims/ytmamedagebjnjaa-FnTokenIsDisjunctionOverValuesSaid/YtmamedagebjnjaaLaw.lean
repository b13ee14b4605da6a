/-
  The law 'Is over a list is the OR over its values, whatever the order', for every token and every list.
-/
import Derived.Test.YtmamedagebjnjaaPlain
import Derived.Deep.RegionWith
import Derived.Deep.RegionHeld3
import Derived.Deep.DrawnRows
namespace Go.Proofs.Ytmamedagebjnjaa
open Go.RowKit
set_option linter.unusedVariables false

set_option maxHeartbeats 1000000 in
set_option maxRecDepth 100000 in
theorem main_some (k tk tv : ByteArray) (x : Addr) (n cap : Nat) (rot : Int) (xs : List ByteArray) (w : World) (hn : xs.length = n) (hn2 : n ≤ 9223372036854775807) (hpos : 0 < n) (hr : SRead w (some x) xs) (hrot : 0 ≤ rot ∧ rot ≤ 65535) :
    Calls Try.prog 3 #[.string k, .string tk, .string tv, .slice (some x) n cap, .int .u16 rot] w fun e w' => e = .returned (.bool true) ∧ Below w.heap.size w w' := by
  have HN := Lib.hid hn
  have HR := Lib.hid hr
  clear hn hr
  go_enter Try.func3, Try.ntmps3
  go_wp2_with fail
  refine (zbytes_any _ _ _ _ _ _ _ xs _ HN.out hn2 HR.out).mono ?_
  rintro e w' ⟨b1, _, rfl, rfl⟩
  cases b1 with
  | false =>
    go_wp2_with fail
    go_ret
    exact ⟨rfl, Below.refl _ _⟩
  | true =>
    go_wp2_with fail
    refine (tooBig_any _ _ _ _ _ _ xs _ HN.out hn2 HR.out).mono ?_
    rintro e w' ⟨b2, hb2, rfl, rfl⟩
    cases b2 with
    | true =>
      go_wp2_with fail
      go_ret
      exact ⟨rfl, Below.refl _ _⟩
    | false =>
      have hn3 : n ≤ 65536 := hb2 rfl
      clear hb2
      have hn0 : ((n : Int) == 0) = false := by simp; omega
      go_wp2_with fail
      refine (clone_some _ _ _ xs _ HN.out hn3 HR.out).mono ?_
      rintro e w' ⟨rfl, rfl⟩
      go_wp2_with fail
      obtain ⟨all, hall⟩ : ∃ all, isT tk tv k xs = all := ⟨_, rfl⟩
      obtain ⟨bare, hbare⟩ : ∃ bare, isT tk tv k [] = bare := ⟨_, rfl⟩
      have HA := Lib.hid hall
      have HBa := Lib.hid hbare
      have hab : (all && !bare) = false := by rw [← hall, ← hbare]; exact bare_le
      clear hall hbare
      have I0 : Inv w w.heap.size xs tk tv ((w.alloc (.cells (strCells xs) 9)).alloc (.cells #[.int .i64 0, .int .i64 0, .string tk, .string tv] 31)) := by
        refine ⟨?_, ?_, by simp, ((Below.refl _ _).alloc (Nat.le_refl _) _).alloc (by simp) _, Nat.le_refl _⟩
        · rw [Below.heap_alloc _ _ _ (by simp)]; exact heap_alloc_new w _
        · have e : (w.alloc (.cells (strCells xs) 9)).heap.size = w.heap.size + 1 := by simp
          rw [← e]; exact heap_alloc_new _ _
      refine (is_any tk tv k _ n n xs _ HN.out (by omega) I0.read).mono ?_
      rintro e w' ⟨rfl, rfl⟩
      rw [HA.out]
      have I1 := I0.alloc (.cells #[.int .i64 0, .int .i64 0, .string tk, .string tv] 31)
      go_wp2_with fail
      refine (is_any tk tv k _ 0 0 [] _ rfl (by omega) (sread_nil _ _)).mono ?_
      rintro e w' ⟨rfl, rfl⟩
      rw [HBa.out]
      have I2 := Lib.hid (I1.alloc (.cells #[.int .i64 0, .int .i64 0, .string tk, .string tv] 31))
      clear I0 I1
      generalize hB : w.heap.size = B at *
      have HB0 := Lib.hid hB
      clear hB
      go_wp2_with fail
      go_loopg [16, 17] n (fun g sm i wr => ∃ j : Nat, j ≤ n ∧ g = n - j ∧ Inv w B xs tk tv wr ∧ i = .int .i64 j ∧ sm = .bool ((xs.take j).any fun x => isT tk tv k [x]))
      case atStart => exact ⟨0, by omega, rfl, I2.out, rfl, rfl⟩
      case round =>
        obtain ⟨j, hj, rfl, hI, rfl, rfl⟩ := hrel
        obtain ⟨HI⟩ : Nonempty (Hid (Inv w B xs tk tv wr)) := ⟨Lib.hid hI⟩
        by_cases hlt : j < n
        · have hjl : j < xs.length := by have := HN.out; omega
          have hc := hI.cell hjl
          obtain ⟨t0, t1, t2, t3⟩ := hI.t0
          have hsz := hI.size
          have HS := Lib.hid (some_step (tk := tk) (tv := tv) (k := k) hjl)
          clear hI
          have i0 : (0 : Int) ≤ (j : Int) := by omega
          have i1 : (j : Int) < (n : Int) := by omega
          have FIN : ∀ q, isT tk tv k [xs[j]] = q → ((xs.take (j + 1)).any fun x => isT tk tv k [x]) = (((xs.take j).any fun x => isT tk tv k [x]) || q) := fun q hq => by rw [HS.out, hq]
          have HFIN := Lib.hid FIN
          clear FIN HS
          generalize hm : ((xs.take j).any fun x => isT tk tv k [x]) = sm at *
          clear hm
          cases hq : isT tk tv k [xs[j]]
          all_goals
            have HQ := Lib.hid (HFIN.out _ hq)
            go_wp2_with fail
            go_region_held3 (fun W => W.cell? ⟨B, j, none⟩ = some (.string xs[j]) ∧ W.cell? ⟨B + 1, 0, none⟩ = some (.int .i64 0) ∧ W.cell? ⟨B + 1, 1, none⟩ = some (.int .i64 0) ∧ W.cell? ⟨B + 1, 1 + 1, none⟩ = some (.string tk) ∧ W.cell? ⟨B + 1, 1 + 1 + 1, none⟩ = some (.string tv)) (go_keep) (first | (go_at_call 7; refine (is_any tk tv k _ 1 1 [xs[j]] _ rfl (by omega) ?_).mono ?_; exact sread_one _ _ _ (by simp); rintro e w' ⟨rfl, rfl⟩))
            go_wp2_with fail
            go_roundg (n - (j + 1))
            case measure => omega
            case rel =>
              refine ⟨j + 1, by omega, rfl, ?_, by go_num, by rw [HQ.out]; simp⟩
              repeat (first | exact HI.out | refine Inv.drew ?_ | refine Inv.alloc ?_ _)
        · obtain rfl : n = j := by omega
          have HS : Hid ((xs.take n).any (fun x => isT tk tv k [x]) = all) := by
            rw [List.take_of_length_le (by rw [HN.out]; exact Nat.le_refl _), some_all (by intro h; rw [h] at HN; have := HN.out; simp at this; omega)]
            exact HA
          rw [HS.out]
          clear HS hj hlt
          have hmk := fun W => run_make_row' (P := Try.prog) 22 9 (.string ⟨#[]⟩) 16 Try.underlying22 Try.info9 rfl .i64 .i64 n (by omega) (by omega) W
          have hsz := hI.size
          clear hI
          go_wp2_with fail
          obtain ⟨wo, rfl⟩ : ∃ wo : World, wo = wr := ⟨_, rfl⟩
          go_loopg [19] n (fun g i wr => ∃ (j : Nat) (C : Array Value), j ≤ n ∧ g = n - j ∧ wo.alloc (.cells C 9) = wr ∧ i = .int .i64 j ∧ RevPart C xs n j)
          case atStart => exact ⟨0, _, by omega, rfl, rfl, rfl, rev_start _ _ _⟩
          case round =>
            obtain ⟨j, C, hj, rfl, rfl, rfl, hp⟩ := hrel
            have HP := Lib.hid hp
            clear hp
            by_cases hlt : j < n
            · have hjl : j < xs.length := by have := HN.out; omega
              have hc := HI.out.cell hjl
              have hc2 : ∀ o, (wo.alloc o).cell? ⟨B, j, none⟩ = some (.string xs[j]) := fun o => by rw [World.cell?_alloc_lt _ _ _ (by simp; omega)]; exact hc
              obtain ⟨vo, hvo⟩ := rev_old HP.out hlt
              have H1 := Lib.hid (rev_step HP.out hjl HN.out)
              go_wp2_with fail
              go_roundg (n - (j + 1))
              case measure => omega
              case rel => exact ⟨j + 1, _, by omega, rfl, rfl, by go_num, H1.out⟩
            · obtain rfl : n = j := by omega
              have H1 := Lib.hid (rev_end HP.out HN.out)
              rw [H1.out]
              clear HP H1 hj hlt
              obtain ⟨r, rfl⟩ := Int.eq_ofNat_of_zero_le hrot.1
              obtain ⟨s, hs⟩ : ∃ s : Nat, r % n = s := ⟨_, rfl⟩
              have hsn : s < n := by rw [← hs]; exact Nat.mod_lt _ hpos
              have hmod : (r : Int) % (n : Int) = (s : Int) := by rw [← hs]; simp
              have hr2 : (r : Int) ≤ 65535 := hrot.2
              clear hrot hs
              go_wp2_with fail
              rw [hmod]
              clear hmod
              go_loopg [22] n (fun g i wr => ∃ (j : Nat) (C : Array Value), j ≤ n ∧ g = n - j ∧ (wo.alloc (.cells (strCells xs.reverse) 9)).alloc (.cells C 9) = wr ∧ i = .int .i64 j ∧ RotPart C xs s n j)
              case atStart => exact ⟨0, _, by omega, rfl, rfl, rfl, rot_start _ _ _ _⟩
              case round =>
                obtain ⟨j, C, hj, rfl, rfl, rfl, hp⟩ := hrel
                have HP := Lib.hid hp
                clear hp
                by_cases hlt : j < n
                · obtain ⟨p, hpm⟩ : ∃ p : Nat, (j + s) % n = p := ⟨_, rfl⟩
                  have hpn : p < n := by rw [← hpm]; exact Nat.mod_lt _ hpos
                  have hmod2 : ((j : Int) + (s : Int)) % (n : Int) = (p : Int) := by rw [← hpm]; simp
                  have hpl : p < xs.length := by have := HN.out; omega
                  have hc := HI.out.cell hpl
                  have hc2 : ∀ o o2, ((wo.alloc o).alloc o2).cell? ⟨B, p, none⟩ = some (.string xs[p]) := fun o o2 => by rw [World.cell?_alloc_lt _ _ _ (by simp; omega), World.cell?_alloc_lt _ _ _ (by simp; omega)]; exact hc
                  obtain ⟨vo, hvo⟩ := rot_old HP.out hlt
                  have H1 := Lib.hid (rot_step HP.out hlt hpm hpl)
                  have m0 : (0 : Int) ≤ ((j : Int) + (s : Int)) % (n : Int) := by rw [hmod2]; omega
                  have m1 : ((j : Int) + (s : Int)) % (n : Int) < (n : Int) := by rw [hmod2]; omega
                  clear hmod2
                  go_wp2_with fail
                  go_roundg (n - (j + 1))
                  case measure => omega
                  case rel => exact ⟨j + 1, _, by omega, rfl, rfl, by go_num, H1.out⟩
                · obtain rfl : n = j := by omega
                  have H1 := Lib.hid (rot_end HP.out HN.out)
                  rw [H1.out]
                  clear HP H1 hj hlt
                  go_wp2_with fail
                  refine (clone_some _ _ _ xs _ HN.out hn3 ((HI.out.read.alloc _).alloc _)).mono ?_
                  rintro e w' ⟨rfl, rfl⟩
                  have hsl : s < xs.length := by have := HN.out; omega
                  have h0l : 0 < xs.length := by have := HN.out; omega
                  have q0 := str_at xs 0 h0l
                  have qs := str_at xs s hsl
                  obtain ⟨u, qu⟩ := str_set xs s hsl (.string xs[s])
                  have HSW := Lib.hid (swap_cells xs s hsl h0l)
                  have ht0 : ∀ o1 o2 o3, (((wo.alloc o1).alloc o2).alloc o3).cell? ⟨B + 1, 0, none⟩ = some (.int .i64 0) := fun o1 o2 o3 => (((HI.out.alloc o1).alloc o2).alloc o3).t0.1
                  have ht1 : ∀ o1 o2 o3, (((wo.alloc o1).alloc o2).alloc o3).cell? ⟨B + 1, 1, none⟩ = some (.int .i64 0) := fun o1 o2 o3 => (((HI.out.alloc o1).alloc o2).alloc o3).t0.2.1
                  have ht2 : ∀ o1 o2 o3, (((wo.alloc o1).alloc o2).alloc o3).cell? ⟨B + 1, 1 + 1, none⟩ = some (.string tk) := fun o1 o2 o3 => (((HI.out.alloc o1).alloc o2).alloc o3).t0.2.2.1
                  have ht3 : ∀ o1 o2 o3, (((wo.alloc o1).alloc o2).alloc o3).cell? ⟨B + 1, 1 + 1 + 1, none⟩ = some (.string tv) := fun o1 o2 o3 => (((HI.out.alloc o1).alloc o2).alloc o3).t0.2.2.2
                  go_wp2_with fail
                  rw [HSW.out]
                  clear ht0 ht1 ht2 ht3 qu qs q0
                  have HZ := HI.out.size
                  have IW := Lib.hid (((HI.out.alloc (.cells (strCells xs.reverse) 9)).alloc (.cells (strCells (rotL xs s)) 9)).alloc (.cells (strCells (swapL xs s hsl)) 9))
                  have SR1 := Lib.hid (((sread_new wo xs.reverse wo.heap.size rfl).alloc (.cells (strCells (rotL xs s)) 9)).alloc (.cells (strCells (swapL xs s hsl)) 9))
                  have SR2 := Lib.hid ((sread_new (wo.alloc (.cells (strCells xs.reverse) 9)) (rotL xs s) (wo.heap.size + 1) (by simp)).alloc (.cells (strCells (swapL xs s hsl)) 9))
                  have SR3 := Lib.hid (sread_new ((wo.alloc (.cells (strCells xs.reverse) 9)).alloc (.cells (strCells (rotL xs s)) 9)) (swapL xs s hsl) (wo.heap.size + 1 + 1) (by simp))
                  have EQ1 : Hid (isT tk tv k xs.reverse = all) := by rw [isT_same (by simp) rev_hit]; exact HA
                  have EQ2 : Hid (isT tk tv k (rotL xs s) = all) := by rw [isT_same (rot_len _ _) (rot_hit hsl)]; exact HA
                  have EQ3 : Hid (isT tk tv k (swapL xs s hsl) = all) := by rw [isT_same (swap_len _ _ _) (swap_hit hsl)]; exact HA
                  have LR : Hid (xs.reverse.length = n ∧ (rotL xs s).length = n ∧ (swapL xs s hsl).length = n) := Lib.hid ⟨by rw [List.length_reverse]; exact HN.out, by rw [rot_len]; exact HN.out, by rw [swap_len]; exact HN.out⟩
                  generalize ((wo.alloc (.cells (strCells xs.reverse) 9)).alloc (.cells (strCells (rotL xs s)) 9)).alloc (.cells (strCells (swapL xs s hsl)) 9) = WW at *
                  refine (is_any tk tv k _ n n xs.reverse _ LR.out.1 (by omega) SR1.out).mono ?_
                  rintro e w' ⟨rfl, rfl⟩
                  rw [EQ1.out]
                  obtain ⟨c0, c1, c2, c3⟩ := (IW.out.alloc (.cells #[.int .i64 0, .int .i64 0, .string tk, .string tv] 31)).t0
                  go_wp2_with fail
                  refine (is_any tk tv k _ n n (rotL xs s) _ LR.out.2.1 (by omega) (SR2.out.alloc _)).mono ?_
                  rintro e w' ⟨rfl, rfl⟩
                  rw [EQ2.out]
                  obtain ⟨d0, d1, d2, d3⟩ := ((IW.out.alloc (.cells #[.int .i64 0, .int .i64 0, .string tk, .string tv] 31)).alloc (.cells #[.int .i64 0, .int .i64 0, .string tk, .string tv] 31)).t0
                  go_wp2_with fail
                  refine (is_any tk tv k _ n n (swapL xs s hsl) _ LR.out.2.2 (by omega) ((SR3.out.alloc _).alloc _)).mono ?_
                  rintro e w' ⟨rfl, rfl⟩
                  rw [EQ3.out]
                  have BW := (((IW.out.alloc (.cells #[.int .i64 0, .int .i64 0, .string tk, .string tv] 31)).alloc (.cells #[.int .i64 0, .int .i64 0, .string tk, .string tv] 31)).alloc (.cells #[.int .i64 0, .int .i64 0, .string tk, .string tv] 31)).below
                  clear HA HBa EQ1 EQ2 EQ3
                  cases all
                  · go_wp2_with fail
                    go_ret
                    exact ⟨rfl, BW⟩
                  · cases bare
                    · exact absurd hab (by decide)
                    · go_wp2_with fail
                      go_ret
                      exact ⟨rfl, BW⟩

theorem main_zero (k tk tv : ByteArray) (a : Option Addr) (cap : Nat) (rot : Int) (w : World) (hcap : a = none → cap = 0) :
    Calls Try.prog 3 #[.string k, .string tk, .string tv, .slice a 0 cap, .int .u16 rot] w fun e w' => e = .returned (.bool true) ∧ Below w.heap.size w w' := by
  obtain ⟨bare, hbare⟩ : ∃ bare, isT tk tv k [] = bare := ⟨_, rfl⟩
  have HBa := Lib.hid hbare
  clear hbare
  go_enter Try.func3, Try.ntmps3
  go_wp2_with fail
  refine (zbytes_any _ _ _ _ 0 _ _ [] _ rfl (by omega) (sread_nil _ _)).mono ?_
  rintro e w' ⟨b1, _, rfl, rfl⟩
  cases b1 with
  | false =>
    go_wp2_with fail
    go_ret
    exact ⟨rfl, Below.refl _ _⟩
  | true =>
    go_wp2_with fail
    refine (tooBig_any _ _ _ _ 0 _ [] _ rfl (by omega) (sread_nil _ _)).mono ?_
    rintro e w' ⟨b2, hb2, rfl, rfl⟩
    clear hb2
    cases b2 with
    | true =>
      go_wp2_with fail
      go_ret
      exact ⟨rfl, Below.refl _ _⟩
    | false =>
      cases a with
      | none =>
        obtain rfl := hcap rfl
        clear hcap
        go_wp2_with fail
        refine (clone_nil _).mono ?_
        rintro e w' ⟨rfl, rfl⟩
        go_wp2_with fail
        refine (is_any tk tv k _ 0 0 [] _ rfl (by omega) (sread_nil _ _)).mono ?_
        rintro e w' ⟨rfl, rfl⟩
        rw [HBa.out]
        go_wp2_with fail
        refine (is_any tk tv k _ 0 0 [] _ rfl (by omega) (sread_nil _ _)).mono ?_
        rintro e w' ⟨rfl, rfl⟩
        rw [HBa.out]
        go_wp2_with fail
        go_ret
        exact ⟨ret_bool (by simp), by repeat (first | exact Below.refl _ _ | refine Below.alloc ?_ (by simp <;> omega) _)⟩
      | some x =>
        clear hcap
        go_wp2_with fail
        refine (clone_some _ 0 cap [] _ rfl (by omega) (sread_nil _ _)).mono ?_
        rintro e w' ⟨rfl, rfl⟩
        go_wp2_with fail
        refine (is_any tk tv k _ 0 0 [] _ rfl (by omega) (sread_nil _ _)).mono ?_
        rintro e w' ⟨rfl, rfl⟩
        rw [HBa.out]
        go_wp2_with fail
        refine (is_any tk tv k _ 0 0 [] _ rfl (by omega) (sread_nil _ _)).mono ?_
        rintro e w' ⟨rfl, rfl⟩
        rw [HBa.out]
        go_wp2_with fail
        go_ret
        exact ⟨ret_bool (by simp), by repeat (first | exact Below.refl _ _ | refine Below.alloc ?_ (by simp <;> omega) _)⟩

/-- what the walk is told of a slice of strings that came in -/
def IsStrs (w : World) (a : Option Addr) (len cap : Nat) (zs : List ByteArray) : Prop :=
  (a = none ∧ len = 0 ∧ cap = 0 ∧ zs = []) ∨
  ∃ x, a = some x ∧ len ≤ cap ∧ cap ≤ maxLen ∧ zs.length = cap ∧ (∀ i, i < zs.length → w.cell? (x.add i) = some (.string (zs.getD i ByteArray.empty))) ∧ ∀ s ∈ zs, s.size ≤ maxLen
theorem add_lit (b off i : Nat) : (⟨b, off, none⟩ : Addr).add i = ⟨b, off + i, none⟩ := by unfold Addr.add; split <;> simp_all
theorem sread_of {w : World} {x : Addr} {len : Nat} {zs : List ByteArray} (hl : len ≤ zs.length) (hc : ∀ i, i < zs.length → w.cell? (x.add i) = some (.string (zs.getD i ByteArray.empty))) : SRead w (some x) (zs.take len) := by
  intro i hi
  rw [List.length_take] at hi
  have h := hc i (by omega)
  have hs := World.cell?_spot h
  obtain ⟨b, off, spot⟩ := x
  have hspot : spot = none := by
    unfold Addr.add at hs
    split at hs
    · simpa using hs
    · have h0 := hc 0 (by omega)
      have := World.cell?_spot h0
      simpa [Addr.add] using this
  subst hspot
  rw [add_lit] at h
  have hb := World.block_lt_of_cell? _ _ h
  refine ⟨b, off, rfl, hb, ?_⟩
  rw [h]
  simp [List.getElem_take, List.getD, List.getElem?_eq_getElem (show i < zs.length by omega)]

theorem token_walk (k tk tv : ByteArray) (a : Option Addr) (len cap : Nat) (zs : List ByteArray) (rot : Int) (w : World) (w0 : k.size ≤ maxLen) (w1 : tk.size ≤ maxLen) (w2 : tv.size ≤ maxLen) (w3 : IsStrs w a len cap zs) (w4 : (Lit.int .u16 rot).wf = true) :
    Calls Try.prog 3 #[.string k, .string tk, .string tv, .slice a len cap, .int .u16 rot] w fun e w' => e = .returned (.bool true) ∧ Below w.heap.size w w' := by
  have hrot : 0 ≤ rot ∧ rot ≤ 65535 := by simpa [Lit.wf, IntKind.min, IntKind.max, IntKind.signed, IntKind.bits] using w4
  rcases w3 with ⟨rfl, rfl, rfl, rfl⟩ | ⟨x, rfl, hl, hm, hz, hc, _⟩
  · exact main_zero k tk tv none 0 rot w (fun _ => rfl)
  · by_cases h0 : len = 0
    · subst h0
      exact main_zero k tk tv (some x) cap rot w (fun h => by cases h)
    · have hlen : (zs.take len).length = len := by rw [List.length_take]; omega
      have hm2 : len ≤ 9223372036854775807 := by unfold maxLen at hm; omega
      exact main_some k tk tv x len cap rot (zs.take len) w hlen hm2 (by omega) (sread_of (by omega) hc) hrot
end Go.Proofs.Ytmamedagebjnjaa
