/-
  Plain facts on bit 5 of a 32-bit integer: what 'or 32' and 'xor 32' do, negative numbers included.
-/
import Derived.Laws.BitsAllLaws
import Derived.Laws.BitsLemmas
namespace Go.Proofs.Ytofnemkgaenldaa
theorem or_fin : ∀ k : Fin 64, (k.val ||| 32) = k.val + 32 * (1 - k.val / 32 % 2) := by decide
theorem xor_fin : ∀ k : Fin 64, (k.val ^^^ 32) = if k.val / 32 % 2 = 0 then k.val + 32 else k.val - 32 := by decide
theorem nat_or32 (n : Nat) : n ||| 32 = n + 32 * (1 - n / 32 % 2) := by
  have h1 : (n ||| 32) / 2 ^ 6 = n / 2 ^ 6 ||| 32 / 2 ^ 6 := Nat.or_div_two_pow
  have h2 : (n ||| 32) % 2 ^ 6 = n % 2 ^ 6 ||| 32 % 2 ^ 6 := Nat.or_mod_two_pow
  have h3 := or_fin ⟨n % 64, by omega⟩
  simp at h1 h2 h3
  rw [h3] at h2
  omega
theorem nat_xor32 (n : Nat) : n ^^^ 32 = if n / 32 % 2 = 0 then n + 32 else n - 32 := by
  have h1 : (n ^^^ 32) / 2 ^ 6 = n / 2 ^ 6 ^^^ 32 / 2 ^ 6 := Nat.xor_div_two_pow
  have h2 : (n ^^^ 32) % 2 ^ 6 = n % 2 ^ 6 ^^^ 32 % 2 ^ 6 := Nat.xor_mod_two_pow
  have h3 := xor_fin ⟨n % 64, by omega⟩
  simp at h1 h2 h3
  rw [h3] at h2
  split at h2 <;> split <;> omega

theorem or32 (r : Int) (h1 : -2147483648 ≤ r) (h2 : r ≤ 2147483647) : bits .or .i32 32 r = r + 32 * (1 - r / 32 % 2) := by
  show IntKind.i32.wrap ((BitVec.ofInt 32 32 ||| BitVec.ofInt 32 r).toNat : Int) = _
  rw [BitVec.toNat_or, Nat.or_comm, BitVec.toNat_ofInt, BitVec.toNat_ofInt]
  have e : ((32 : Int) % ((2 ^ 32 : Nat) : Int)).toNat = 32 := by decide
  rw [e, nat_or32, IntKind.wrap_i32]
  simp
  omega
theorem xor32 (r : Int) (h1 : -2147483648 ≤ r) (h2 : r ≤ 2147483647) : bits .xor .i32 r 32 = r + 32 - 64 * (r / 32 % 2) := by
  show IntKind.i32.wrap ((BitVec.ofInt 32 r ^^^ BitVec.ofInt 32 32).toNat : Int) = _
  rw [BitVec.toNat_xor, BitVec.toNat_ofInt, BitVec.toNat_ofInt]
  have e : ((32 : Int) % ((2 ^ 32 : Nat) : Int)).toNat = 32 := by decide
  rw [e, nat_xor32, IntKind.wrap_i32]
  simp
  split <;> omega
end Go.Proofs.Ytofnemkgaenldaa
