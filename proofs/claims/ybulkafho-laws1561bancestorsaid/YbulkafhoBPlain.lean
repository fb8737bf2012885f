import Derived.Test.YbulkafhoRows
import Derived.WalkKit
import Derived.Laws.Bits64
namespace Go.Proofs.Ybulkafho
set_option linter.unusedVariables false

/-- The mask of the first d bits of 64. -/
def mk (d : Nat) : Nat := (2 ^ d - 1) <<< (64 - d)

theorem mask_all : ∀ d ∈ List.range 65, (18446744073709551615 * 2 ^ (64 - d)) % 18446744073709551616 = mk d ∧ mk d < 18446744073709551616 := by decide +kernel

theorem mask_eq (d : Nat) (h : d ≤ 64) : IntKind.u64.wrap (18446744073709551615 * 2 ^ (64 - d)) = (mk d : Int) := by
  rw [IntKind.wrap_u64, ← (mask_all d (List.mem_range.2 (by omega))).1]
  simp

theorem mk_lt (d : Nat) (h : d ≤ 64) : mk d < 18446744073709551616 := (mask_all d (List.mem_range.2 (by omega))).2

theorem mk_bit (d i : Nat) (h : d ≤ 64) : (mk d).testBit i = (decide (64 - d ≤ i) && decide (i < 64)) := by
  unfold mk
  rw [Nat.testBit_shiftLeft, Nat.testBit_two_pow_sub_one]
  by_cases h1 : 64 - d ≤ i
  · simp [h1]
    omega
  · simp [h1]

theorem and_mk (y d : Nat) (hy : y < 18446744073709551616) (h : d ≤ 64) : y &&& mk d = (y >>> (64 - d)) <<< (64 - d) := by
  apply Nat.eq_of_testBit_eq
  intro i
  rw [Nat.testBit_and, mk_bit d i h, Nat.testBit_shiftLeft, Nat.testBit_shiftRight]
  by_cases h1 : 64 - d ≤ i
  · rw [show 64 - d + (i - (64 - d)) = i by omega]
    by_cases h2 : i < 64
    · simp [h1, h2]
    · rw [Nat.testBit_lt_two_pow (show y < 2 ^ i from Nat.lt_of_lt_of_le hy (Nat.pow_le_pow_right (n := 2) (i := 64) (by omega) (by omega)))]
      simp
  · simp [h1]

theorem contains_eq (s x d : Nat) (hs : s < 18446744073709551616) (hx : x < 18446744073709551616) (h : d ≤ 64) :
    ((x ^^^ s) &&& mk d = 0) ↔ s / 2 ^ (64 - d) = x / 2 ^ (64 - d) := by
  have hl : x ^^^ s < 18446744073709551616 := Nat.xor_lt_two_pow (n := 64) hx hs
  rw [and_mk _ _ hl h, Nat.shiftLeft_eq, Nat.mul_eq_zero]
  have hp : 0 < 2 ^ (64 - d) := Nat.two_pow_pos _
  rw [Nat.shiftRight_xor_distrib, ← Nat.shiftRight_eq_div_pow, ← Nat.shiftRight_eq_div_pow]
  constructor
  · rintro (h | h)
    · apply Nat.eq_of_testBit_eq
      intro i
      have := congrArg (fun n => n.testBit i) h
      simp only [Nat.testBit_xor, Nat.zero_testBit] at this
      generalize (x >>> (64 - d)).testBit i = a at this ⊢
      generalize (s >>> (64 - d)).testBit i = b at this ⊢
      cases a <;> cases b <;> simp_all
    · omega
  · intro h
    left
    rw [h, Nat.xor_self]

/-- The shorter prefix of a prefix. -/
theorem ancestor_eq (a d e : Nat) (ha : a < 18446744073709551616) (h : d ≤ e) (he : e ≤ 64) : ((a &&& mk e) ^^^ (a &&& mk d)) &&& mk d = 0 := by
  apply Nat.eq_of_testBit_eq
  intro i
  rw [Nat.testBit_and, Nat.testBit_xor, Nat.testBit_and, Nat.testBit_and, mk_bit d i (by omega), mk_bit e i he, Nat.zero_testBit]
  by_cases h1 : 64 - d ≤ i
  · have h2 : 64 - e ≤ i := by omega
    simp [h1, h2]
  · simp [h1]

theorem bits_and_u64_nat (a b : Nat) (ha : a < 18446744073709551616) (hb : b < 18446744073709551616) :
    bits .and .u64 (a : Int) (b : Int) = ((a &&& b : Nat) : Int) := by
  have hx : a &&& b < 2 ^ 64 := Nat.lt_of_le_of_lt Nat.and_le_left (by omega)
  have h1 : (BitVec.ofInt 64 (a : Int)).toNat = a := by
    rw [BitVec.ofInt_natCast, BitVec.toNat_ofNat]; exact Nat.mod_eq_of_lt (by omega)
  have h2 : (BitVec.ofInt 64 (b : Int)).toNat = b := by
    rw [BitVec.ofInt_natCast, BitVec.toNat_ofNat]; exact Nat.mod_eq_of_lt (by omega)
  show IntKind.u64.wrap ((BitVec.ofInt 64 (a : Int) &&& BitVec.ofInt 64 (b : Int)).toNat : Int) = _
  rw [BitVec.toNat_and, h1, h2, IntKind.wrap_u64]
  omega
end Go.Proofs.Ybulkafho
