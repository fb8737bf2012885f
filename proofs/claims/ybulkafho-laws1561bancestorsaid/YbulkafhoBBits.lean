import Derived.Test.YbulkafhoBPlain
import Derived.WalkSpells
import Derived.WalkLawsBesides
import Derived.OwnWalk
import Derived.StillTactics
import Derived.Laws.Pointers
import Derived.Deep.RegionHeld3
import Derived.Deep.DrawnRows
import Derived.Deep.QuietTactic
import Derived.BigQuiet
import Derived.Below
namespace Go.Proofs.Ybulkafho
open Go.RowKit
set_option linter.unusedVariables false

def mkE (d : Nat) : Nat := if d ≤ 64 then mk d else 0
theorem mkE_lt (d : Nat) : mkE d < 18446744073709551616 := by
  unfold mkE
  split
  · exact mk_lt d (by assumption)
  · omega

theorem ret_int {k : IntKind} {a b : Int} (h : a = b) : Ending.returned (.int k a) = .returned (.int k b) := by rw [h]
theorem ret_bool' {a b : Bool} (h : a = b) : Ending.returned (.bool a) = .returned (.bool b) := by rw [h]

theorem mask_any (d : Nat) (hd : d ≤ 255) (w : World) : Calls Yba.prog 24 #[.int .u8 d] w fun e w' => e = .returned (.int .u64 (mkE d)) ∧ w' = w := by
  have h1 : (0 : Int) ≤ d := Int.natCast_nonneg _
  by_cases hle : d ≤ 64
  · have h2 : (d : Int) ≤ 64 := by omega
    go_enter Yba.func24, Yba.ntmps24
    go_wp2
    go_ret
    exact ⟨ret_int (by unfold mkE; rw [if_pos hle, ← mask_eq d hle]), rfl⟩
  · have h2 : (d : Int) ≤ 255 := by omega
    have h3 : (64 : Int) < d := by omega
    have h5 : (0 : Int) ≤ (64 - (d : Int)) % 256 := Int.emod_nonneg _ (by decide)
    have hs := fun w : World => congrArg (fun s : Sem Value => s.run Yba.prog w) (shift_shl_any .u64 .u8 18446744073709551615 ((64 - (d : Int)) % 256) h5)
    have h4 : min ((64 - (d : Int)) % 256).toNat 64 = 64 := by omega
    simp only [IntKind.bits, h4] at hs
    go_enter Yba.func24, Yba.ntmps24
    go_wp2
    go_ret
    exact ⟨ret_int (by unfold mkE; rw [if_neg hle]; decide +kernel), rfl⟩

/-- Whether the region that begins at s, d bits deep, holds x. -/
def cont (s d x : Nat) : Bool := ((x ^^^ s) &&& mkE d) == 0

theorem contains_any (s d x : Nat) (hs : s < 18446744073709551616) (hx : x < 18446744073709551616) (hd : d ≤ 255) (w : World) :
    Calls Yba.prog 21 #[.agg #[.int .u64 s, .int .u8 d], .int .u64 x] w fun e w' => e = .returned (.bool (cont s d x)) ∧ Below w.heap.size w w' := by
  have hl : x ^^^ s < 18446744073709551616 := Nat.xor_lt_two_pow (n := 64) hx hs
  have e1 := bits_xor_u64_nat x s hx hs
  have e2 := bits_and_u64_nat (x ^^^ s) (mkE d) hl (mkE_lt d)
  obtain ⟨r, hr⟩ : ∃ r, r = (x ^^^ s) &&& mkE d := ⟨_, rfl⟩
  rw [← hr] at e2
  have HR : Hid (r = (x ^^^ s) &&& mkE d) := hr
  clear hr hl hs hx
  go_enter Yba.func21, Yba.ntmps21
  go_wp2_with fail
  go_quiet ((go_at_call 24; exact Calls.quiet_of_same (mask_any d hd _)))
  go_wp2
  go_ret
  refine ⟨ret_bool' ?_, below_drewN ((Below.refl _ _).alloc (Nat.le_refl _) _) _⟩
  unfold cont
  rw [← HR.out]
  by_cases h : r = 0
  · subst h; rfl
  · rw [beq_eq_false_iff_ne.2 h]
    simpa using h

/-- zzs1561bin -/
def inB (s x d : Nat) : Bool := (d == 0 || decide (64 < d)) || (s / 2 ^ (64 - d) == x / 2 ^ (64 - d))

theorem inB_eq (s x d : Nat) (hs : s < 18446744073709551616) (hx : x < 18446744073709551616) : inB s x d = cont s d x := by
  unfold inB cont mkE
  by_cases h : d ≤ 64
  · rw [if_pos h, Bool.eq_iff_iff]
    have hc := contains_eq s x d hs hx h
    have h64 : ¬ 64 < d := by omega
    simp only [Bool.or_eq_true, beq_iff_eq, decide_eq_true_eq, h64, or_false, hc]
    constructor
    · rintro (h0 | h0)
      · subst h0
        rw [Nat.div_eq_of_lt hs, Nat.div_eq_of_lt hx]
      · exact h0
    · exact .inr
  · rw [if_neg h]
    simp
    omega

theorem bin_any (s x d : Nat) (hs : s < 18446744073709551616) (hx : x < 18446744073709551616) (hd : d ≤ 255) (w : World) :
    Calls Yba.prog 12 #[.int .u64 s, .int .u64 x, .int .u8 d] w fun e w' => e = .returned (.bool (inB s x d)) ∧ w' = w := by
  have h1 : (0 : Int) ≤ d := Int.natCast_nonneg _
  by_cases h0 : d = 0
  · subst h0
    go_enter Yba.func12, Yba.ntmps12
    go_wp2
    go_ret
    exact ⟨ret_bool' (by simp [inB]), rfl⟩
  · by_cases h64 : 64 < d
    · have h2 : (64 : Int) < d := by omega
      have h3 : ((d : Int) == 0) = false := by simp; omega
      go_enter Yba.func12, Yba.ntmps12
      go_wp2
      go_ret
      exact ⟨ret_bool' (by simp [inB, h64]), rfl⟩
    · have h2 : (d : Int) ≤ 64 := by omega
      have h3 : ((d : Int) == 0) = false := by simp; omega
      have h4 : ¬ (64 : Int) < d := by omega
      go_enter Yba.func12, Yba.ntmps12
      go_wp2
      go_ret
      refine ⟨ret_bool' ?_, rfl⟩
      unfold inB
      have e1 : ((s : Int) / 2 ^ (64 - d)) = ((s / 2 ^ (64 - d) : Nat) : Int) := by simp
      have e2 : ((x : Int) / 2 ^ (64 - d)) = ((x / 2 ^ (64 - d) : Nat) : Int) := by simp
      rw [e1, e2, beq_eq_false_iff_ne.2 h0, decide_eq_false h64]
      by_cases h : s / 2 ^ (64 - d) = x / 2 ^ (64 - d)
      · rw [h]; simp
      · rw [beq_eq_false_iff_ne.2 h]
        simp only [Bool.or_self, beq_eq_false_iff_ne, ne_eq]
        omega
end Go.Proofs.Ybulkafho
