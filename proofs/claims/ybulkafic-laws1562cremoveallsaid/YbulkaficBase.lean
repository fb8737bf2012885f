import Derived.Test.YbulkaficRows
import Derived.WalkKit
import Derived.WalkSpells
import Derived.WalkLawsBesides
import Derived.OwnWalk
import Derived.StillTactics
import Derived.Laws.Pointers
import Derived.Deep.RegionHeld3
import Derived.Deep.AppendLies
import Derived.Deep.DrawnRows
import Derived.Deep.QuietTactic
import Derived.BigQuiet
import Derived.Below
import Derived.DeepKeys4
import Derived.Maps.OwnSet
import Derived.Maps.RangeWalk
namespace Go.Proofs.Ybulkafic
open Go.RowKit Go.Maps
set_option linter.unusedVariables false

theorem laidOut : laidOutB Yba.prog = true := by kernel_rfl
theorem law : Keyed Yba.prog 52 := Keyed.of_law (deep_law_laid laidOut (m := 100) (by decide) (k := 52) (of_decide_eq_true (by kernel_rfl)) (by kernel_rfl) (by kernel_rfl))
theorem zeroE (w : World) : (zeroValue 4).run Yba.prog w = .ok (.bool false) w := by kernel_rfl
theorem cells52 : Yba.prog.cellsOf 52 = 2 := by kernel_rfl
theorem keyType52 : Yba.prog.keyType 52 = true := by kernel_rfl
theorem cells4 : Yba.prog.cellsOf 4 = 1 := by kernel_rfl
theorem cells9 : Yba.prog.cellsOf 9 = 1 := by kernel_rfl

/-- An item: is it a key, and its name. -/
abbrev It := Bool × ByteArray
def enc (x : It) : Value := .agg #[.bool x.1, .string x.2]

theorem keyOf_enc (x : It) (h : x.2.size ≤ maxLen) : keyOf Yba.prog 52 (enc x) = some (.string (keyBytes [.bool x.1, .string x.2.data.toList])) := by
  unfold keyOf enc
  obtain ⟨n, hn⟩ : ∃ n, Yba.prog.types.size + 1 = n + 2 := ⟨Yba.prog.types.size - 1, by have : 1 ≤ Yba.prog.types.size := of_decide_eq_true (by kernel_rfl); omega⟩
  rw [hn]
  simp [Yba.underlying52, keyType52, Value.formed, cells52, Program.keyLits, Value.cells, Yba.underlying4, Yba.underlying9, cells4, cells9, h]

def klOf (x : It) : Lit := .string (keyBytes [.bool x.1, .string x.2.data.toList])

theorem two_of (cl : List Value) (h : cl.length = 2) : ∃ a b, cl = [a, b] := by
  match cl, h with
  | [a, b], _ => exact ⟨a, b, rfl⟩

theorem lits4 (n : Nat) (a : Value) : (∃ x, a = .bool x) ∨ Program.keyLits Yba.prog (n + 1) 4 [a] = none := by
  cases a <;> simp [Program.keyLits, Yba.underlying4]

theorem lits9 (n : Nat) (b : Value) : (∃ x : ByteArray, b = .string x ∧ x.size ≤ maxLen) ∨ Program.keyLits Yba.prog (n + 1) 9 [b] = none := by
  cases b with
  | string x =>
    by_cases h : x.size ≤ maxLen
    · exact .inl ⟨x, rfl, h⟩
    · exact .inr (by simp only [Program.keyLits, Yba.underlying9]; rw [if_neg h])
  | _ => exact .inr (by simp [Program.keyLits, Yba.underlying9])

theorem lits52 (n : Nat) (a b : Value) : Program.keyLits Yba.prog (n + 2) 52 [a, b] = (Program.keyLits Yba.prog (n + 1) 4 [a]).bind fun l => (Program.keyLits Yba.prog (n + 1) 9 [b]).bind fun m => some (l ++ m) := by
  conv => lhs; unfold Program.keyLits
  simp only [Yba.underlying52, cells52]
  rw [if_pos ⟨rfl, by kernel_rfl⟩]
  simp only [List.mapM_cons, List.mapM_nil, cells4, cells9, List.drop, List.take]
  cases Program.keyLits Yba.prog (n + 1) 4 [a] <;> cases Program.keyLits Yba.prog (n + 1) 9 [b] <;> simp

theorem keyOf_inv (key : Value) (l : Lit) (h : keyOf Yba.prog 52 key = some l) : ∃ x : It, key = enc x ∧ x.2.size ≤ maxLen ∧ l = klOf x := by
  have h0 := h
  unfold keyOf at h
  obtain ⟨n, hn⟩ : ∃ n, Yba.prog.types.size + 1 = n + 2 := ⟨Yba.prog.types.size - 1, by have : 1 ≤ Yba.prog.types.size := of_decide_eq_true (by kernel_rfl); omega⟩
  rw [hn] at h
  simp only [Yba.underlying52] at h
  split at h
  · rename_i hf
    simp only [keyType52, Bool.true_and] at hf
    cases key with
    | agg cs =>
      simp only [Value.formed, Yba.underlying52, cells52, beq_iff_eq] at hf
      obtain ⟨cl⟩ := cs
      obtain ⟨a, b, rfl⟩ := two_of cl hf
      have hc : (Value.agg [a, b].toArray).cells.toList = [a, b] := rfl
      rw [hc, lits52] at h
      rcases lits4 n a with ⟨x, rfl⟩ | ha
      · rcases lits9 n b with ⟨y, rfl, hy⟩ | hb
        · have h2 := keyOf_enc (x, y) hy
          have h3 := h0.symm.trans h2
          cases h3
          exact ⟨(x, y), rfl, hy, rfl⟩
        · rw [hb] at h
          cases Program.keyLits Yba.prog (n + 1) 4 [Value.bool x] <;> simp at h
      · rw [ha] at h
        simp at h
    | _ => simp [Value.formed, Yba.underlying52] at hf
  · cases h

theorem klOf_inj (x y : It) (hx : x.2.size ≤ maxLen) (hy : y.2.size ≤ maxLen) (h : klOf x = klOf y) : x = y := by
  have := law.inj (keyOf_enc x hx) (by rw [show (Lit.string (keyBytes [.bool x.1, .string x.2.data.toList])) = klOf y from h]; exact keyOf_enc y hy)
  unfold enc at this
  obtain ⟨a, b⟩ := x
  obtain ⟨c, d⟩ := y
  simp at this
  exact Prod.ext this.1 this.2
end Go.Proofs.Ybulkafic
