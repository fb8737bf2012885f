import Derived.Test.YbulkafhoRows
import Derived.WalkKit
import Derived.ProofKit
import Derived.OpenShut
import Derived.ShutString
import Derived.ChangeOld
import Derived.Below
import Derived.SizedLaws
import Derived.Deep.Slices
namespace Go.Proofs.Ybulkafho
open Go.ChangeShapes Go.WideShapes Go.ChangeAt Go.RowKit Go.Deep

theorem own : ownKnob Yba.prog.godebug = none := by kernel_rfl
theorem laidOut : laidOutB Yba.prog = true := by kernel_rfl

section
variable {H : Type} {enc : TypeId × Value → H} {P : Program} {w : World} {base : Nat} {spare : Nat → Bool} {held : Bool}

/-- A slice of structs whose fields are one cell each, opened at every index below its length. -/
theorem open_recs {t e : TypeId} {fs : Array Field} {fuel : Nat} {cs : List Value} {x : DataW H × List MemPlace} (ht : P.underlying t = some (.slice e)) (he : P.underlying e = some (.struct fs))
    (ce : P.cellsOf e = fs.size) (hof : ∀ (j : Nat) (f : Field), fs[j]? = some f → f.offset = j ∧ P.cellsOf f.type = 1)
    (h : DataW.trod enc P w base spare held fuel t cs = some x) :
    (cs = [.slice none 0 0] ∧ x = (.nil, [])) ∨
    ∃ (a : Addr) (len cap n : Nat) (D : Nat → DataW H) (sp : List (DataW H)), cs = [.slice (some a) len cap] ∧ len ≤ cap ∧ cap ≤ maxLen ∧ x.1 = .slice ((List.range len).map D) sp ∧
      ∀ i, i < len → ∃ Y : List (DataW H × List MemPlace), D i = .agg (Y.map (·.1)) ∧ Y.length = fs.size ∧
        ∀ (j : Nat) (f : Field), fs[j]? = some f → ∃ v, w.cell? (a.add (i * fs.size + j)) = some v ∧ DataW.trod enc P w base spare held n f.type [v] = Y[j]? := by
  rcases open_slice ht h with h0 | ⟨a, len, cap, m, n, D, Pl, rfl, hb, hl, hm, hmm, rfl, hx⟩
  · exact Or.inl h0
  right
  have hlm : len ≤ m := by rw [hmm]; split <;> omega
  refine ⟨a, len, cap, n - 1, D, _, rfl, hl, hm, rfl, fun i hi => ?_⟩
  obtain ⟨cs', h1, h2⟩ := hx i (by omega)
  rw [ce] at h1
  obtain ⟨_, hlen, hcell⟩ := World.cells?_some h1
  obtain ⟨Y, k, hk, hxy, _, hxl, hf⟩ := DataW.trod_struct he h2
  obtain rfl : k = n - 1 := by omega
  simp only [Prod.mk.injEq] at hxy
  refine ⟨Y, hxy.1, hxl, fun j f hj => ?_⟩
  have hjs : j < fs.size := by
    rcases Nat.lt_or_ge j fs.size with h | h
    · exact h
    · rw [Array.getElem?_eq_none h] at hj; cases hj
  obtain ⟨o, c⟩ := hof j f hj
  have hfj := hf j f hj
  have e0 := hcell j hjs
  rw [add_add] at e0
  have hjl : j < cs'.length := by omega
  rw [List.getElem?_eq_getElem hjl] at e0
  rw [o, c, List.drop_eq_getElem_cons hjl] at hfj
  exact ⟨cs'[j], e0, hfj⟩

theorem weights_in_all {e : TypeId} {d : DataW H} {k : Nat} : ∀ {l : List (DataW H)}, d ∈ l → k ∈ d.weights P e → k ∈ DataW.weightsAll P e l
  | [], h, _ => by cases h
  | x :: l, h, hk => by
    simp only [DataW.weightsAll, List.mem_append]
    rcases List.mem_cons.1 h with rfl | h
    · exact .inl hk
    · exact .inr (weights_in_all h hk)
end
end Go.Proofs.Ybulkafho
