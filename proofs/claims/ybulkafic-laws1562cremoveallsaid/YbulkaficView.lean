import Derived.Test.YbulkaficBuild
import Derived.WalkKit
import Derived.ProofKit
import Derived.OpenShut
import Derived.ShutString
import Derived.ChangeOld
import Derived.Below
import Derived.SizedLaws
import Derived.Deep.Slices
namespace Go.Proofs.Ybulkafic
open Go.ChangeShapes Go.WideShapes Go.ChangeAt Go.RowKit Go.Deep

theorem own : ownKnob Yba.prog.godebug = none := by kernel_rfl

section
variable {H : Type} {enc : TypeId × Value → H} {P : Program} {w : World} {base : Nat} {spare : Nat → Bool} {held : Bool}

/-- A slice of structs whose fields are one cell each, opened at every index below its length. -/
theorem open_recs {t e : TypeId} {fs : Array Field} {fuel : Nat} {cs : List Value} {x : DataW H × List MemPlace} (ht : P.underlying t = some (.slice e)) (he : P.underlying e = some (.struct fs))
    (ce : P.cellsOf e = fs.size) (hof : ∀ (j : Nat) (f : Field), fs[j]? = some f → f.offset = j ∧ P.cellsOf f.type = 1)
    (h : DataW.trod enc P w base spare held fuel t cs = some x) :
    (cs = [.slice none 0 0] ∧ x = (.nil, [])) ∨
    ∃ (a : Addr) (len cap n : Nat) (D : Nat → DataW H) (sp : List (DataW H)), cs = [.slice (some a) len cap] ∧ len ≤ cap ∧ cap ≤ maxLen ∧ x.1 = .slice ((List.range len).map D) sp ∧
      ∀ i, i < len → ∃ Y : List (DataW H × List MemPlace), D i = .agg (Y.map (·.1)) ∧ Y.length = fs.size ∧
        ∀ (j : Nat) (f : Field), fs[j]? = some f → ∃ v, w.cell? (a.add (i * fs.size + j)) = some v ∧ DataW.trod enc P w base spare held n f.type [v] = Y[j]? := by
  rcases open_slice ht h with h0 | ⟨a, len, cap, m, n, D, Pl, rfl, hb, hl, hm, hmm, rfl, hx⟩
  · exact Or.inl h0
  right
  have hlm : len ≤ m := by rw [hmm]; split <;> omega
  refine ⟨a, len, cap, n - 1, D, _, rfl, hl, hm, rfl, fun i hi => ?_⟩
  obtain ⟨cs', h1, h2⟩ := hx i (by omega)
  rw [ce] at h1
  obtain ⟨_, hlen, hcell⟩ := World.cells?_some h1
  obtain ⟨Y, k, hk, hxy, _, hxl, hf⟩ := DataW.trod_struct he h2
  obtain rfl : k = n - 1 := by omega
  simp only [Prod.mk.injEq] at hxy
  refine ⟨Y, hxy.1, hxl, fun j f hj => ?_⟩
  have hjs : j < fs.size := by
    rcases Nat.lt_or_ge j fs.size with h | h
    · exact h
    · rw [Array.getElem?_eq_none h] at hj; cases hj
  obtain ⟨o, c⟩ := hof j f hj
  have hfj := hf j f hj
  have e0 := hcell j hjs
  rw [add_add] at e0
  have hjl : j < cs'.length := by omega
  rw [List.getElem?_eq_getElem hjl] at e0
  rw [o, c, List.drop_eq_getElem_cons hjl] at hfj
  exact ⟨cs'[j], e0, hfj⟩
end

set_option linter.unusedVariables false in
/-- What the walk is told of the slice that came in. -/
theorem viewOps {H : Type} {enc : TypeId × Value → H} {W : World} {a : Option Addr} {len cap : Nat} {d : DataW H} {p : List MemPlace}
    (h : DataW.Trod enc Yba.prog W 0 (fun _ => true) true 43 (.slice a len cap) d p) :
    ∃ (O : Nat → Int) (K : Nat → Bool) (N : Nat → Int), len ≤ maxLen ∧ OpsAt W a len O K N := by
  obtain ⟨fuel, hf⟩ := h
  rcases open_recs Yba.underlying43 Yba.underlying74 (by kernel_rfl) (fun j f hj => by
    match j, hj with
    | 0, hj => cases hj; exact ⟨rfl, by kernel_rfl⟩
    | 1, hj => cases hj; exact ⟨rfl, by kernel_rfl⟩
    | 2, hj => cases hj; exact ⟨rfl, by kernel_rfl⟩
    | j + 3, hj => simp at hj) hf with ⟨hcs, _⟩ | ⟨x, l, c, n, Dt, sp, hcs, hl, hm, hx, hel⟩
  · simp [Value.cells] at hcs
    obtain ⟨rfl, rfl, rfl⟩ := hcs
    exact ⟨fun _ => 0, fun _ => false, fun _ => 0, Nat.zero_le _, fun i hi => by omega⟩
  · simp [Value.cells] at hcs
    obtain ⟨rfl, rfl, rfl⟩ := hcs
    have each : ∀ i, i < len → ∃ q : Int × Bool × Int, ((0 ≤ q.1 ∧ q.1 < 256) ∧ (0 ≤ q.2.2 ∧ q.2.2 < 256)) ∧ W.cell? (x.add (i * 3)) = some (.int .u8 q.1) ∧ W.cell? (x.add (i * 3 + 1)) = some (.bool q.2.1) ∧ W.cell? (x.add (i * 3 + 2)) = some (.int .u8 q.2.2) := by
      intro i hi
      obtain ⟨Y, hD, hY, hfs⟩ := hel i hi
      obtain ⟨v0, c0, t0⟩ := hfs 0 _ rfl
      obtain ⟨v1, c1, t1⟩ := hfs 1 _ rfl
      obtain ⟨v2, c2, t2⟩ := hfs 2 _ rfl
      match Y, hY with
      | [y0, y1, y2], _ =>
        obtain ⟨s, e0, rfl, ws⟩ := DataW.trod_int Yba.underlying5 (t0.trans (show _ = some y0 from rfl))
        obtain ⟨oo, e1, rfl⟩ := DataW.trod_bool Yba.underlying4 (t1.trans (show _ = some y1 from rfl))
        obtain ⟨dd, e2, rfl, wd⟩ := DataW.trod_int Yba.underlying5 (t2.trans (show _ = some y2 from rfl))
        cases e0; cases e1; cases e2
        have bs := bounds_u8 ws
        have bd := bounds_u8 wd
        exact ⟨(s, oo, dd), ⟨show 0 ≤ s ∧ s < 256 by omega, show 0 ≤ dd ∧ dd < 256 by omega⟩, c0, c1, c2⟩
    obtain ⟨q, hq⟩ := choose_lt each
    refine ⟨fun i => (q i).1, fun i => (q i).2.1, fun i => (q i).2.2, by omega, fun i hi => ?_⟩
    obtain ⟨b, off, spot⟩ := x
    obtain ⟨r, a0, a1, a2⟩ := hq i hi
    have hspot : spot = none := by simpa [Addr.add] using World.cell?_spot (hq 0 (by omega)).2.1
    subst hspot
    simp only [add_plain] at a0 a1 a2
    exact ⟨b, off, rfl, a0, a1, a2, r.1, r.2⟩
end Go.Proofs.Ybulkafic
