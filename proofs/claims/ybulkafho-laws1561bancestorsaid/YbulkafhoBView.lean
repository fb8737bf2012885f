import Derived.Test.YbulkafhoOpen
import Derived.Test.YbulkafhoBExactWalk
namespace Go.Proofs.Ybulkafho
open Go.ChangeShapes Go.WideShapes Go.ChangeAt Go.RowKit Go.Deep
set_option linter.unusedVariables false

/-- What the walk is told of the slice of facts that came in. -/
theorem viewF {H : Type} {enc : TypeId × Value → H} {W : World} {a : Option Addr} {len cap : Nat} {d : DataW H} {p : List MemPlace}
    (h : DataW.Trod enc Yba.prog W 0 (fun _ => true) true 54 (.slice a len cap) d p) :
    ∃ (S D : Nat → Nat) (O : Nat → Bool) (A : Nat → ByteArray), len ≤ maxLen ∧ (∀ i, i < len → S i < 18446744073709551616) ∧ (∀ i, i < len → D i ≤ 255) ∧ (0 < len → ∃ b off, a = some ⟨b, off, none⟩ ∧ FactsAt W b off len S D O A) := by
  obtain ⟨fuel, hf⟩ := h
  rcases open_recs Yba.underlying54 Yba.underlying56 (by kernel_rfl) (fun j f hj => by
    match j, hj with
    | 0, hj => cases hj; exact ⟨rfl, by kernel_rfl⟩
    | 1, hj => cases hj; exact ⟨rfl, by kernel_rfl⟩
    | 2, hj => cases hj; exact ⟨rfl, by kernel_rfl⟩
    | 3, hj => cases hj; exact ⟨rfl, by kernel_rfl⟩
    | j + 4, hj => simp at hj) hf with ⟨hcs, _⟩ | ⟨x, l, c, n, Dt, sp, hcs, hl, hm, hx, hel⟩
  · simp [Value.cells] at hcs
    obtain ⟨rfl, rfl, rfl⟩ := hcs
    exact ⟨fun _ => 0, fun _ => 0, fun _ => false, fun _ => ByteArray.empty, Nat.zero_le _, fun i hi => by omega, fun i hi => by omega, fun h => by omega⟩
  · simp [Value.cells] at hcs
    obtain ⟨rfl, rfl, rfl⟩ := hcs
    have each : ∀ i, i < len → ∃ q : Nat × Nat × Bool × ByteArray, (q.1 < 18446744073709551616 ∧ q.2.1 ≤ 255) ∧ W.cell? (x.add (i * 4)) = some (.int .u64 q.1) ∧ W.cell? (x.add (i * 4 + 1)) = some (.int .u8 q.2.1) ∧ W.cell? (x.add (i * 4 + 2)) = some (.bool q.2.2.1) ∧ W.cell? (x.add (i * 4 + 3)) = some (.string q.2.2.2) := by
      intro i hi
      obtain ⟨Y, hD, hY, hfs⟩ := hel i hi
      obtain ⟨v0, c0, t0⟩ := hfs 0 _ rfl
      obtain ⟨v1, c1, t1⟩ := hfs 1 _ rfl
      obtain ⟨v2, c2, t2⟩ := hfs 2 _ rfl
      obtain ⟨v3, c3, t3⟩ := hfs 3 _ rfl
      match Y, hY with
      | [y0, y1, y2, y3], _ =>
        obtain ⟨s, e0, rfl, ws⟩ := DataW.trod_int Yba.underlying22 (t0.trans (show _ = some y0 from rfl))
        obtain ⟨dd, e1, rfl, wd⟩ := DataW.trod_int Yba.underlying5 (t1.trans (show _ = some y1 from rfl))
        obtain ⟨oo, e2, rfl⟩ := DataW.trod_bool Yba.underlying4 (t2.trans (show _ = some y2 from rfl))
        obtain ⟨aa, e3, rfl, _⟩ := DataW.trod_string Yba.underlying9 (t3.trans (show _ = some y3 from rfl))
        cases e0; cases e1; cases e2; cases e3
        have bs := bounds_u64 ws
        have bd := bounds_u8 wd
        obtain ⟨s', rfl⟩ : ∃ s' : Nat, s = s' := ⟨s.toNat, by omega⟩
        obtain ⟨d', rfl⟩ : ∃ d' : Nat, dd = d' := ⟨dd.toNat, by omega⟩
        exact ⟨(s', d', oo, aa), ⟨show s' < 18446744073709551616 by omega, show d' ≤ 255 by omega⟩, c0, c1, c2, c3⟩
    obtain ⟨q, hq⟩ := choose_lt each
    refine ⟨fun i => (q i).1, fun i => (q i).2.1, fun i => (q i).2.2.1, fun i => (q i).2.2.2, by omega, fun i hi => (hq i hi).1.1, fun i hi => (hq i hi).1.2, fun h0 => ?_⟩
    obtain ⟨b, off, spot⟩ := x
    have hspot : spot = none := by simpa [Addr.add] using World.cell?_spot (hq 0 h0).2.1
    subst hspot
    refine ⟨b, off, rfl, fun i hi => ?_⟩
    obtain ⟨_, a0, a1, a2, a3⟩ := hq i hi
    simp only [add_plain] at a0 a1 a2 a3
    exact ⟨a0, a1, a2, a3⟩
end Go.Proofs.Ybulkafho
