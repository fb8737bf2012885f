import Derived.Test.YbulkafhoOpen
import Derived.Test.YbulkafhoCWalk
namespace Go.Proofs.Ybulkafho.lawS1561CCopy
open Go.ChangeShapes Go.WideShapes Go.ChangeAt Go.RowKit Go.Deep
open Go.ChangeMaps (open_string shut_string)
set_option linter.unusedVariables false

/-- What the walk is told of the slice that came in. -/
theorem view {H : Type} {enc : TypeId × Value → H} {W : World} {a : Option Addr} {len cap : Nat} {d : DataW H} {p : List MemPlace}
    (h : DataW.Trod enc Yba.prog W 0 (fun _ => true) true 66 (.slice a len cap) d p) :
    (a = none ∧ len = 0 ∧ cap = 0) ∨ ∃ (x : Addr) (S D : Nat → Int) (A : Nat → ByteArray) (sp : List (DataW H)), a = some x ∧ len ≤ maxLen ∧ (0 < len → ∃ b off, x = ⟨b, off, none⟩ ∧ LinksAt W b off len S D A) ∧
      d = .slice ((List.range len).map fun i => .agg [.lit (.int .u64 (S i)), .lit (.int .u8 (D i)), .lit (.string (A i).data.toList)]) sp := by
  obtain ⟨fuel, hf⟩ := h
  rcases open_recs Yba.underlying66 Yba.underlying70 (by kernel_rfl) (fun j f hj => by
    match j, hj with
    | 0, hj => cases hj; exact ⟨rfl, by kernel_rfl⟩
    | 1, hj => cases hj; exact ⟨rfl, by kernel_rfl⟩
    | 2, hj => cases hj; exact ⟨rfl, by kernel_rfl⟩
    | j + 3, hj => simp at hj) hf with ⟨hcs, _⟩ | ⟨x, l, c, n, Dt, sp, hcs, hl, hm, hx, hel⟩
  · simp [Value.cells] at hcs
    exact .inl hcs
  · simp [Value.cells] at hcs
    obtain ⟨rfl, rfl, rfl⟩ := hcs
    right
    have each : ∀ i, i < len → ∃ q : Int × Int × ByteArray, W.cell? (x.add (i * 3)) = some (.int .u64 q.1) ∧ W.cell? (x.add (i * 3 + 1)) = some (.int .u8 q.2.1) ∧ W.cell? (x.add (i * 3 + 2)) = some (.string q.2.2) ∧
        Dt i = .agg [.lit (.int .u64 q.1), .lit (.int .u8 q.2.1), .lit (.string q.2.2.data.toList)] := by
      intro i hi
      obtain ⟨Y, hD, hY, hfs⟩ := hel i hi
      obtain ⟨v0, c0, t0⟩ := hfs 0 _ rfl
      obtain ⟨v1, c1, t1⟩ := hfs 1 _ rfl
      obtain ⟨v2, c2, t2⟩ := hfs 2 _ rfl
      match Y, hY with
      | [y0, y1, y2], _ =>
        obtain ⟨s, e0, rfl, _⟩ := DataW.trod_int Yba.underlying22 (t0.trans (show _ = some y0 from rfl))
        obtain ⟨dd, e1, rfl, _⟩ := DataW.trod_int Yba.underlying5 (t1.trans (show _ = some y1 from rfl))
        obtain ⟨aa, e2, rfl, _⟩ := DataW.trod_string Yba.underlying9 (t2.trans (show _ = some y2 from rfl))
        cases e0; cases e1; cases e2
        exact ⟨(s, dd, aa), c0, c1, c2, hD⟩
    obtain ⟨q, hq⟩ := choose_lt each
    refine ⟨x, fun i => (q i).1, fun i => (q i).2.1, fun i => (q i).2.2, sp, rfl, by omega, fun h0 => ?_, ?_⟩
    · obtain ⟨b, off, spot⟩ := x
      have hspot : spot = none := by simpa [Addr.add] using World.cell?_spot (hq 0 h0).1
      subst hspot
      refine ⟨b, off, rfl, fun i hi => ?_⟩
      obtain ⟨a0, a1, a2, _⟩ := hq i hi
      simp only [add_plain] at a0 a1 a2
      exact ⟨a0, a1, a2⟩
    · rw [show d = (d, p).1 from rfl, hx]
      congr 1
      exact List.map_congr_left fun i hi => (hq i (List.mem_range.1 hi)).2.2.2

theorem walk (red : Int) (a : Option Addr) (len cap : Nat) (S D : Nat → Int) (A : Nat → ByteArray) (W : World) (hm : len ≤ maxLen)
    (h : (a = none ∧ len = 0 ∧ cap = 0) ∨ ∃ x, a = some x ∧ (0 < len → ∃ b off, x = ⟨b, off, none⟩ ∧ LinksAt W b off len S D A)) (hA : ∀ i, i < len → (A i).size ≤ 140737488351232) :
    Calls Yba.prog 7 #[.int .i64 red, .slice a len cap] W fun e w' => e = .returned (.bool true) ∧ Below W.heap.size W w' := by
  by_cases hlen : 1024 < len
  · exact ccopy_long red a len cap W hlen hm
  · rcases h with ⟨rfl, rfl, rfl⟩ | ⟨x, rfl, hx⟩
    · exact ccopy_nil red W
    · by_cases hr : red = 0
      · subst hr
        exact ccopy_zero x len cap S D A W (by omega) hx
      · exact ccopy_some red (by simpa using hr) x len cap S D A W (by omega) hx hA

set_option maxRecDepth 100000 in
theorem lifted (os : Os) (started : os.Started) (H : Type) (enc : TypeId × Value → H) :
    ReturnsInHanded {} Yba.checked os 7 .any (Rows.lawS1561CCopySpec.pre6 enc Yba.prog Yba.f7 Rows.lawS1561CCopyRow.domain false) (Rows.lawS1561CCopySpec.post enc Yba.prog Yba.f7 false true false false) := by
  refine returnsInHanded_of_change_sized (C := Yba.checked) own started (by kernel_rfl) Yba.func7
    (ChangeSpec.witness6 (enc := enc) (C := Yba.checked) false ⟨#[], #[.int .i64 0, .slice none 0 0], []⟩ 8 (by kernel_rfl) (by kernel_rfl) (by kernel_rfl) (by kernel_rfl)) ?_
  intro W base args ds gs before hval0 hW hcnd hsz0 _
  have hval : ∀ (j : Nat) t v, Yba.f7.params[j]? = some t → args[j]? = some v → Value.okWide Yba.prog W .any base t v := hval0
  have hsz : (DataW.weightsEach Yba.prog (Yba.f7.params.toList ++ Rows.lawS1561CCopySpec.plain.varTypes Yba.prog) (ds ++ gs)).all (· ≤ reachBytes) = true := hsz0
  have hW' := hW
  obtain ⟨p, q, hA0, hV, rfl, hfz, hnd⟩ := hW
  have hA : DataW.TrodAll enc Yba.prog W 0 (fun _ => true) true Yba.f7.params.toList args.toList ds p := hA0
  rw [Yba.params7] at hA hval hsz
  obtain ⟨v0, vs0, d0, ds0, p0, q0, hargs, rfl, rfl, h0, r0⟩ := trodAll_cons hA
  obtain ⟨v1, vs1, d1, ds1, p1, q1, rfl, rfl, rfl, h1, r1⟩ := trodAll_cons r0
  obtain ⟨rfl, rfl, rfl⟩ := trodAll_nil r1
  obtain rfl : args = #[v0, v1] := by cases args; simp_all
  obtain ⟨rfl, rfl⟩ := trodVars_none hV
  obtain ⟨red, rfl, rfl, rfl, w0⟩ := open_int Yba.underlying3 (hval 0 3 v0 rfl rfl) h0
  obtain ⟨a1, len1, cap1, rfl⟩ := okWide_slice Yba.underlying66 (hval 1 66 v1 rfl rfl)
  have k1 := h1
  have lt1 : ∀ x ∈ p1, x.block < W.heap.size := by obtain ⟨m, hm⟩ := k1; exact DataW.trod_lt m _ _ _ hm
  have hwalk : Calls Yba.prog 7 #[.int .i64 red, .slice a1 len1 cap1] W fun e w' => e = .returned (.bool true) ∧ Below W.heap.size W w' := by
    rcases view h1 with ⟨rfl, rfl, rfl⟩ | ⟨x, S, D, A, sp, rfl, hm, hx, hd⟩
    · exact walk red none 0 0 (fun _ => 0) (fun _ => 0) (fun _ => ByteArray.empty) W (Nat.zero_le _) (.inl ⟨rfl, rfl, rfl⟩) (fun i hi => absurd hi (Nat.not_lt_zero _))
    · refine walk red (some x) len1 cap1 S D A W hm (.inr ⟨x, rfl, hx⟩) (fun i hi => ?_)
      have hmem : (A i).data.toList.length ∈ DataW.weights Yba.prog 66 d1 := by
        rw [hd]
        simp only [DataW.weights, Yba.underlying66]
        refine List.mem_cons_of_mem _ (List.mem_append_left _ (weights_in_all (List.mem_map.2 ⟨i, List.mem_range.2 hi, rfl⟩) ?_))
        simp [DataW.weights, DataW.weightsEach, Yba.underlying70]
      have hr : (A i).data.toList.length ≤ reachBytes := of_decide_eq_true (List.all_eq_true.1 hsz _ (DataW.weights_mem_each (j := 1) (t := 66) rfl rfl _ hmem))
      unfold reachBytes at hr
      have e : (A i).data.toList.length = (A i).size := by simp
      omega
  clear hA0 hval0
  refine hwalk.mono fun e W' ⟨he, bel⟩ => ?_
  subst he
  exact ⟨_, rfl, _, _, _, [], _, [], hW', trodAll_mk1 (shut_bool Yba.underlying4 _), (trodAll_cons_mk (shut_int Yba.underlying3 w0) (trodAll_cons_mk (Below.trod laidOut (by kernel_rfl) (of_decide_eq_true (by kernel_rfl)) k1 bel lt1) trodAll_mk0)), rfl, bel.frame _, fun h => by cases h⟩

theorem over : Rows.lawS1561CCopyRow.holds Yba.pinned (OpenSpec.ofChange Rows.lawS1561CCopySpec) :=
  OpenClaim.holds_of_wide 7 Yba.f7 rfl rfl rfl rfl rfl rfl rfl ⟨rfl, rfl, rfl, rfl, rfl⟩ rfl rfl rfl rfl rfl (by kernel_rfl) Yba.func7 (by kernel_rfl)
    (of_decide_eq_true (by kernel_rfl)) (by unfold Func.isWrapper; first | (rw [if_pos (by decide +kernel)]; kernel_rfl) | (rw [if_neg (by decide +kernel)]; exact ⟨rfl, rfl⟩))
    (fun os started H enc _ => lifted os started H enc)

theorem proved : Rows.LawS1561CCopySaid :=
  over
end Go.Proofs.Ybulkafho.lawS1561CCopy
