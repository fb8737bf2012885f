import Derived.Test.YbulkafhoBView
import Derived.Test.YbulkafhoBAncWalk
namespace Go.Proofs.Ybulkafho.lawS1561BAncestor
open Go.ChangeShapes Go.WideShapes Go.ChangeAt Go.RowKit Go.Deep
open Go.ChangeMaps (open_string shut_string)
set_option linter.unusedVariables false

set_option maxRecDepth 100000 in
theorem lifted (os : Os) (started : os.Started) (H : Type) (enc : TypeId × Value → H) :
    ReturnsInHanded {} Yba.checked os 6 .any (Rows.lawS1561BAncestorSpec.pre6 enc Yba.prog Yba.f6 Rows.lawS1561BAncestorRow.domain false) (Rows.lawS1561BAncestorSpec.post enc Yba.prog Yba.f6 false true false false) := by
  refine returnsInHanded_of_change (C := Yba.checked) own started (by kernel_rfl) Yba.func6
    (ChangeSpec.witness6 (enc := enc) (C := Yba.checked) false ⟨#[], #[.string ByteArray.empty, .int .u64 0, .int .u8 0, .int .u8 0, .slice none 0 0], []⟩ 8 (by kernel_rfl) (by kernel_rfl) (by kernel_rfl) (by kernel_rfl)) ?_
  intro W base args ds gs before hval0 hW hcnd _
  have hval : ∀ (j : Nat) t v, Yba.f6.params[j]? = some t → args[j]? = some v → Value.okWide Yba.prog W .any base t v := hval0
  have hW' := hW
  obtain ⟨p, q, hA0, hV, rfl, hfz, hnd⟩ := hW
  have hA : DataW.TrodAll enc Yba.prog W 0 (fun _ => true) true Yba.f6.params.toList args.toList ds p := hA0
  rw [Yba.params6] at hA hval
  obtain ⟨v0, vs0, d0, ds0, p0, q0, hargs, rfl, rfl, h0, r0⟩ := trodAll_cons hA
  obtain ⟨v1, vs1, d1, ds1, p1, q1, rfl, rfl, rfl, h1, r1⟩ := trodAll_cons r0
  obtain ⟨v2, vs2, d2, ds2, p2, q2, rfl, rfl, rfl, h2, r2⟩ := trodAll_cons r1
  obtain ⟨v3, vs3, d3, ds3, p3, q3, rfl, rfl, rfl, h3, r3⟩ := trodAll_cons r2
  obtain ⟨v4, vs4, d4, ds4, p4, q4, rfl, rfl, rfl, h4, r4⟩ := trodAll_cons r3
  obtain ⟨rfl, rfl, rfl⟩ := trodAll_nil r4
  obtain rfl : args = #[v0, v1, v2, v3, v4] := by cases args; simp_all
  obtain ⟨rfl, rfl⟩ := trodVars_none hV
  obtain ⟨a0, rfl, rfl, rfl, w0⟩ := open_string Yba.underlying9 (hval 0 9 v0 rfl rfl) h0
  obtain ⟨a1, rfl, rfl, rfl, w1⟩ := open_int Yba.underlying22 (hval 1 22 v1 rfl rfl) h1
  obtain ⟨a2, rfl, rfl, rfl, w2⟩ := open_int Yba.underlying5 (hval 2 5 v2 rfl rfl) h2
  obtain ⟨a3, rfl, rfl, rfl, w3⟩ := open_int Yba.underlying5 (hval 3 5 v3 rfl rfl) h3
  obtain ⟨a4, len4, cap4, rfl⟩ := okWide_slice Yba.underlying54 (hval 4 54 v4 rfl rfl)
  have k4 := h4
  have lt4 : ∀ x ∈ p4, x.block < W.heap.size := by obtain ⟨m, hm⟩ := k4; exact DataW.trod_lt m _ _ _ hm
  have hwalk : Calls Yba.prog 6 #[.string a0, .int .u64 a1, .int .u8 a2, .int .u8 a3, .slice a4 len4 cap4] W fun e w' => e = .returned (.bool true) ∧ Below W.heap.size W w' := by
    obtain ⟨S, D, O, A, hm, hS, hD, hc⟩ := viewF h4
    have b1 := bounds_u64 w1
    have b2 := bounds_u8 w2
    have b3 := bounds_u8 w3
    obtain ⟨n1, e1⟩ : ∃ n : Nat, a1 = n := ⟨a1.toNat, by omega⟩
    obtain ⟨n2, e2⟩ : ∃ n : Nat, a2 = n := ⟨a2.toNat, by omega⟩
    obtain ⟨n3, e3⟩ : ∃ n : Nat, a3 = n := ⟨a3.toNat, by omega⟩
    rw [e1, e2, e3]
    by_cases hlen : 1024 < len4
    · exact banc_long a0 _ _ _ a4 len4 cap4 W hlen hm
    · exact banc_walk a0 n1 n2 n3 (by omega) (by omega) (by omega) a4 len4 cap4 S D O A W (by omega) hS hD hc
  clear hA0 hval0
  refine hwalk.mono fun e W' ⟨he, bel⟩ => ?_
  subst he
  exact ⟨_, rfl, _, _, _, [], _, [], hW', trodAll_mk1 (shut_bool Yba.underlying4 _), (trodAll_cons_mk (shut_string Yba.underlying9 w0) (trodAll_cons_mk (shut_int Yba.underlying22 w1) (trodAll_cons_mk (shut_int Yba.underlying5 w2) (trodAll_cons_mk (shut_int Yba.underlying5 w3) (trodAll_cons_mk (Below.trod laidOut (by kernel_rfl) (of_decide_eq_true (by kernel_rfl)) k4 bel lt4) trodAll_mk0))))), rfl, bel.frame _, fun h => by cases h⟩

theorem over : Rows.lawS1561BAncestorRow.holds Yba.pinned (OpenSpec.ofChange Rows.lawS1561BAncestorSpec) :=
  OpenClaim.holds_of_wide 6 Yba.f6 rfl rfl rfl rfl rfl rfl rfl ⟨rfl, rfl, rfl, rfl, rfl⟩ rfl rfl rfl rfl rfl (by kernel_rfl) Yba.func6 (by kernel_rfl)
    (of_decide_eq_true (by kernel_rfl)) (by unfold Func.isWrapper; first | (rw [if_pos (by decide +kernel)]; kernel_rfl) | (rw [if_neg (by decide +kernel)]; exact ⟨rfl, rfl⟩))
    (fun os started H enc _ => lifted os started H enc)

theorem proved : Rows.LawS1561BAncestorSaid :=
  over
end Go.Proofs.Ybulkafho.lawS1561BAncestor
