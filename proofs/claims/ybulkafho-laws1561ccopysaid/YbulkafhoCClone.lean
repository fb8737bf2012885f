import Derived.Test.YbulkafhoCBuild
namespace Go.Proofs.Ybulkafho
open Go.RowKit

theorem rowCells_one (S D : Nat → Int) (A : Nat → ByteArray) (k : Nat) : ∀ u ∈ rowCells S D A k, u.oneCell' = true := by
  intro u hu
  simp only [rowCells, List.mem_flatMap, List.mem_range, List.mem_cons, List.not_mem_nil, or_false] at hu
  obtain ⟨i, _, rfl | rfl | rfl⟩ := hu <;> rfl

theorem rowCells_length (S D : Nat → Int) (A : Nat → ByteArray) (k : Nat) : (rowCells S D A k).length = k * 3 := by
  induction k with
  | zero => rfl
  | succ k ih => rw [rowCells_succ, List.length_append, ih]; simp; omega

theorem rowCells_at (S D : Nat → Int) (A : Nat → ByteArray) (n i : Nat) (h : i < n) :
    (rowCells S D A n)[i * 3]? = some (.int .u64 (S i)) ∧ (rowCells S D A n)[i * 3 + 1]? = some (.int .u8 (D i)) ∧ (rowCells S D A n)[i * 3 + 2]? = some (.string (A i)) := by
  induction n with
  | zero => omega
  | succ n ih =>
    rw [rowCells_succ]
    have hl := rowCells_length S D A n
    by_cases hi : i < n
    · obtain ⟨a, b, c⟩ := ih hi
      rw [List.getElem?_append_left (by omega), List.getElem?_append_left (by omega), List.getElem?_append_left (by omega)]
      exact ⟨a, b, c⟩
    · obtain rfl : i = n := by omega
      rw [List.getElem?_append_right (by omega), List.getElem?_append_right (by omega), List.getElem?_append_right (by omega), hl]
      simp [show i * 3 + 1 - i * 3 = 1 by omega, show i * 3 + 2 - i * 3 = 2 by omega]

theorem clone_nil (w : World) : Calls Yba.prog 22 #[.slice none 0 0] w fun e w' => e = .returned (.slice none 0 0) ∧ w' = w := by
  have q := q43
  go_enter Yba.func22, Yba.ntmps22
  go_wp2
  go_ret
  exact ⟨rfl, rfl⟩

set_option maxHeartbeats 400000 in
theorem clone_own (g cp n base : Nat) (xs : List Value) (w : World) (hx : w.ownsRow base 58 3 (.slice (some ⟨g, 0, none⟩) n cp) n xs) (hn : n ≤ 1024) (h1 : ∀ u ∈ xs, u.oneCell' = true) :
    Calls Yba.prog 22 #[.slice (some ⟨g, 0, none⟩) n cp] w fun e w' => ∃ g' cp', e = .returned (.slice (some ⟨g', 0, none⟩) n cp') ∧
      w'.ownsRow w.heap.size 58 3 (.slice (some ⟨g', 0, none⟩) n cp') n xs ∧ Below w.heap.size w w' := by
  obtain ⟨i0, hi0, hz0, hz1, hz2⟩ := info_parts info58
  have q := q43
  have HX : Hid (w.ownsRow base 58 3 (.slice (some ⟨g, 0, none⟩) n cp) n xs) := hx
  have hl : Hid (xs.length = n * 3) := hx.1
  clear hx
  go_enter Yba.func22, Yba.ntmps22
  go_wp2_with (at_builtin; go_must (refine wpList_append_own _ rfl (.tmp 5) (.tmp 6) 43 rfl w.heap.size 58 i0 _ 3 32 Yba.underlying43 hi0 hz0 hz1 hz2 rfl (by decide) (.slice (some ⟨w.heap.size, 0, none⟩) 0 0) 0 [] rfl (World.ownsRow_made w #[] 0 (Nat.le_refl _) (by decide) rfl) ⟨g, 0, none⟩ n cp xs rfl hl.out ((HX.out.alloc _).cells rfl) h1 (by unfold maxLen; omega) (by omega) (by simp) ?_; intro v' w1 hown hgrow hnil))
  have hb1 : Below w.heap.size w w1 := ((Below.refl _ _).alloc (Nat.le_refl _) _).grown hgrow (by simp) (fun k e => by cases e; exact Nat.le_refl _)
  rw [Nat.zero_add, List.nil_append] at hown
  obtain ⟨g', cp', rfl⟩ : ∃ g' cp', v' = .slice (some ⟨g', 0, none⟩) n cp' := by
    rcases hown.2 with ⟨h, _⟩ | ⟨g', cp', _, h, _⟩
    · exact absurd (hnil.1 h).1 (by simp)
    · exact ⟨g', cp', h⟩
  clear hgrow hnil
  go_wp2
  go_ret
  exact ⟨g', cp', rfl, hown, hb1⟩

theorem hearsay_zero (P : Nat) (w : World) (h7 : w.cell? ⟨P, 7, none⟩ = some (.int .i64 0)) :
    Calls Yba.prog 16 #[.pointer (some ⟨P, 0, none⟩)] w fun e w' => e = .returned (.slice none 0 0) ∧ w' = w := by
  go_enter Yba.func16, Yba.ntmps16
  go_wp2
  go_ret
  exact ⟨rfl, rfl⟩

theorem hearsay_nil (P : Nat) (red : Int) (w : World) (h7 : w.cell? ⟨P, 7, none⟩ = some (.int .i64 red)) (hr : (red == 0) = false) (h13 : w.cell? ⟨P, 13, none⟩ = some (.slice none 0 0)) :
    Calls Yba.prog 16 #[.pointer (some ⟨P, 0, none⟩)] w fun e w' => e = .returned (.slice none 0 0) ∧ w' = w := by
  go_enter Yba.func16, Yba.ntmps16
  go_wp2_with (go_at_call 22; refine (clone_nil _).mono ?_; rintro e w' ⟨rfl, rfl⟩)
  go_ret
  exact ⟨rfl, rfl⟩

theorem hearsay_own (P : Nat) (red : Int) (g cp n base : Nat) (xs : List Value) (w : World) (h7 : w.cell? ⟨P, 7, none⟩ = some (.int .i64 red)) (hr : (red == 0) = false)
    (h13 : w.cell? ⟨P, 13, none⟩ = some (.slice (some ⟨g, 0, none⟩) n cp)) (hx : Hid (w.ownsRow base 58 3 (.slice (some ⟨g, 0, none⟩) n cp) n xs)) (hn : n ≤ 1024) (h1 : Hid (∀ u ∈ xs, u.oneCell' = true)) :
    Calls Yba.prog 16 #[.pointer (some ⟨P, 0, none⟩)] w fun e w' => ∃ g' cp', e = .returned (.slice (some ⟨g', 0, none⟩) n cp') ∧
      w'.ownsRow w.heap.size 58 3 (.slice (some ⟨g', 0, none⟩) n cp') n xs ∧ Below w.heap.size w w' := by
  go_enter Yba.func16, Yba.ntmps16
  go_wp2_with (go_at_call 22; refine (clone_own g cp n base xs _ hx.out hn h1.out).mono ?_; rintro e w' ⟨g', cp', rfl, hown, hbel⟩)
  go_ret
  exact ⟨g', cp', rfl, hown, hbel⟩

end Go.Proofs.Ybulkafho
