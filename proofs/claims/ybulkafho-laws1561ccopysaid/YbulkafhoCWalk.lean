import Derived.Test.YbulkafhoCClone
namespace Go.Proofs.Ybulkafho
open Go.RowKit

/-- The cells of a row of records (uint64, uint8, string) at an address. -/
def LinksAt (w : World) (b off len : Nat) (S D : Nat → Int) (A : Nat → ByteArray) : Prop :=
  ∀ i, i < len → w.cell? ⟨b, off + i * 3, none⟩ = some (.int .u64 (S i)) ∧ w.cell? ⟨b, off + i * 3 + 1, none⟩ = some (.int .u8 (D i)) ∧ w.cell? ⟨b, off + i * 3 + 2, none⟩ = some (.string (A i))

theorem ccopy_long (red : Int) (a0 : Option Addr) (len cap : Nat) (w : World) (hlen : 1024 < len) (hm : len ≤ maxLen) :
    Calls Yba.prog 7 #[.int .i64 red, .slice a0 len cap] w fun e w' => e = .returned (.bool true) ∧ Below w.heap.size w w' := by
  unfold maxLen at hm
  have h1 : (1024 : Int) < (len : Int) := by omega
  go_enter Yba.func7, Yba.ntmps7
  go_wp2
  go_ret
  exact ⟨rfl, Below.refl _ _⟩

set_option maxHeartbeats 400000 in
theorem ccopy_nil (red : Int) (w : World) :
    Calls Yba.prog 7 #[.int .i64 red, .slice none 0 0] w fun e w' => e = .returned (.bool true) ∧ Below w.heap.size w w' := by
  have q := q43
  by_cases hr : red = 0
  · subst hr
    go_enter Yba.func7, Yba.ntmps7
    go_wp2_with (first | (go_at_call 15; refine (cbuild_nil _).mono ?_; rintro e w' ⟨rfl, rfl⟩) | (go_at_call 16; refine (hearsay_zero _ _ ?_).mono ?_; (simp); rintro e w' ⟨rfl, rfl⟩))
    go_ret
    exact ⟨rfl, (Below.refl _ _).alloc (Nat.le_refl _) _⟩
  · have hr' : (red == 0) = false := by simpa using hr
    clear hr
    go_enter Yba.func7, Yba.ntmps7
    go_wp2_with (first | (go_at_call 15; refine (cbuild_nil _).mono ?_; rintro e w' ⟨rfl, rfl⟩) | (go_at_call 16; refine (hearsay_nil _ red _ ?_ hr' ?_).mono ?_; (simp); (simp); rintro e w' ⟨rfl, rfl⟩))
    refine wp_loop_rounds 1 ?_
    rw [rounds_succ]
    go_wp2
    go_ret
    exact ⟨rfl, (Below.refl _ _).alloc (Nat.le_refl _) _⟩

/-- Not nil: by the contract of the maker alone. -/
theorem cbuild_any (a0 : Addr) (len cap : Nat) (S D : Nat → Int) (A : Nat → ByteArray) (w : World) (hlen : len ≤ 1024) (hc : 0 < len → ∃ b off, a0 = ⟨b, off, none⟩ ∧ LinksAt w b off len S D A) :
    Calls Yba.prog 15 #[.slice (some a0) len cap] w fun e w' => ∃ g cp, e = .returned (.slice (some ⟨g, 0, none⟩) len cp) ∧
      w'.ownsRow w.heap.size 58 3 (.slice (some ⟨g, 0, none⟩) len cp) len (rowCells S D A len) ∧ Below w.heap.size w w' := by
  by_cases h0 : len = 0
  · subst h0
    exact cbuild_empty a0 cap w
  · obtain ⟨b, off, rfl, h⟩ := hc (by omega)
    exact cbuild_some b off len cap S D A w hlen h

set_option maxHeartbeats 400000 in
theorem ccopy_zero (a0 : Addr) (len cap : Nat) (S D : Nat → Int) (A : Nat → ByteArray) (w : World) (hlen : len ≤ 1024) (hc : Hid (0 < len → ∃ b off, a0 = ⟨b, off, none⟩ ∧ LinksAt w b off len S D A)) :
    Calls Yba.prog 7 #[.int .i64 0, .slice (some a0) len cap] w fun e w' => e = .returned (.bool true) ∧ Below w.heap.size w w' := by
  have q := q43
  have h1 : ¬ (1024 : Int) < (len : Int) := by omega
  go_enter Yba.func7, Yba.ntmps7
  go_wp2_with (first | (go_at_call 15; refine (cbuild_any a0 len cap S D A _ hlen hc.out).mono ?_; rintro e w1 ⟨g, cp, rfl, hown, hbel⟩) | (go_at_call 16; refine (hearsay_zero _ _ ?_).mono ?_; (simp); rintro e w' ⟨rfl, rfl⟩))
  go_ret
  exact ⟨rfl, hbel.alloc hbel.size _⟩

set_option maxHeartbeats 1600000 in
theorem ccopy_some (red : Int) (hr' : (red == 0) = false) (a0 : Addr) (len cap : Nat) (S D : Nat → Int) (A : Nat → ByteArray) (w : World) (hlen : len ≤ 1024) (hc : Hid (0 < len → ∃ b off, a0 = ⟨b, off, none⟩ ∧ LinksAt w b off len S D A))
    (hA : Hid (∀ i, i < len → (A i).size ≤ 140737488351232)) :
    Calls Yba.prog 7 #[.int .i64 red, .slice (some a0) len cap] w fun e w' => e = .returned (.bool true) ∧ Below w.heap.size w w' := by
  have q := q43
  have h1 : ¬ (1024 : Int) < (len : Int) := by omega
  go_enter Yba.func7, Yba.ntmps7
  go_wp2_with (first | (go_at_call 15; refine (cbuild_any a0 len cap S D A _ hlen hc.out).mono ?_; rintro e w1 ⟨g, cp, rfl, hown, hbel⟩) | (go_at_call 16; refine (hearsay_own _ red g cp len w.heap.size (rowCells S D A len) _ ?_ hr' ?_ (hown.alloc _) hlen (rowCells_one S D A len)).mono ?_; (simp); (simp); rintro e w2 ⟨g', cp', rfl, hown2, hbel2⟩))
  have hsz1 := hbel.size
  have hB2 : Below w.heap.size w w2 := (hbel.alloc hsz1 _).trans (hbel2.mono (by simp; omega))
  have hg : w.heap.size ≤ g ∧ g < w1.heap.size := hown.lt g rfl
  have hg' : w1.heap.size < g' := by have := hown2.lt g' rfl; simp at this; omega
  have hP7 : w2.cell? ⟨w1.heap.size, 7, none⟩ = some (.int .i64 red) := by rw [hbel2.cell (by simp)]; simp
  have hP13 : w2.cell? ⟨w1.heap.size, 13, none⟩ = some (.slice (some ⟨g, 0, none⟩) len cp) := by rw [hbel2.cell (by simp)]; simp
  have hLg : Hid (∀ i, i < len → w2.cell? ⟨g, i * 3 + 2, none⟩ = some (.string (A i))) := fun i hi => by
    rw [hbel2.cell (by simp; omega), (hown.alloc _).cellAt _ (by omega)]
    exact (rowCells_at S D A len i hi).2.2
  have hLg' : Hid (∀ i, i < len → w2.cell? ⟨g', i * 3, none⟩ = some (.int .u64 (S i)) ∧ w2.cell? ⟨g', i * 3 + 1, none⟩ = some (.int .u8 (D i)) ∧ w2.cell? ⟨g', i * 3 + 2, none⟩ = some (.string (A i))) := fun i hi => by
    rw [hown2.cellAt _ (by omega), hown2.cellAt _ (by omega), hown2.cellAt _ (by omega)]
    exact rowCells_at S D A len i hi
  have hLa : Hid (0 < len → ∃ b off, a0 = ⟨b, off, none⟩ ∧ b < w.heap.size ∧ LinksAt w2 b off len S D A) := fun h0 => by
    obtain ⟨b, off, rfl, h⟩ := hc.out h0
    have lb := World.block_lt_of_cell? w _ (h 0 h0).1
    exact ⟨b, off, rfl, lb, fun i hi => by rw [hB2.cell (by exact lb), hB2.cell (by exact lb), hB2.cell (by exact lb)]; exact h i hi⟩
  have hfz : w2.frozen? ⟨g', 2, none⟩ = false := hown2.frozenAt 2
  have HB2 : Hid (Below w.heap.size w w2) := hB2
  clear hB2 hown hown2 hbel hbel2 hc
  go_loopw [8] (fun i wr => ∃ k : Nat, k ≤ len ∧ i = .int .i64 k ∧ ∃ nq, wr = w2.drewN nq) (fun i _ => len - (intOf i).toNat)
  case atStart => exact ⟨0, Nat.zero_le _, rfl, 0, rfl⟩
  case round =>
    obtain ⟨k, hk, rfl, nq, rfl⟩ := hrel
    by_cases hlt : k < len
    · obtain ⟨b, off, rfl, lb, hL⟩ := hLa.out (by omega)
      obtain ⟨c0, c1, c2⟩ := hL k hlt
      obtain ⟨d0, d1, d2⟩ := hLg'.out k hlt
      have hk0 : (0 : Int) ≤ (k : Int) := Int.natCast_nonneg _
      have hk1 : (k : Int) < (len : Int) := by omega
      clear hL
      go_wp2_with fail
      go_quiet (fail)
      go_wp2
      go_roundw
      case rel => exact ⟨k + 1, by omega, by go_num, _, rfl⟩
      case measure => simp [intOf]; omega
    · have HW : ∀ n, Below w.heap.size w (w2.drewN n) := fun n => HB2.out.trans (below_drewN (Below.refl _ _) n)
      by_cases h0 : len = 0
      · have h0' : (len : Int) = 0 := by omega
        subst h0
        clear hLa hLg hLg' hA
        go_wp2
        go_ret
        exact ⟨rfl, HW _⟩
      · obtain ⟨b, off, rfl, lb, hL⟩ := hLa.out (by omega)
        obtain ⟨_, _, c2⟩ := hL 0 (by omega)
        obtain ⟨_, _, d2⟩ := hLg'.out 0 (by omega)
        have e2 := hLg.out 0 (by omega)
        have hA0 := hA.out 0 (by omega)
        simp only [Nat.zero_mul, Nat.zero_add, Nat.add_zero] at c2 d2 e2
        have n1 : ¬ w1.heap.size = g' := by omega
        have n2 : ¬ g = g' := by omega
        have n3 : ¬ b = g' := by omega
        have hp : (0 : Int) < (len : Int) := by omega
        clear hL hLa hLg hLg' hA h0
        go_wp2_with fail
        have k7 : ((w2.drewN nq).setCell ⟨g', 2, none⟩ (Value.string (A 0 ++ { data := #[120] }))).cell? ⟨w1.heap.size, 7, none⟩ = some (.int .i64 red) := by rw [World.cell?_setCell_other _ _ _ _ (by simp; try omega)]; exact hP7
        have k13 : ((w2.drewN nq).setCell ⟨g', 2, none⟩ (Value.string (A 0 ++ { data := #[120] }))).cell? ⟨w1.heap.size, 13, none⟩ = some (.slice (some ⟨g, 0, none⟩) len cp) := by rw [World.cell?_setCell_other _ _ _ _ (by simp; try omega)]; exact hP13
        have kg : ((w2.drewN nq).setCell ⟨g', 2, none⟩ (Value.string (A 0 ++ { data := #[120] }))).cell? ⟨g, 2, none⟩ = some (.string (A 0)) := by rw [World.cell?_setCell_other _ _ _ _ (by simp; try omega)]; exact e2
        have kb : ((w2.drewN nq).setCell ⟨g', 2, none⟩ (Value.string (A 0 ++ { data := #[120] }))).cell? ⟨b, off + 2, none⟩ = some (.string (A 0)) := by rw [World.cell?_setCell_other _ _ _ _ (by simp; try omega)]; exact c2
        have kB : Hid (Below w.heap.size w ((w2.drewN nq).setCell ⟨g', 2, none⟩ (Value.string (A 0 ++ { data := #[120] })))) := (HW nq).setCell (p := ⟨g', 2, none⟩) (by simp; omega) _
        clear hP7 hP13 e2 c2 d2 hfz HW HB2
        generalize (w2.drewN nq).setCell ⟨g', 2, none⟩ (Value.string (A 0 ++ { data := #[120] })) = w3 at k7 k13 kg kb kB ⊢
        go_quiet (fail)
        go_wp2
        go_ret
        exact ⟨rfl, below_drewN kB.out _⟩
end Go.Proofs.Ybulkafho
