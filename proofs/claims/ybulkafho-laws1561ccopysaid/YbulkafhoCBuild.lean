import Derived.Test.YbulkafhoRows
import Derived.WalkKit
import Derived.WalkSpells
import Derived.WalkLawsBesides
import Derived.OwnWalk
import Derived.StillTactics
import Derived.Laws.Pointers
import Derived.Deep.RegionHeld3
import Derived.Deep.AppendLies
import Derived.Deep.DrawnRows
import Derived.Deep.QuietTactic
import Derived.BigQuiet
import Derived.Below
namespace Go.Proofs.Ybulkafho
open Go.RowKit
attribute [local go_sem ↓] Go.wp_at_zero Go.wp_at_succ

theorem info58 : (Yba.prog.info? 58).map (fun i => (i.zero, i.size, i.bytes)) = some (some (.agg #[.int .u64 0, .int .u8 0, .string ByteArray.empty]), 3, 32) := by kernel_rfl

/-- The cells of the first k links. -/
def rowCells (S D : Nat → Int) (A : Nat → ByteArray) (k : Nat) : List Value := (List.range k).flatMap fun i => [.int .u64 (S i), .int .u8 (D i), .string (A i)]

theorem rowCells_succ (S D : Nat → Int) (A : Nat → ByteArray) (k : Nat) : rowCells S D A (k + 1) = rowCells S D A k ++ [.int .u64 (S k), .int .u8 (D k), .string (A k)] := by
  simp [rowCells, List.range_succ]

theorem q66 (w : World) (a : Option Addr) (n c n' c' : Nat) : (binOp .eql 66 (.slice a n c) (.slice none n' c')).run Yba.prog w = .ok (.bool a.isNone) w := Lib.run_eql_slice_nil w _ _ a n c n' c' Yba.underlying66
theorem q43 (w : World) (a : Option Addr) (n c n' c' : Nat) : (binOp .eql 43 (.slice a n c) (.slice none n' c')).run Yba.prog w = .ok (.bool a.isNone) w := Lib.run_eql_slice_nil w _ _ a n c n' c' Yba.underlying43

set_option maxRecDepth 100000 in
set_option maxHeartbeats 1600000 in
theorem cbuild_some (b off len cap : Nat) (S D : Nat → Int) (A : Nat → ByteArray) (w : World) (hlen : len ≤ 1024)
    (hc : ∀ i, i < len → w.cell? ⟨b, off + i * 3, none⟩ = some (.int .u64 (S i)) ∧ w.cell? ⟨b, off + i * 3 + 1, none⟩ = some (.int .u8 (D i)) ∧ w.cell? ⟨b, off + i * 3 + 2, none⟩ = some (.string (A i))) :
    Calls Yba.prog 15 #[.slice (some ⟨b, off, none⟩) len cap] w fun e w' => ∃ g cp, e = .returned (.slice (some ⟨g, 0, none⟩) len cp) ∧
      w'.ownsRow w.heap.size 58 3 (.slice (some ⟨g, 0, none⟩) len cp) len (rowCells S D A len) ∧ Below w.heap.size w w' := by
  obtain ⟨i0, hi0, hz0, hz1, hz2⟩ := info_parts info58
  have q := q66
  obtain ⟨B, hB⟩ : ∃ B, B = w.heap.size := ⟨_, rfl⟩
  have HC : Hid (∀ i, i < len → w.cell? ⟨b, off + i * 3, none⟩ = some (.int .u64 (S i)) ∧ w.cell? ⟨b, off + i * 3 + 1, none⟩ = some (.int .u8 (D i)) ∧ w.cell? ⟨b, off + i * 3 + 2, none⟩ = some (.string (A i))) := hc
  clear hc
  go_enter Yba.func15, Yba.ntmps15
  go_wp2_with (at_make; refine wpList_make_own _ rfl _ _ 43 rfl w.heap.size 58 i0 _ 3 Yba.underlying43 hi0 hz0 hz1 .i64 .i64 _ len rfl rfl rfl (by rw [hz2]; omega) (by unfold maxLen; omega) (Nat.le_refl _) ?_; intro w1 hown1 hgrow1)
  have hb1 : Below w.heap.size w w1 := (Below.refl _ _).grown hgrow1 (Nat.le_refl _) (fun k e => by cases e)
  clear hgrow1
  go_loopw [3, 4] (fun v i wr => ∃ k g cp : Nat, k ≤ len ∧ i = .int .i64 k ∧ v = .slice (some ⟨g, 0, none⟩) k cp ∧ wr.ownsRow w.heap.size 58 3 (.slice (some ⟨g, 0, none⟩) k cp) k (rowCells S D A k) ∧ Below w.heap.size w wr)
    (fun _ i _ => len - (intOf i).toNat)
  case atStart => exact ⟨0, _, _, Nat.zero_le _, rfl, rfl, hown1, hb1⟩
  case round =>
    obtain ⟨k, g, cp, hk, rfl, rfl, hown, hbel⟩ := hrel
    clear hown1 hb1 hB q
    by_cases hlt : k < len
    · obtain ⟨c0, c1, c2⟩ := HC.out k hlt
      have lb := World.block_lt_of_cell? w _ c0
      have c0' := (hbel.cell (p := ⟨b, off + k * 3, none⟩) lb).trans c0
      have c1' := (hbel.cell (p := ⟨b, off + k * 3 + 1, none⟩) lb).trans c1
      have c2' := (hbel.cell (p := ⟨b, off + k * 3 + 2, none⟩) lb).trans c2
      clear c0 c1 c2
      have hk0 : (0 : Int) ≤ (k : Int) := Int.natCast_nonneg _
      have hk1 : (k : Int) < (len : Int) := by omega
      have hsz := hbel.size
      have hg : w.heap.size ≤ g := by
        rcases hown.2 with ⟨h, _⟩ | ⟨g', cp', cur, h, hb', _⟩
        · cases h
        · cases h; exact hb'
      have lb' : b < wr.heap.size := Nat.lt_of_lt_of_le lb hsz
      go_wp2_with fail
      go_region_held3 (fun w' => w'.cell? ⟨b, off + k * 3, none⟩ = some (.int .u64 (S k)) ∧ w'.cell? ⟨b, off + k * 3 + 1, none⟩ = some (.int .u8 (D k)) ∧ w'.cell? ⟨b, off + k * 3 + 2, none⟩ = some (.string (A k)))
        (first
          | go_keep
          | (go_split_ands
             refine ⟨?_, ?_, ?_⟩
             · (rw [hgrow.cell_far _ (by simp; omega) (by simp [Value.ownBlock]; omega)]; assumption)
             · (rw [hgrow.cell_far _ (by simp; omega) (by simp [Value.ownBlock]; omega)]; assumption)
             · (rw [hgrow.cell_far _ (by simp; omega) (by simp [Value.ownBlock]; omega)]; assumption)))
        ((refine step_append_lies _ (by rfl) _ _ _ (by rfl) w.heap.size 58 i0 _ 3 32 Yba.underlying43 hi0 hz0 hz1 hz2 rfl (by omega) (.slice (some ⟨g, 0, none⟩) k cp) k (rowCells S D A k) (by rfl) ((hown.alloc _).drew)
            ⟨wr.heap.size, 0, none⟩ 1 1 [.int .u64 (S k), .int .u8 (D k), .string (A k)] (by rfl) (by rfl) (World.news_of_block (cs := #[.int .u64 (S k), .int .u8 (D k), .string (A k)]) (t := 58) (fr := (0, 0)) (heap_alloc_new wr _)) (by simp [Value.oneCell'])
            (by omega) (by unfold maxLen; omega) (by omega) (by simp; omega) (wr.heap.size + 1) (by simp) ?_; intro gg cap' w2 hown2 hgrow hat hlt2))
      have hb2 : Below w.heap.size w w2 := (hbel.alloc hsz _).drew.grown hgrow (by simp; omega) (fun j e => by cases e; exact hg)
      clear hgrow hown hbel
      go_wp2
      go_roundw
      case rel => exact ⟨k + 1, gg, cap', by omega, by go_num, rfl, by rw [rowCells_succ]; exact hown2, hb2⟩
      case measure => simp [intOf]; omega
    · go_wp2
      go_ret
      obtain rfl : k = len := by omega
      exact ⟨g, cp, rfl, hown, hbel⟩

theorem cbuild_nil (w : World) : Calls Yba.prog 15 #[.slice none 0 0] w fun e w' => e = .returned (.slice none 0 0) ∧ w' = w := by
  have q := q66
  go_enter Yba.func15, Yba.ntmps15
  go_wp2
  go_ret
  exact ⟨rfl, rfl⟩

/-- An empty slice that is not nil: its address is whatever. -/
theorem cbuild_empty (x : Addr) (cap : Nat) (w : World) : Calls Yba.prog 15 #[.slice (some x) 0 cap] w fun e w' => ∃ g cp, e = .returned (.slice (some ⟨g, 0, none⟩) 0 cp) ∧
      w'.ownsRow w.heap.size 58 3 (.slice (some ⟨g, 0, none⟩) 0 cp) 0 [] ∧ Below w.heap.size w w' := by
  obtain ⟨i0, hi0, hz0, hz1, hz2⟩ := info_parts info58
  have q := q66
  go_enter Yba.func15, Yba.ntmps15
  go_wp2_with (at_make; refine wpList_make_own _ rfl _ _ 43 rfl w.heap.size 58 i0 _ 3 Yba.underlying43 hi0 hz0 hz1 .i64 .i64 _ 0 rfl rfl rfl (by omega) (by unfold maxLen; omega) (Nat.le_refl _) ?_; intro w1 hown1 hgrow1)
  have hb1 : Below w.heap.size w w1 := (Below.refl _ _).grown hgrow1 (Nat.le_refl _) (fun k e => by cases e)
  clear hgrow1
  refine wp_loop_rounds 1 ?_
  rw [rounds_succ]
  go_wp2
  go_ret
  exact ⟨_, _, rfl, hown1, hb1⟩
end Go.Proofs.Ybulkafho
