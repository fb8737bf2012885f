import Derived.Test.YbulkafhoABase
import Derived.Maps.AppendAt
import Derived.RangeFuncBox
namespace Go.Proofs.Ybulkafho
open Go.RowKit
set_option linter.unusedVariables false

theorem grownBy_drewN {a w : World} {row : Option Nat} (h : a.grownBy w row) (n : Nat) : a.grownBy (w.drewN n) row := ⟨h.os, h.tape, h.output, h.size, h.block⟩

/-- A store into one cell, behind a new block and some draws. -/
theorem bumped (W : World) (o : Obj) (nq bC : Nat) (u v : Value) (hc : W.cell? ⟨bC, 0, none⟩ = some v) (hf : W.frozen? ⟨bC, 0, none⟩ = false) :
    W.grownBy (((W.alloc o).drewN nq).setCell ⟨bC, 0, none⟩ u) (some bC) ∧ (((W.alloc o).drewN nq).setCell ⟨bC, 0, none⟩ u).cell? ⟨bC, 0, none⟩ = some u ∧
      (((W.alloc o).drewN nq).setCell ⟨bC, 0, none⟩ u).frozen? ⟨bC, 0, none⟩ = false := by
  have hg : W.grownBy ((W.alloc o).drewN nq) none := grownBy_drewN (World.grownBy_alloc W o none) nq
  have hc' := hg.cell hc (by simp)
  have hlt := World.block_lt_of_cell? W _ hc
  refine ⟨(grownBy_drewN (World.grownBy_alloc W o _) nq).trans (grownBy_setCell' _ bC u), World.cell?_setCell_same' _ _ _ (by rw [hc']; rfl), ?_⟩
  rw [World.frozen?_setCell]
  exact (World.frozen?_of_block (hg.block bC hlt (by simp))).trans hf

theorem ret_bool {a b : Bool} (h : a = b) : Ending.returned (.bool a) = .returned (.bool b) := by rw [h]

set_option maxHeartbeats 1600000 in
theorem stop1 (bC bN bO bW bS : Nat) (s c : Nat) (L : List (Int × ByteArray)) (W : World) (hc : W.cell? ⟨bC, 0, none⟩ = some (.int .i64 c)) (hf : W.frozen? ⟨bC, 0, none⟩ = false)
    (hn : W.cell? ⟨bN, 0, none⟩ = some (.int .i64 L.length)) (hw : ∀ i v, (pad L)[i]? = some v → W.cell? ⟨bW, i, none⟩ = some v) (hs : W.cell? ⟨bS, 0, none⟩ = some (.int .i64 s))
    (hlt : c < L.length) (hL : L.length ≤ 3) (dN : bN ≠ bC) (dW : bW ≠ bC) (dS : bS ≠ bC) :
    Calls Yba.prog 11 #[.agg #[.int .u64 (L.getD c (0, ByteArray.empty)).1], .string (L.getD c (0, ByteArray.empty)).2, .pointer (some ⟨bC, 0, none⟩), .pointer (some ⟨bN, 0, none⟩), .pointer (some ⟨bO, 0, none⟩), .pointer (some ⟨bW, 0, none⟩), .pointer (some ⟨bS, 0, none⟩)] W
      fun e W' => e = .returned (.bool (decide (c + 1 < s))) ∧ W.grownBy W' (some bC) ∧ W'.cell? ⟨bC, 0, none⟩ = some (.int .i64 ((c + 1 : Nat) : Int)) ∧ W'.frozen? ⟨bC, 0, none⟩ = false := by
  have lC := World.block_lt_of_cell? W _ hc
  have lN := World.block_lt_of_cell? W _ hn
  have lS := World.block_lt_of_cell? W _ hs
  rcases (show c = 0 ∨ c = 1 ∨ c = 2 by omega) with rfl | rfl | rfl
  · have hw0 : W.cell? ⟨bW, 0, none⟩ = some (.int .u64 (L.getD 0 (0, ByteArray.empty)).1) := hw 0 _ rfl
    have hw1 : W.cell? ⟨bW, 1, none⟩ = some (.string (L.getD 0 (0, ByteArray.empty)).2) := hw 1 _ rfl
    generalize (L.getD 0 (0, ByteArray.empty)).1 = l at hw0 ⊢
    generalize (L.getD 0 (0, ByteArray.empty)).2 = a at hw1 ⊢
    generalize L.length = n at hlt hn hL
    have lW := World.block_lt_of_cell? W _ hw0
    have hnn : ¬ (n : Int) ≤ 0 := by omega
    have HB : Hid (∀ o nq u, W.grownBy (((W.alloc o).drewN nq).setCell ⟨bC, 0, none⟩ u) (some bC) ∧ (((W.alloc o).drewN nq).setCell ⟨bC, 0, none⟩ u).cell? ⟨bC, 0, none⟩ = some u ∧
      (((W.alloc o).drewN nq).setCell ⟨bC, 0, none⟩ u).frozen? ⟨bC, 0, none⟩ = false) := fun o nq u => bumped W o nq bC u _ hc hf
    clear hw
    go_enter Yba.func11, Yba.ntmps11
    go_wp2_with fail
    go_quiet (fail)
    go_wp2
    go_ret
    exact ⟨ret_bool (by simp; omega), HB.out _ _ _⟩
  · have hw0 : W.cell? ⟨bW, 2, none⟩ = some (.int .u64 (L.getD 1 (0, ByteArray.empty)).1) := hw 2 _ rfl
    have hw1 : W.cell? ⟨bW, 3, none⟩ = some (.string (L.getD 1 (0, ByteArray.empty)).2) := hw 3 _ rfl
    generalize (L.getD 1 (0, ByteArray.empty)).1 = l at hw0 ⊢
    generalize (L.getD 1 (0, ByteArray.empty)).2 = a at hw1 ⊢
    generalize L.length = n at hlt hn hL
    have lW := World.block_lt_of_cell? W _ hw0
    have hnn : ¬ (n : Int) ≤ 1 := by omega
    have HB : Hid (∀ o nq u, W.grownBy (((W.alloc o).drewN nq).setCell ⟨bC, 0, none⟩ u) (some bC) ∧ (((W.alloc o).drewN nq).setCell ⟨bC, 0, none⟩ u).cell? ⟨bC, 0, none⟩ = some u ∧
      (((W.alloc o).drewN nq).setCell ⟨bC, 0, none⟩ u).frozen? ⟨bC, 0, none⟩ = false) := fun o nq u => bumped W o nq bC u _ hc hf
    clear hw
    go_enter Yba.func11, Yba.ntmps11
    go_wp2_with fail
    go_quiet (fail)
    go_wp2
    go_ret
    exact ⟨ret_bool (by simp; omega), HB.out _ _ _⟩
  · have hw0 : W.cell? ⟨bW, 4, none⟩ = some (.int .u64 (L.getD 2 (0, ByteArray.empty)).1) := hw 4 _ rfl
    have hw1 : W.cell? ⟨bW, 5, none⟩ = some (.string (L.getD 2 (0, ByteArray.empty)).2) := hw 5 _ rfl
    generalize (L.getD 2 (0, ByteArray.empty)).1 = l at hw0 ⊢
    generalize (L.getD 2 (0, ByteArray.empty)).2 = a at hw1 ⊢
    generalize L.length = n at hlt hn hL
    have lW := World.block_lt_of_cell? W _ hw0
    have hnn : ¬ (n : Int) ≤ 2 := by omega
    have HB : Hid (∀ o nq u, W.grownBy (((W.alloc o).drewN nq).setCell ⟨bC, 0, none⟩ u) (some bC) ∧ (((W.alloc o).drewN nq).setCell ⟨bC, 0, none⟩ u).cell? ⟨bC, 0, none⟩ = some u ∧
      (((W.alloc o).drewN nq).setCell ⟨bC, 0, none⟩ u).frozen? ⟨bC, 0, none⟩ = false) := fun o nq u => bumped W o nq bC u _ hc hf
    clear hw
    go_enter Yba.func11, Yba.ntmps11
    go_wp2_with fail
    go_quiet (fail)
    go_wp2
    go_ret
    exact ⟨ret_bool (by simp; omega), HB.out _ _ _⟩

end Go.Proofs.Ybulkafho
