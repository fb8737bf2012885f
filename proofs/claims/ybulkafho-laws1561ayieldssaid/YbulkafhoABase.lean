import Derived.Test.YbulkafhoRows
import Derived.WalkKit
import Derived.WalkSpells
import Derived.WalkLawsBesides
import Derived.OwnWalk
import Derived.StillTactics
import Derived.Laws.Pointers
import Derived.Deep.RegionHeld3
import Derived.Deep.DrawnRows
import Derived.Deep.QuietTactic
import Derived.BigQuiet
import Derived.Below
namespace Go.Proofs.Ybulkafho
open Go.RowKit

/-- The cells of the peer that the law makes. -/
def peerCells (x : Int) (pa c0 c1 : ByteArray) : Array Value :=
  #[.string ByteArray.empty, .string ByteArray.empty, .bool false, .int .u64 x, .string ByteArray.empty, .string ByteArray.empty, .int .u8 0, .int .i64 0, .string pa, .string c0, .string c1,
    .int .u64 0, .int .u8 0, .slice none 0 0, .slice none 0 0, .bool false, .slice none 0 0, .pointer none, .pointer none, .slice none 0 0, .slice none 0 0]

theorem apeer_any (x : Int) (pa c0 c1 : ByteArray) (w : World) :
    Calls Yba.prog 8 #[.int .u64 x, .string pa, .string c0, .string c1] w fun e w' => e = .returned (.pointer (some ⟨w.heap.size, 0, none⟩)) ∧ w' = w.alloc (.cells (peerCells x pa c0 c1) 50) := by
  go_enter Yba.func8, Yba.ntmps8
  go_wp2
  go_ret
  exact ⟨rfl, rfl⟩

theorem treeLinks_any (p : Value) (B : Nat) (hp : p = .pointer (some ⟨B, 0, none⟩)) (w : World) :
    Calls Yba.prog 10 #[p] w fun e w' => e = .returned (.func (.func 17) #[] #[.pointer (some ⟨w.heap.size, 0, none⟩)]) ∧ w' = w.alloc (.cells #[p] 23) := by
  subst hp
  go_enter Yba.func10, Yba.ntmps10
  go_wp2
  go_ret
  exact ⟨rfl, rfl⟩

theorem parent_zero (w : World) :
    Calls Yba.prog 18 #[.agg #[.int .u64 0]] w fun e w' => e = .returned (.tuple #[.agg #[.int .u64 0], .bool false]) ∧ Below w.heap.size w w' := by
  go_enter Yba.func18, Yba.ntmps18
  go_wp2
  exact bodyPost_ret (v := .tuple #[.agg #[.int .u64 0], .bool false]) (by simp [results, Yba.results18, go_sem]) rfl ⟨rfl, ((Below.refl _ _).alloc (Nat.le_refl _) _).alloc (by simp) _⟩

def par (x : Int) : Int := IntKind.u64.wrap (x.tdiv 2)
def lc (x : Int) : Int := IntKind.u64.wrap (x * 2)
def rc (x : Int) : Int := IntKind.u64.wrap (IntKind.u64.wrap (x * 2) + 1)

theorem parent_pos (x : Int) (hx : (x == 0) = false) (w : World) :
    Calls Yba.prog 18 #[.agg #[.int .u64 x]] w fun e w' => e = .returned (.tuple #[.agg #[.int .u64 (par x)], .bool true]) ∧ Below w.heap.size w w' := by
  go_enter Yba.func18, Yba.ntmps18
  go_wp2
  exact bodyPost_ret (v := .tuple #[.agg #[.int .u64 (par x)], .bool true]) (by simp [results, Yba.results18, go_sem, par]) rfl ⟨rfl, ((Below.refl _ _).alloc (Nat.le_refl _) _).alloc (by simp) _⟩

/-- The links that are expected: the parent's, then the children's. -/
def expect (x : Int) (pa c0 c1 : ByteArray) : List (Int × ByteArray) :=
  (if (x == 0) || pa.toList.isEmpty then [] else [(par x, pa)]) ++ ((if c0.toList.isEmpty then [] else [(lc x, c0)]) ++ (if c1.toList.isEmpty then [] else [(rc x, c1)]))

theorem expect_le (x : Int) (pa c0 c1 : ByteArray) : (expect x pa c0 c1).length ≤ 3 := by
  unfold expect
  split <;> split <;> split <;> simp

/-- Three pairs, the rest zero. -/
def pad (l : List (Int × ByteArray)) : Array Value :=
  #[.int .u64 (l.getD 0 (0, ByteArray.empty)).1, .string (l.getD 0 (0, ByteArray.empty)).2, .int .u64 (l.getD 1 (0, ByteArray.empty)).1, .string (l.getD 1 (0, ByteArray.empty)).2,
    .int .u64 (l.getD 2 (0, ByteArray.empty)).1, .string (l.getD 2 (0, ByteArray.empty)).2]

set_option maxHeartbeats 1600000 in
set_option linter.unusedSimpArgs false in
theorem aexpect_zero (pa c0 c1 : ByteArray) (w : World) :
    Calls Yba.prog 9 #[.int .u64 0, .string pa, .string c0, .string c1] w fun e w' => e = .returned (.tuple #[.agg (pad (expect 0 pa c0 c1)), .int .i64 (expect 0 pa c0 c1).length]) ∧ Below w.heap.size w w' := by
  cases h0 : c0.toList.isEmpty <;> cases h1 : c1.toList.isEmpty
  all_goals
    go_enter Yba.func9, Yba.ntmps9
    go_wp2
    refine bodyPost_ret (v := .tuple #[.agg (pad (expect 0 pa c0 c1)), .int .i64 (expect 0 pa c0 c1).length]) ?_ rfl ⟨rfl, ?_⟩
    · simp [results, Yba.results9, go_sem, expect, pad, h0, h1, par, lc, rc]
      all_goals (first | rfl | exact ⟨rfl, rfl⟩ | exact ⟨rfl, rfl, rfl⟩)
    · exact ((Below.refl _ _).alloc (Nat.le_refl _) _).alloc (by simp) _

set_option maxHeartbeats 1600000 in
set_option linter.unusedSimpArgs false in
theorem aexpect_pos (x : Int) (hx : (x == 0) = false) (pa c0 c1 : ByteArray) (w : World) :
    Calls Yba.prog 9 #[.int .u64 x, .string pa, .string c0, .string c1] w fun e w' => e = .returned (.tuple #[.agg (pad (expect x pa c0 c1)), .int .i64 (expect x pa c0 c1).length]) ∧ Below w.heap.size w w' := by
  have hx' : (x != 0) = true := by simpa using hx
  cases hp : pa.toList.isEmpty <;> cases h0 : c0.toList.isEmpty <;> cases h1 : c1.toList.isEmpty
  all_goals
    go_enter Yba.func9, Yba.ntmps9
    go_wp2
    refine bodyPost_ret (v := .tuple #[.agg (pad (expect x pa c0 c1)), .int .i64 (expect x pa c0 c1).length]) ?_ rfl ⟨rfl, ?_⟩
    · simp [results, Yba.results9, go_sem, expect, pad, hx, hp, h0, h1, par, lc, rc]
      all_goals (first | rfl | exact ⟨rfl, rfl⟩ | exact ⟨rfl, rfl, rfl⟩)
    · exact ((Below.refl _ _).alloc (Nat.le_refl _) _).alloc (by simp) _

theorem aexpect_any (x : Int) (pa c0 c1 : ByteArray) (w : World) :
    Calls Yba.prog 9 #[.int .u64 x, .string pa, .string c0, .string c1] w fun e w' => e = .returned (.tuple #[.agg (pad (expect x pa c0 c1)), .int .i64 (expect x pa c0 c1).length]) ∧ Below w.heap.size w w' := by
  by_cases hx : x = 0
  · subst hx; exact aexpect_zero pa c0 c1 w
  · exact aexpect_pos x (by simpa using hx) pa c0 c1 w
end Go.Proofs.Ybulkafho
