import Derived.Test.YbulkaficBuild
import Derived.RangeFuncNested
import Derived.RangeFuncBound
import Derived.RangeFuncCalls
import Derived.RangeFuncLeaves
import Derived.Shelf.Abstract
import Derived.Shelf.RegionOpen
import Derived.OwnWalkIn
import Derived.TacticsInMore
import Derived.LoopNIn
import Derived.LoopIn
import Derived.Sort.QuietIn
import Derived.Stop.RegionWithIn
import Derived.Sort.MapsRangeIn
namespace Go.Proofs.Ybulkafic
open Go.RowKit Go.Maps Go.Shelf
set_option linter.unusedVariables false

/-- A sequence that yields to its end; what a round leaves may hang on the item that was yielded ('T'). -/
def SeqT {α : Type} (n : Nat) (P : Program) (g : Nat) (lb : Array Value) (encs : α → Array Value) (T : α → World → World → Prop) (Ok : α → Prop) (S : List α → Prop) (N : Nat) (w : World) : Prop :=
  ∀ (l : Nat) (J : List α → World → Prop) (W : World), Below w.heap.size w W → AbidesFrom W.heap.size J →
    (∀ pre x W1, Ok x → J pre W1 → pre.length < N → YieldAt Fence.wide (n - 1) P l (encs x) W1 fun e W' => e = .returned (.bool true) ∧ J (pre ++ [x]) W' ∧ T x W1 W') → J [] W →
    CallsIn Fence.wide n P g (#[.func (.yield l) #[] #[]] ++ lb) W fun e W' => (∃ v, e = .returned v) ∧ ∃ xs, S xs ∧ J xs W'

/-- The record of a loop over a function, in one of its states. -/
def loopRec (w : World) (fn : FuncId) (a : Act) (ps : Array Tmp) (assign body : Code) (st : LoopState) : Loop :=
  { state := st, pending := none, fn := fn, tmps := a.tmps, params := ps, assign := assign, body := body, defers := w.heap.size }

/-- 'for x := range seq { .. }' whose body is left off its end alone. -/
theorem range_seqT {α : Type} {n : Nat} {P : Program} {g : Operand} {ps : Array Tmp} {assign body : Code} {Q : Exit → Act → World → Prop} {a : Act} {w : World} (h1 : 1 ≤ n) {gf : Nat} {lb : Array Value}
    (hg : a.eval g = .func (.func gf) #[] lb) (eg : ∀ args w, (callFunc gf args).run P w = .ok (.enter gf args) w) {encs : α → Array Value} {T : α → World → World → Prop} {Ok : α → Prop} {S : List α → Prop} {N : Nat} {w0 : World} (hseq : SeqT (n - 1) P gf lb encs T Ok S N w0)
    (hTt : ∀ {x : α} {A B C : World}, T x A B → T x B C → T x A C) (hTb : ∀ (x : α) (W : World) (l : Nat) (o o' : Obj), W.heap[l]? = some o → o.isCells = false → o.isWalk = false → T x W (W.putObj l o'))
    (hb0 : Below w0.heap.size w0 w) (hps : ∀ x, (encs x).size = ps.size) (I : List α → World → Prop) (hI : OwnFrom w.heap.size I) (h0 : I [] w)
    (Ax : α → Act → World → Prop) (hAx : ∀ x a', OwnFrom w.heap.size (fun (_ : Unit) W => Ax x a' W))
    (hassign : ∀ (l : Nat) (pre : List α) (x : α) (W : World) (K : Act → World → Prop), Ok x → I pre W → (∀ a' W', KeepsFrom w.heap.size W W' → T x W W' → I pre W' → Ax x a' W' → K a' W') →
      assign.wpIn (Fence.wide.inRound l) (n - 1 - 1) P (Exit.then K (fun _ _ _ => False)) { tmps := (ps.zip (encs x)).foldl (fun t (p, v) => t.setIfInBounds p v) a.tmps, defers := [] } W)
    (hbody : ∀ (l : Nat) (pre : List α) (x : α) (a' : Act) (W : World), Ok x → I pre W → Ax x a' W → pre.length < N →
      body.wpIn (Fence.wide.inRound l) (n - 1 - 1) P (fun e _ W' => e = .normal ∧ KeepsFrom w.heap.size W W' ∧ T x W W' ∧ I (pre ++ [x]) W') a' W)
    (hdone : ∀ (D : Nat) (xs : List α) (W : World), w.heap.size ≤ D → S xs → I xs W → W.heap[D]? = some (.deferred (some [])) → Q .normal { a with defers := { target := .collected D, args := #[] } :: a.defers } W) :
    (Code.rangeFunc g ps assign body).wpIn Fence.wide n P Q a w := by
  refine wpIn_rangeFunc fun fn hfn => ?_
  -- the two blocks that the statement lays
  obtain ⟨V, hV⟩ : ∃ V, V = (w.alloc (.deferred (some []))).alloc (.loop (loopRec w fn a ps assign body .ready)) := ⟨_, rfl⟩
  have vL : V.heap[w.heap.size + 1]? = some (.loop (loopRec w fn a ps assign body .ready)) := by
    rw [hV]; have := heap_alloc_new (w.alloc (.deferred (some []))) (.loop (loopRec w fn a ps assign body .ready)); rwa [World.size_alloc] at this
  have vD : V.heap[w.heap.size]? = some (.deferred (some [])) := by
    rw [hV]; exact (Below.heap_alloc _ _ _ (by simp)).trans (heap_alloc_new w _)
  have vI : I [] V := by rw [hV]; exact hI.alloc _ (hI.alloc _ h0)
  have vs : V.heap.size = w.heap.size + 2 := by rw [hV]; simp
  have vB : Below w0.heap.size w0 V := by
    rw [hV]; exact (hb0.alloc hb0.size _).alloc (by have := hb0.size; simp; omega) _
  refine ⟨w.heap.size + 1, [{ target := .collected w.heap.size, args := #[] }], V, { target := .fn (.func gf) lb, args := #[.func (.yield (w.heap.size + 1)) #[] #[]] }, V, gf,
    #[.func (.yield (w.heap.size + 1)) #[] #[]] ++ lb, V, by rw [hV]; exact run_enterLoop_outer _ _ _ _ _, ?_, fun _ _ => trivial, ?_, fun _ => h1, ?_⟩
  · simp only [resolve, hg]
    simp [go_sem]
  · simp [invoke, go_sem, eg]
  -- what is told of the two blocks, beside the caller's word
  refine (hseq (w.heap.size + 1) (fun pre W => I pre W ∧ W.heap[w.heap.size + 1]? = some (.loop (loopRec w fn a ps assign body .ready)) ∧ W.heap[w.heap.size]? = some (.deferred (some []))) V vB ?abide ?round ⟨vI, vL, vD⟩).mono ?fin
  case abide =>
    rintro s A C row ⟨k1, k2, k3⟩ hgr hr
    have low : ∀ r, row = some r → w.heap.size + 2 ≤ r := fun r e => by have := (hr r e).1; omega
    refine ⟨hI s A C row k1 hgr (fun r e => ?_), (hgr.block _ (Array.getElem?_eq_some_iff.1 k2).1 (fun e => ?_)).trans k2, (hgr.block _ (Array.getElem?_eq_some_iff.1 k3).1 (fun e => ?_)).trans k3⟩
    · obtain ⟨_, o, ho, hw⟩ := hr r e
      exact ⟨by have := low r e; omega, o, ho, Obj.not_cells_of_walk hw⟩
    · have := low _ e.symm; omega
    · have := low _ e.symm; omega
  case round =>
    rintro pre x W hok ⟨k1, k2, k3⟩ hlen
    refine ⟨fn, _, assign, body, run_yield (P := P) (args := encs x) k2 (hps x), roundIn_of_wpIn hfn (hassign _ pre x W _ hok k1 ?_)⟩
    intro a' Wa kf kt ki ka
    have l2 := kf.same _ _ (by omega) k2 rfl
    have l3 := kf.same _ _ (Nat.le_refl _) k3 rfl
    refine ⟨_, run_beginRound l2 rfl, ?_⟩
    have b2 : (Wa.putObj (w.heap.size + 1) (.loop (loopRec w fn a ps assign body .busy))).heap[w.heap.size + 1]? = some (.loop (loopRec w fn a ps assign body .busy)) := World.putObj_heap_same (Array.getElem?_eq_some_iff.1 l2).1
    have b3 : (Wa.putObj (w.heap.size + 1) (.loop (loopRec w fn a ps assign body .busy))).heap[w.heap.size]? = some (.deferred (some [])) := (World.putObj_heap_other (by omega)).trans l3
    have bT : T x Wa (Wa.putObj (w.heap.size + 1) (.loop (loopRec w fn a ps assign body .busy))) := hTb x _ _ _ _ l2 rfl rfl
    refine wpIn_mono (hbody _ pre x a' _ hok (hI.putObj _ ki (by omega) l2 rfl) ((hAx x a').putObj (s := ()) _ ka (by omega) l2 rfl) hlen) ?_
    rintro e a3 W3 ⟨rfl, q1, q2, q3⟩
    have c2 := q1.same _ _ (by omega) b2 rfl
    have c3 := q1.same _ _ (Nat.le_refl _) b3 rfl
    refine ⟨_, _, run_endRound (P := P) none c2, rfl, ⟨hI.putObj _ q3 (by omega) c2 rfl, ?_, (World.putObj_heap_other (by omega)).trans c3⟩, hTt kt (hTt bT (hTt q2 (hTb x _ _ _ _ c2 rfl rfl)))⟩
    exact World.putObj_heap_same (Array.getElem?_eq_some_iff.1 c2).1
  case fin =>
    rintro e W2 ⟨⟨v, rfl⟩, xs, hS, k1, k2, k3⟩
    exact ⟨none, _, run_endLoop (P := P) k2 (by simp [loopRec]), hdone _ xs _ (Nat.le_refl _) hS (hI.putObj _ k1 (by omega) k2 rfl) ((World.putObj_heap_other (by omega)).trans k3)⟩
end Go.Proofs.Ybulkafic
