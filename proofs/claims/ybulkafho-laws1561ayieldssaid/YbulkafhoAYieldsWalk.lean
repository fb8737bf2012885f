import Derived.Test.YbulkafhoAIter
import Derived.Test.YbulkafhoAStopsWalk
namespace Go.Proofs.Ybulkafho
open Go.RowKit Go.Shelf
set_option linter.unusedVariables false
attribute [local go_sem] Oper.semAt_some

def KeepsTwo (bX bP : Nat) (W W' : World) : Prop := W'.heap[bX]? = W.heap[bX]? ∧ W'.heap[bP]? = W.heap[bP]?

theorem PeerAt.keptTwo {W W' : World} {bX bP : Nat} {x : Int} {pa c0 c1 : ByteArray} (h : PeerAt W bX bP x pa c0 c1) (hk : KeepsTwo bX bP W W') : PeerAt W' bX bP x pa c0 c1 :=
  ⟨(World.cell?_of_block (a := ⟨bX, 0, none⟩) hk.1).trans h.box, (World.cell?_of_block (a := ⟨bP, 3, none⟩) hk.2).trans h.idx, (World.cell?_of_block (a := ⟨bP, 8, none⟩) hk.2).trans h.par,
    (World.cell?_of_block (a := ⟨bP, 9, none⟩) hk.2).trans h.ch0, (World.cell?_of_block (a := ⟨bP, 10, none⟩) hk.2).trans h.ch1⟩

theorem take_snocD {α : Type} (L : List α) (c : Nat) (z : α) (h : c < L.length) : L.take (c + 1) = L.take c ++ [L.getD c z] := by
  rw [List.take_succ_eq_append_getElem h]
  simp [List.getD, h]

theorem links_seq (bX bP : Nat) (x : Int) (pa c0 c1 : ByteArray) (n : Nat) (hn : 1 ≤ n) (w0 : World) (hp : PeerAt w0 bX bP x pa c0 c1) :
    SeqStopsK Fence.wide n Yba.prog 17 #[.pointer (some ⟨bX, 0, none⟩)] encP (KeepsTwo bX bP) (fun xs => xs = expect x pa c0 c1) (fun _ => True) 3 w0 := by
  intro l J Jx W hW hJ hJx hY h0
  have lX := World.block_lt_of_cell? w0 _ hp.box
  have lP := World.block_lt_of_cell? w0 _ hp.idx
  have hp' : PeerAt W bX bP x pa c0 c1 := hp.keptTwo ⟨hW.block bX lX, hW.block bP lP⟩
  have hle := expect_le x pa c0 c1
  refine (links_yield l bX bP x pa c0 c1 n (fun c W' => J ((expect x pa c0 c1).take c) W') (fun c W' => Jx ((expect x pa c0 c1).take c) W')
    (fun c W1 W2 h hg => hJ _ W1 W2 none h hg (fun r e => by cases e)) (fun c W1 h hpp hc => ?_) hn W hp' (by simpa using h0)).mono ?_
  · obtain ⟨fn, tmps, assign, body, hy, hR⟩ := hY _ ((expect x pa c0 c1).getD c (0, ByteArray.empty)) W1 h (by rw [List.length_take]; omega)
    refine ⟨fn, tmps, assign, body, hy, hR.mono ?_⟩
    rintro e W' (⟨rfl, hJ', hk⟩ | ⟨rfl, hJx'⟩)
    · exact ⟨true, rfl, fun _ => ⟨by rw [take_snocD _ _ _ hc]; exact hJ', hpp.keptTwo hk⟩, fun h => by cases h⟩
    · exact ⟨false, rfl, (fun h => by cases h), fun _ => by rw [take_snocD _ _ _ hc]; exact hJx'⟩
  · rintro e W' ⟨rfl, h | ⟨c, _, h⟩⟩
    · exact ⟨⟨_, rfl⟩, .inl ⟨_, rfl, by simpa using h⟩⟩
    · exact ⟨⟨_, rfl⟩, .inr ⟨_, trivial, h⟩⟩

/-- A block of cells abides what the law and the iterator turn. -/
theorem block_own {β : Type} (b : Nat) (f : β → Obj) (hf : ∀ s, (f s).isCells = true) : Own (fun s W => W.heap[b]? = some (f s)) := fun s X Y row hs hg hrow =>
  (hg.block b (Array.getElem?_eq_some_iff.1 hs).1 (fun e => by obtain ⟨o, ho, hc⟩ := hrow b e.symm; rw [hs] at ho; cases ho; rw [hf s] at hc; cases hc)).trans hs

theorem heap_setCell_cells {W : World} {b : Nat} {cs : Array Value} {t : TypeId} {fr : Nat × Nat} (h : W.heap[b]? = some (.cells cs t fr)) (i : Nat) (u : Value) :
    (W.setCell ⟨b, i, none⟩ u).heap[b]? = some (.cells (cs.setIfInBounds i u) t fr) := by
  obtain ⟨hlt, hk⟩ := Array.getElem?_eq_some_iff.1 h
  show (W.heap.modify b _)[b]? = _
  rw [Array.getElem?_eq_getElem (by rw [Array.size_modify]; exact hlt), Array.getElem_modify_self, hk]
  rfl

theorem free_of_block {W : World} {b : Nat} {cs : Array Value} {t : TypeId} (h : W.heap[b]? = some (.cells cs t (0, 0))) (i : Nat) : W.frozen? ⟨b, i, none⟩ = false := by
  simp [World.frozen?, h]

/-- The world in which the loop begins. -/
def atLoop (w1 : World) (bP : Nat) (l0 l1 l2 : Int) (a0 a1 a2 : ByteArray) : World :=
  ((((w1.alloc (Obj.cells #[Value.int IntKind.u64 l0, Value.string a0, Value.int IntKind.u64 l1, Value.string a1, Value.int IntKind.u64 l2, Value.string a2] 30)).alloc
    (Obj.cells #[Value.int IntKind.u64 0, Value.string { data := #[] }, Value.int IntKind.u64 0, Value.string { data := #[] }, Value.int IntKind.u64 0, Value.string { data := #[] }] 30)).alloc
    (Obj.cells #[Value.int IntKind.i64 0] 3)).alloc (Obj.cells #[Value.bool true] 4)).alloc (Obj.cells #[Value.pointer (some { block := bP, off := 0 })] 23)

theorem atLoop_grown (w1 : World) (bP : Nat) (l0 l1 l2 : Int) (a0 a1 a2 : ByteArray) : w1.grownBy (atLoop w1 bP l0 l1 l2 a0 a1 a2) none :=
  ((((World.grownBy_alloc _ _ _).trans (World.grownBy_alloc _ _ _)).trans (World.grownBy_alloc _ _ _)).trans (World.grownBy_alloc _ _ _)).trans (World.grownBy_alloc _ _ _)

theorem blk_kept {w : World} {o o' : Obj} {b : Nat} (h : w.heap[b]? = some o) : (w.alloc o').heap[b]? = some o := (Below.heap_alloc w o' b (Array.getElem?_eq_some_iff.1 h).1).trans h
theorem blk_new (w : World) (o : Obj) (b : Nat) (hb : w.heap.size = b) : (w.alloc o).heap[b]? = some o := by subst hb; exact heap_alloc_new w o

theorem atLoop_blocks (w1 : World) (bP : Nat) (l0 l1 l2 : Int) (a0 a1 a2 : ByteArray) :
    (atLoop w1 bP l0 l1 l2 a0 a1 a2).heap[w1.heap.size]? = some (Obj.cells #[Value.int IntKind.u64 l0, Value.string a0, Value.int IntKind.u64 l1, Value.string a1, Value.int IntKind.u64 l2, Value.string a2] 30 (0, 0)) ∧
    (atLoop w1 bP l0 l1 l2 a0 a1 a2).heap[w1.heap.size + 1]? = some (Obj.cells (pad []) 30 (0, 0)) ∧
    (atLoop w1 bP l0 l1 l2 a0 a1 a2).heap[w1.heap.size + 1 + 1]? = some (Obj.cells #[.int .i64 0] 3 (0, 0)) ∧
    (atLoop w1 bP l0 l1 l2 a0 a1 a2).heap[w1.heap.size + 1 + 1 + 1]? = some (Obj.cells #[.bool true] 4 (0, 0)) ∧
    (atLoop w1 bP l0 l1 l2 a0 a1 a2).heap[w1.heap.size + 1 + 1 + 1 + 1]? = some (Obj.cells #[.pointer (some ⟨bP, 0, none⟩)] 23 (0, 0)) ∧
    (atLoop w1 bP l0 l1 l2 a0 a1 a2).heap.size = w1.heap.size + 5 := by
  unfold atLoop
  exact ⟨blk_kept (blk_kept (blk_kept (blk_kept (blk_new _ _ _ rfl)))), blk_kept (blk_kept (blk_kept (blk_new _ _ _ (by simp)))), blk_kept (blk_kept (blk_new _ _ _ (by simp))), blk_kept (blk_new _ _ _ (by simp)), blk_new _ _ _ (by simp), by simp⟩

/-- What the caller's own memory holds between two rounds. -/
def YInv (w : World) (B : Nat) (x : Int) (pa c0 c1 : ByteArray) (pre : List (Int × ByteArray)) (W : World) : Prop :=
  (pre.length ≤ 3 ∧ W.heap[B + 1]? = some (.cells (pad pre) 30 (0, 0)) ∧ W.heap[B + 1 + 1]? = some (.cells #[.int .i64 pre.length] 3 (0, 0)) ∧ W.heap[B + 1 + 1 + 1]? = some (.cells #[.bool true] 4 (0, 0)) ∧
    W.heap[B]? = some (.cells (pad (expect x pa c0 c1)) 30 (0, 0)) ∧ W.heap[w.heap.size]? = some (.cells (peerCells x pa c0 c1) 50 (0, 0)) ∧ W.heap[B + 1 + 1 + 1 + 1]? = some (.cells #[.pointer (some ⟨w.heap.size, 0, none⟩)] 23 (0, 0))) ∧ Below w.heap.size w W

theorem YInv_own (w : World) (B : Nat) (x : Int) (pa c0 c1 : ByteArray) (C : Nat) (hC : w.heap.size ≤ C) : OwnFrom C (YInv w B x pa c0 c1) :=
  OwnFrom.and (Own.from (fun s X Y row hs hg hr => ⟨hs.1, block_own (B + 1) (fun pre => .cells (pad pre) 30 (0, 0)) (fun _ => rfl) s X Y row hs.2.1 hg hr, block_own (B + 1 + 1) (fun pre : List (Int × ByteArray) => .cells #[.int .i64 pre.length] 3 (0, 0)) (fun _ => rfl) s X Y row hs.2.2.1 hg hr,
    block_own (B + 1 + 1 + 1) (fun _ => .cells #[.bool true] 4 (0, 0)) (fun _ => rfl) s X Y row hs.2.2.2.1 hg hr, block_own B (fun _ => .cells (pad (expect x pa c0 c1)) 30 (0, 0)) (fun _ => rfl) s X Y row hs.2.2.2.2.1 hg hr,
    block_own w.heap.size (fun _ => .cells (peerCells x pa c0 c1) 50 (0, 0)) (fun _ => rfl) s X Y row hs.2.2.2.2.2.1 hg hr,
    block_own (B + 1 + 1 + 1 + 1) (fun _ => .cells #[.pointer (some ⟨w.heap.size, 0, none⟩)] 23 (0, 0)) (fun _ => rfl) s X Y row hs.2.2.2.2.2.2 hg hr⟩) _) (ownFrom_below (Nat.le_refl _) hC)

theorem pad_snoc (pre : List (Int × ByteArray)) (y : Int × ByteArray) (h : pre.length < 3) :
    ((pad pre).setIfInBounds (2 * pre.length) (.int .u64 y.1)).setIfInBounds (2 * pre.length + 1) (.string y.2) = pad (pre ++ [y]) := by
  match pre, h with
  | [], _ => rfl
  | [p], _ => rfl
  | [p, q], _ => rfl

theorem y_alloc {w : World} {B : Nat} {x : Int} {pa c0 c1 : ByteArray} {pre : List (Int × ByteArray)} {W : World} (h : YInv w B x pa c0 c1 pre W) (o : Obj) :
    KeepsTwo (B + 1 + 1 + 1 + 1) w.heap.size W (W.alloc o) ∧ YInv w B x pa c0 c1 pre (W.alloc o) := by
  obtain ⟨⟨h1, h2, h3, h4, h5, h6, h7⟩, hB⟩ := h
  exact ⟨⟨(blk_kept h7).trans h7.symm, (blk_kept h6).trans h6.symm⟩, ⟨h1, blk_kept h2, blk_kept h3, blk_kept h4, blk_kept h5, blk_kept h6, blk_kept h7⟩, hB.alloc hB.size _⟩

theorem y_step {w : World} {B : Nat} {x : Int} {pa c0 c1 : ByteArray} {pre : List (Int × ByteArray)} {W : World} (h : YInv w B x pa c0 c1 pre W) (y : Int × ByteArray) (hw : w.heap.size < B) (hl : pre.length < 3) (C i j : Nat) (c : Int)
    (hi : i = 2 * pre.length) (hj : j = 2 * pre.length + 1) (hc : c = (pre.length : Int) + 1) :
    KeepsFrom C W (((W.setCell ⟨B + 1, i, none⟩ (.int .u64 y.1)).setCell ⟨B + 1, j, none⟩ (.string y.2)).setCell ⟨B + 1 + 1, 0, none⟩ (.int .i64 c)) ∧
    KeepsTwo (B + 1 + 1 + 1 + 1) w.heap.size W (((W.setCell ⟨B + 1, i, none⟩ (.int .u64 y.1)).setCell ⟨B + 1, j, none⟩ (.string y.2)).setCell ⟨B + 1 + 1, 0, none⟩ (.int .i64 c)) ∧
    YInv w B x pa c0 c1 (pre ++ [y]) (((W.setCell ⟨B + 1, i, none⟩ (.int .u64 y.1)).setCell ⟨B + 1, j, none⟩ (.string y.2)).setCell ⟨B + 1 + 1, 0, none⟩ (.int .i64 c)) := by
  subst hi hj hc
  obtain ⟨⟨h1, h2, h3, h4, h5, h6, h7⟩, hB⟩ := h
  have oth : ∀ b, b ≠ B + 1 → b ≠ B + 1 + 1 → (((W.setCell ⟨B + 1, 2 * pre.length, none⟩ (.int .u64 y.1)).setCell ⟨B + 1, 2 * pre.length + 1, none⟩ (.string y.2)).setCell ⟨B + 1 + 1, 0, none⟩ (.int .i64 ((pre.length : Int) + 1))).heap[b]? = W.heap[b]? := fun b n1 n2 => by
    rw [Below.heap_setCell _ _ _ _ n2, Below.heap_setCell _ _ _ _ n1, Below.heap_setCell _ _ _ _ n1]
  refine ⟨(((KeepsOthers.setCell _ _ _).trans (KeepsOthers.setCell _ _ _)).trans (KeepsOthers.setCell _ _ _)).from _, ⟨oth _ (by omega) (by omega), oth _ (by omega) (by omega)⟩,
    ⟨by simp; omega, ?_, ?_, (oth _ (by omega) (by omega)).trans h4, (oth _ (by omega) (by omega)).trans h5, (oth _ (by omega) (by omega)).trans h6, (oth _ (by omega) (by omega)).trans h7⟩, ?_⟩
  · rw [Below.heap_setCell _ _ _ _ (by simp), heap_setCell_cells (heap_setCell_cells h2 _ _), pad_snoc pre y hl]
  · rw [heap_setCell_cells (cs := #[.int .i64 pre.length]) (t := 3) (fr := (0, 0)) (by rw [Below.heap_setCell _ _ _ _ (by simp), Below.heap_setCell _ _ _ _ (by simp)]; exact h3)]
    simp
  · exact ((hB.setCell (p := ⟨B + 1, 2 * pre.length, none⟩) (by simp; omega) _).setCell (p := ⟨B + 1, 2 * pre.length + 1, none⟩) (by simp; omega) _).setCell (p := ⟨B + 1 + 1, 0, none⟩) (by simp; omega) _

/-- The activation behind the assignment to the loop's variables. -/
def yAct (w w1 : World) (x : Int) (pa c0 c1 : ByteArray) (l0 l1 l2 : Int) (a0 a1 a2 : ByteArray) (m Bx : Nat) (y : Int × ByteArray) : Act :=
  { tmps := #[Value.int IntKind.u64 x, Value.string pa, Value.string c0, Value.string c1, undef, undef, undef, undef, Value.bool false, Value.pointer (some { block := w.heap.size, off := 0 }),
          Value.pointer (some { block := w1.heap.size, off := 0 }), Value.int IntKind.i64 (m : Int), Value.pointer (some { block := w1.heap.size + 1, off := 0 }), Value.pointer (some { block := w1.heap.size + 1 + 1, off := 0 }),
          Value.pointer (some { block := w1.heap.size + 1 + 1 + 1, off := 0 }), Value.pointer (some { block := Bx, off := 0 }), Value.string y.2, undef,
          Value.int IntKind.u64 x, Value.string pa, Value.string c0, Value.string c1, Value.pointer (some { block := w.heap.size, off := 0 }),
          Value.tuple #[Value.agg #[Value.int IntKind.u64 l0, Value.string a0, Value.int IntKind.u64 l1, Value.string a1, Value.int IntKind.u64 l2, Value.string a2], Value.int IntKind.i64 (m : Int)],
          Value.int IntKind.u64 x, Value.string pa, Value.string c0, Value.string c1,
          Value.tuple #[Value.agg #[Value.int IntKind.u64 l0, Value.string a0, Value.int IntKind.u64 l1, Value.string a1, Value.int IntKind.u64 l2, Value.string a2], Value.int IntKind.i64 (m : Int)],
          Value.agg #[Value.int IntKind.u64 l0, Value.string a0, Value.int IntKind.u64 l1, Value.string a1, Value.int IntKind.u64 l2, Value.string a2],
          Value.int IntKind.i64 (m : Int), Value.pointer (some { block := w.heap.size, off := 0 }),
          Value.func (Fn.func 17) #[] #[Value.pointer (some { block := w1.heap.size + 1 + 1 + 1 + 1, off := 0 })], Value.agg #[Value.int IntKind.u64 y.1], Value.string y.2,
          undef, undef, undef, undef, undef, undef, undef, undef, undef, undef, undef, undef, undef, undef, undef, undef, undef, undef, undef, undef, undef, undef, undef, undef, undef, undef, undef, undef, undef, undef, undef, undef, undef, undef, undef, undef, undef, undef, undef, undef, undef, undef, undef, undef], defers := [] }

set_option maxRecDepth 100000 in
set_option maxHeartbeats 1600000 in
theorem ayields_in (x : Int) (pa c0 c1 : ByteArray) (n : Nat) (hn : 5 ≤ n) (w : World) :
    CallsIn Fence.wide n Yba.prog 3 #[.int .u64 x, .string pa, .string c0, .string c1] w fun e w' => e = .returned (.bool true) ∧ Below w.heap.size w w' := by
  have h1 : 1 ≤ n := by omega
  refine callsIn_of_wp_marks Yba.func3 rfl trivial ?_ rfl
  simp only [Yba.ntmps3, List.size_toArray, List.length_cons, List.length_nil, Nat.reduceAdd, Nat.reduceSub, Array.replicate_succ, Array.replicate_zero, List.push_toArray, List.append_toArray, List.nil_append, List.cons_append]
  gi_wp2_with (refine ⟨trivial, ?_⟩; first
    | (gi_at_call 8; refine (callsIn_wide.2 (apeer_any x pa c0 c1 _)).mono ?_; rintro e w' ⟨rfl, rfl⟩)
    | (gi_at_call 9; refine (callsIn_wide.2 (aexpect_open x pa c0 c1 _)).mono ?_; rintro e w1 ⟨l0, l1, l2, a0, a1, a2, m, rfl, HN, hn3, hb1⟩; have HB1 : Hid (Below _ _ _) := hb1; clear hb1)
    | (gi_at_call 10; refine (callsIn_wide.2 (treeLinks_any _ _ rfl _)).mono ?_; rintro e w' ⟨rfl, rfl⟩))
  have hb1 := HB1.out
  have hsz := hb1.size
  simp only [World.size_alloc] at hsz
  obtain ⟨hpad, hmm⟩ := HN.out
  have qP : w1.heap[w.heap.size]? = some (.cells (peerCells x pa c0 c1) 50 (0, 0)) := (hb1.block _ (by simp)).trans (heap_alloc_new w _)
  have hbw : Below w.heap.size w w1 := ((Below.refl _ w).alloc (Nat.le_refl _) _).trans (hb1.mono (by simp))
  obtain ⟨f1, f2, f3, f4, f5, f6⟩ := atLoop_blocks w1 w.heap.size l0 l1 l2 a0 a1 a2
  have hgV := atLoop_grown w1 w.heap.size l0 l1 l2 a0 a1 a2
  change Code.wpIn _ _ _ _ _ _ (atLoop w1 w.heap.size l0 l1 l2 a0 a1 a2)
  generalize atLoop w1 w.heap.size l0 l1 l2 a0 a1 a2 = V at f1 f2 f3 f4 f5 f6 hgV ⊢
  have hbV : Below w.heap.size w V := hbw.grown hgV (by omega) (fun k e => by cases e)
  have gP : V.heap[w.heap.size]? = some (.cells (peerCells x pa c0 c1) 50 (0, 0)) := (hgV.block _ (by omega) (by simp)).trans qP
  have hPe : PeerAt V (w1.heap.size + 1 + 1 + 1 + 1) w.heap.size x pa c0 c1 :=
    ⟨cell_of_row _ _ 0 _ _ _ f5, cell_of_row _ _ 3 _ _ _ gP, cell_of_row _ _ 8 _ _ _ gP, cell_of_row _ _ 9 _ _ _ gP, cell_of_row _ _ 10 _ _ _ gP⟩
  have hI0 : YInv w w1.heap.size x pa c0 c1 [] V := ⟨⟨by simp, f2, f3, f4, by rw [hpad]; exact f1, gP, f5⟩, hbV⟩
  have HM := hid hmm
  clear hmm HB1 hb1 HN qP hbw f1 f2 f3 f4 f5 hgV gP hpad
  refine wpIn_rangeFunc_ownH rfl h1 (gf := 17) (lb := #[.pointer (some ⟨w1.heap.size + 1 + 1 + 1 + 1, 0, none⟩)]) rfl trivial (enters_of Yba.func17 (by kernel_rfl) rfl)
    (links_seq (w1.heap.size + 1 + 1 + 1 + 1) w.heap.size x pa c0 c1 (n - 1) (by omega) V hPe) (fun h k => ⟨k.1.trans h.1, k.2.trans h.2⟩) (fun W l o o' hl _ _ _ => ⟨World.putObj_heap_other (by omega), World.putObj_heap_other (by omega)⟩)
    (Below.refl _ _) (fun _ => rfl) (YInv w w1.heap.size x pa c0 c1) (fun _ _ _ => False) (YInv_own w w1.heap.size x pa c0 c1 _ hbV.size) (fun _ _ _ _ _ hs _ _ => hs) hI0
    (fun y a' W => ∃ Bx, Boxed W Bx 26 (.int .u64 y.1) ∧ a' = yAct w w1 x pa c0 c1 l0 l1 l2 a0 a1 a2 m Bx y)
    (fun y a' _ X Y row hs hg hr => by
      obtain ⟨Bx, h3, h4⟩ := hs
      exact ⟨Bx, boxed_own Bx 26 (fun _ : Unit => .int .u64 y.1) () X Y row h3 hg (fun r e => (hr r e).2), h4⟩) ?assign ?body ?done ?stop
  case assign =>
    rintro l pre y W K hi hK
    have HI := hid hi
    have HK := hid hK
    clear hi hK
    dsimp only [encP]
    gi_wp2
    exact HK.out _ _ ((KeepsOthers.alloc _ _).from _) (y_alloc HI.out _).1 (y_alloc HI.out _).2 ⟨W.heap.size, Boxed.new W 26 _, rfl⟩
  case body =>
    rintro l pre y a' W hl _ hi ⟨Bx, hbx, rfl⟩ hlt
    have HI := hid hi
    obtain ⟨⟨hp3, b1, b2, b3, b4, b5, b6⟩, hB⟩ := hi
    rcases (show pre.length = 0 ∨ pre.length = 1 ∨ pre.length = 2 by omega) with hc | hc | hc
    · have k0 : W.cell? ⟨w1.heap.size + 1 + 1, 0, none⟩ = some (.int .i64 0) := by rw [cell_of_row _ _ 0 _ _ _ b2, hc]; rfl
      have kf := free_of_block b2 0
      obtain ⟨u0, q0⟩ : ∃ u, W.cell? ⟨w1.heap.size + 1, 0, none⟩ = some u := ⟨_, cell_of_row _ _ 0 _ _ _ b1⟩
      obtain ⟨u1, q1⟩ : ∃ u, W.cell? ⟨w1.heap.size + 1, 1, none⟩ = some u := ⟨_, cell_of_row _ _ 1 _ _ _ b1⟩
      have z0 := free_of_block b1 0
      have z1 := free_of_block b1 1
      have kx := hbx.cell
      have HS := hid (y_step HI.out y (by omega) hlt V.heap.size 0 1 1 (by omega) (by omega) (by omega))
      unfold yAct
      clear b1 b2 b3 b4 b5 b6 hbx HI hc hlt hp3
      gi_wp2
      exact HS.out
    · have k0 : W.cell? ⟨w1.heap.size + 1 + 1, 0, none⟩ = some (.int .i64 1) := by rw [cell_of_row _ _ 0 _ _ _ b2, hc]; rfl
      have kf := free_of_block b2 0
      obtain ⟨u0, q0⟩ : ∃ u, W.cell? ⟨w1.heap.size + 1, 2, none⟩ = some u := ⟨_, cell_of_row _ _ 2 _ _ _ b1⟩
      obtain ⟨u1, q1⟩ : ∃ u, W.cell? ⟨w1.heap.size + 1, 3, none⟩ = some u := ⟨_, cell_of_row _ _ 3 _ _ _ b1⟩
      have z0 := free_of_block b1 2
      have z1 := free_of_block b1 3
      have kx := hbx.cell
      have HS := hid (y_step HI.out y (by omega) hlt V.heap.size 2 3 2 (by omega) (by omega) (by omega))
      unfold yAct
      clear b1 b2 b3 b4 b5 b6 hbx HI hc hlt hp3
      gi_wp2
      exact HS.out
    · have k0 : W.cell? ⟨w1.heap.size + 1 + 1, 0, none⟩ = some (.int .i64 2) := by rw [cell_of_row _ _ 0 _ _ _ b2, hc]; rfl
      have kf := free_of_block b2 0
      obtain ⟨u0, q0⟩ : ∃ u, W.cell? ⟨w1.heap.size + 1, 4, none⟩ = some u := ⟨_, cell_of_row _ _ 4 _ _ _ b1⟩
      obtain ⟨u1, q1⟩ : ∃ u, W.cell? ⟨w1.heap.size + 1, 5, none⟩ = some u := ⟨_, cell_of_row _ _ 5 _ _ _ b1⟩
      have z0 := free_of_block b1 4
      have z1 := free_of_block b1 5
      have kx := hbx.cell
      have HS := hid (y_step HI.out y (by omega) hlt V.heap.size 4 5 3 (by omega) (by omega) (by omega))
      unfold yAct
      clear b1 b2 b3 b4 b5 b6 hbx HI hc hlt hp3
      gi_wp2
      exact HS.out
  case done =>
    rintro D ys W hD rfl hi hK
    obtain ⟨⟨hp3, b1, b2, b3, b4, b5, b6⟩, hB⟩ := hi
    rw [← HM.out] at b2
    have k2 := cell_of_row _ _ 0 _ _ _ b2
    have k3 := cell_of_row _ _ 0 _ _ _ b3
    have k5 := cell_of_row _ _ 3 _ _ _ b5
    have k8 := cell_of_row _ _ 8 _ _ _ b5
    simp only [peerCells] at k5 k8
    have HK := hid hK
    have HBB := hid hB
    clear hK hB b2 b3 b5 b6
    have H1 := hid b1
    have H4 := hid b4
    clear b1 b4
    gi_wp2
    gi_loopw [17] (fun i wr => ∃ k : Nat, k ≤ m ∧ i = .int .i64 k ∧ ∃ nq, wr = W.drewN nq) (fun i _ => m - (intOf i).toNat)
    case atStart => exact ⟨0, Nat.zero_le _, rfl, 0, rfl⟩
    case round =>
      obtain ⟨k, hk, rfl, nq, rfl⟩ := hrel
      by_cases hkm : k < m
      · have hkm' : (k : Int) < (m : Int) := by omega
        rcases (show k = 0 ∨ k = 1 ∨ k = 2 by omega) with rfl | rfl | rfl
        · have c0' := cell_of_row _ _ 0 _ _ _ H1.out
          have c1' := cell_of_row _ _ 1 _ _ _ H1.out
          have d0' := cell_of_row _ _ 0 _ _ _ H4.out
          have d1' := cell_of_row _ _ 1 _ _ _ H4.out
          obtain ⟨L0, L1, hL0, hL1⟩ : ∃ L0 L1, (pad (expect x pa c0 c1))[0]? = some (.int .u64 L0) ∧ (pad (expect x pa c0 c1))[1]? = some (.string L1) := ⟨_, _, rfl, rfl⟩
          rw [hL0] at c0' d0'
          rw [hL1] at c1' d1'
          clear hL0 hL1
          gi_wp2
          refine wpIn_wide.2 ?_
          go_quiet (fail)
          gi_wp2
          go_roundw
          case rel => exact ⟨0 + 1, by omega, rfl, _, rfl⟩
          case measure => simp [intOf]; omega
        · have c0' := cell_of_row _ _ 2 _ _ _ H1.out
          have c1' := cell_of_row _ _ 3 _ _ _ H1.out
          have d0' := cell_of_row _ _ 2 _ _ _ H4.out
          have d1' := cell_of_row _ _ 3 _ _ _ H4.out
          obtain ⟨L0, L1, hL0, hL1⟩ : ∃ L0 L1, (pad (expect x pa c0 c1))[2]? = some (.int .u64 L0) ∧ (pad (expect x pa c0 c1))[3]? = some (.string L1) := ⟨_, _, rfl, rfl⟩
          rw [hL0] at c0' d0'
          rw [hL1] at c1' d1'
          clear hL0 hL1
          gi_wp2
          refine wpIn_wide.2 ?_
          go_quiet (fail)
          gi_wp2
          go_roundw
          case rel => exact ⟨1 + 1, by omega, rfl, _, rfl⟩
          case measure => simp [intOf]; omega
        · have c0' := cell_of_row _ _ 4 _ _ _ H1.out
          have c1' := cell_of_row _ _ 5 _ _ _ H1.out
          have d0' := cell_of_row _ _ 4 _ _ _ H4.out
          have d1' := cell_of_row _ _ 5 _ _ _ H4.out
          obtain ⟨L0, L1, hL0, hL1⟩ : ∃ L0 L1, (pad (expect x pa c0 c1))[4]? = some (.int .u64 L0) ∧ (pad (expect x pa c0 c1))[5]? = some (.string L1) := ⟨_, _, rfl, rfl⟩
          rw [hL0] at c0' d0'
          rw [hL1] at c1' d1'
          clear hL0 hL1
          gi_wp2
          refine wpIn_wide.2 ?_
          go_quiet (fail)
          gi_wp2
          go_roundw
          case rel => exact ⟨2 + 1, by omega, rfl, _, rfl⟩
          case measure => simp [intOf]; omega
      · gi_wp2
        have hK' : (W.drewN nq).heap[D]? = some (.deferred (some [])) := HK.out
        have hsV := hbV.size
        refine ⟨by simp, .inl ⟨_, _, rfl, run_takeDeferred hK', ?_⟩⟩
        exact ⟨_, results_tmp rfl _ _ _, rfl, (below_drewN HBB.out nq).trans (belowK_b (w := w) (Nat.le_refl _) (W.drewN nq) D _ _ (by omega) hK' rfl rfl)⟩
  case stop =>
    rintro D c pre W _ _ h _
    exact h.elim

theorem ayields_walk (x : Int) (pa c0 c1 : ByteArray) (w : World) :
    Calls Yba.prog 3 #[.int .u64 x, .string pa, .string c0, .string c1] w fun e w' => e = .returned (.bool true) ∧ Below w.heap.size w w' :=
  callsIn_wide.1 (ayields_in x pa c0 c1 5 (Nat.le_refl _) w)
end Go.Proofs.Ybulkafho
