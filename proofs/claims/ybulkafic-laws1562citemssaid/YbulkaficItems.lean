import Derived.Test.YbulkaficIter
import Derived.Test.YbulkaficStop
namespace Go.Proofs.Ybulkafic
open Go.RowKit Go.Maps Go.Shelf
set_option linter.unusedVariables false
attribute [local go_sem ↓] eql52 neq52
attribute [local go_sem] Oper.semAt_some

theorem SetR.kept' {B r bs : Nat} {W W' : World} {M : List It} {n : Nat} {row : Option Nat} (h : SetR B r W bs M n) (hg : W.grownBy W' row) (hrow : ∀ g, row = some g → ∃ cur t, W.heap[g]? = some (.cells cur t (0, 0)) ∧ t ≠ 72) : SetR B r W' bs M n := by
  obtain ⟨one, mp, hb, hBs, hG, hh⟩ := h
  refine ⟨one, mp, (hg.block bs (Array.getElem?_eq_some_iff.1 hb).1 (fun e => ?_)).trans hb, hBs, hG, ?_⟩
  · obtain ⟨cur, t, hc, ht⟩ := hrow bs e.symm
    rw [hb] at hc; cases hc; exact ht rfl
  rcases hh with h | h | ⟨h2, h3, h4, h5, D, h6, h7⟩
  · exact .inl h
  · exact .inr (.inl h)
  · refine .inr (.inr ⟨h2, h3, h4, h5, D, h6.kept hg (fun e => ?_), h7⟩)
    obtain ⟨cur, t, hc, _⟩ := hrow r e.symm
    obtain ⟨es, c, hm, _⟩ := h6
    rw [hm] at hc; cases hc

/-- What lies in memory between two rounds: 'got' holds pre, the set holds M', the model holds M. -/
def GIx (w : World) (bG r n : Nat) (ao : Option Addr) (cap : Nat) (M M' pre : List It) (W : World) : Prop :=
  (∃ ag cg, W.heap[bG]? = some (.cells #[.slice ag pre.length cg] 45 (0, 0)) ∧ ModelIs W bG ag cg pre) ∧ SetR w.heap.size r W w.heap.size M' n ∧ ModelIs W w.heap.size ao cap M ∧ Below w.heap.size w W

theorem row_ne {W : World} {B : Nat} {v : Value} {k : Nat} {xs : List Value} {row : Option Nat} {C : Nat} (h : W.ownsRow B 52 2 v k xs) (hr : ∀ q, row = some q → C ≤ q ∧ ∃ o : Obj, W.heap[q]? = some o ∧ o.isCells = false) : v.ownBlock = none ∨ v.ownBlock ≠ row := by
  rcases ho : v.ownBlock with _ | g
  · exact .inl rfl
  · refine .inr (fun e => ?_)
    obtain ⟨_, o, h1, h2⟩ := hr g e.symm
    rcases h.2 with ⟨rfl, _⟩ | ⟨g', cp, cur, rfl, _, h3, _⟩
    · cases ho
    · simp [Value.ownBlock] at ho
      subst ho
      rw [h3] at h1
      cases h1
      cases h2

theorem GIx.own {w : World} {bG r n : Nat} {ao : Option Addr} {cap : Nat} {M M' pre : List It} {C : Nat} (hG : bG < C) (hw : w.heap.size < bG) (hr : r < C) {X Y : World} {row : Option Nat} (h : GIx w bG r n ao cap M M' pre X) (hg : X.grownBy Y row)
    (hrow : ∀ q, row = some q → C ≤ q ∧ ∃ o : Obj, X.heap[q]? = some o ∧ o.isCells = false) : GIx w bG r n ao cap M M' pre Y := by
  obtain ⟨⟨ag, cg, h1, h2⟩, h3, h4, h5⟩ := h
  have ne : ∀ k, k < C → some k ≠ row := fun k hk e => by have := (hrow k e.symm).1; omega
  refine ⟨⟨ag, cg, (hg.block bG (Array.getElem?_eq_some_iff.1 h1).1 (ne _ hG)).trans h1, World.ownsRow.kept h2 hg (row_ne h2 hrow)⟩, h3.kept hg (ne _ (by omega)) (ne _ hr), World.ownsRow.kept h4 hg (row_ne h4 hrow), h5.grown hg h5.size (fun k e => by have := (hrow k e).1; omega)⟩

theorem GIx.alloc {w : World} {bG r n : Nat} {ao : Option Addr} {cap : Nat} {M M' pre : List It} {X : World} (h : GIx w bG r n ao cap M M' pre X) (o : Obj) : GIx w bG r n ao cap M M' pre (X.alloc o) := by
  obtain ⟨⟨ag, cg, h1, h2⟩, h3, h4, h5⟩ := h
  exact ⟨⟨ag, cg, heap_old h1, World.ownsRow.alloc h2 o⟩, h3.kept (World.grownBy_alloc X o none) (by simp) (by simp), World.ownsRow.alloc h4 o, h5.alloc h5.size o⟩

theorem got_box {bG : Nat} {pre : List It} {W W4 : World} {ag : Option Addr} {cg : Nat} {o : Obj} (hbox : W.heap[bG]? = some (.cells #[.slice ag pre.length cg] 45 (0, 0))) (hmod : ModelIs W bG ag cg pre) (hgr : (W.alloc o).grownBy W4 (Value.slice ag pre.length cg).ownBlock) :
    W4.heap[bG]? = some (.cells #[.slice ag pre.length cg] 45 (0, 0)) :=
  (hgr.block bG (Array.getElem?_eq_some_iff.1 (heap_old (o' := o) hbox)).1 (fun e => by
    obtain ⟨_, cur, hc⟩ := ModelIs.own (World.ownsRow.alloc hmod o) bG e.symm
    rw [heap_old hbox] at hc; cases hc)).trans (heap_old hbox)

/-- 'got = append(got, it)'. -/
theorem got_step {w : World} {bG r n : Nat} {ao : Option Addr} {cap : Nat} {M M' pre : List It} {W W4 : World} {x : It} {ag : Option Addr} {cg : Nat} {v : Value} {o : Obj} (hw : w.heap.size < bG) (h : GIx w bG r n ao cap M M' pre W) (hMb : ∀ g, (Value.slice ao M.length cap).ownBlock = some g → g < bG)
    (hbox : W.heap[bG]? = some (.cells #[.slice ag pre.length cg] 45 (0, 0))) (hmod : ModelIs W bG ag cg pre) (hown : W4.ownsRow bG 52 2 v (pre.length + 1) (itemCells pre ++ [.bool x.1, .string x.2])) (hgr : (W.alloc o).grownBy W4 (Value.slice ag pre.length cg).ownBlock) (C : Nat) :
    KeepsFrom C W (W4.setCell ⟨bG, 0, none⟩ v) ∧ KeepsWalks W (W4.setCell ⟨bG, 0, none⟩ v) ∧ GIx w bG r n ao cap M M' (pre ++ [x]) (W4.setCell ⟨bG, 0, none⟩ v) ∧ (∀ k ob, W.heap[k]? = some ob → k ≠ bG → (∀ cur, ob ≠ .cells cur 52 (0, 0)) → (W4.setCell ⟨bG, 0, none⟩ v).heap[k]? = some ob) := by
  obtain ⟨_, h3, h4, h5⟩ := h
  have hrow : ∀ g, (Value.slice ag pre.length cg).ownBlock = some g → bG ≤ g ∧ ∃ cur, (W.alloc o).heap[g]? = some (.cells cur 52 (0, 0)) := ModelIs.own (World.ownsRow.alloc hmod o)
  have hb4 : W4.heap[bG]? = some (.cells #[.slice ag pre.length cg] 45 (0, 0)) := (hgr.block bG (Array.getElem?_eq_some_iff.1 (heap_old (o' := o) hbox)).1 (fun e => by
    obtain ⟨_, cur, hc⟩ := hrow bG e.symm
    rw [heap_old hbox] at hc; cases hc)).trans (heap_old hbox)
  have hvr : v.ownBlock = none ∨ v.ownBlock ≠ some bG := by
    rcases ho : v.ownBlock with _ | g
    · exact .inl rfl
    · refine .inr (fun e => ?_)
      rcases hown.2 with ⟨rfl, _⟩ | ⟨g', cp, cur, rfl, _, h6, _⟩
      · cases ho
      · simp [Value.ownBlock] at ho
        subst ho
        cases e
        rw [hb4] at h6
        cases h6
  have other : ∀ k ob, W.heap[k]? = some ob → k ≠ bG → (∀ cur, ob ≠ .cells cur 52 (0, 0)) → (W4.setCell ⟨bG, 0, none⟩ v).heap[k]? = some ob := fun k ob hk hne hnc => by
    have hk1 := heap_old (o' := o) hk
    refine (Below.heap_setCell _ _ _ k hne).trans ((hgr.block k (Array.getElem?_eq_some_iff.1 hk1).1 (fun e => ?_)).trans hk1)
    obtain ⟨_, cur, hc⟩ := hrow k e.symm
    rw [hk1] at hc
    cases hc
    exact hnc cur rfl
  have hsz : W.heap.size ≤ (W4.setCell ⟨bG, 0, none⟩ v).heap.size := by
    have h1 := hgr.size
    have h2 := (grown_set W4 bG 0 v).size
    simp at h1
    omega
  have keep : ∀ k (ob : Obj), W.heap[k]? = some ob → ob.isCells = false → (W4.setCell ⟨bG, 0, none⟩ v).heap[k]? = some ob := fun k ob hk hc => other k ob hk (fun e => by rw [e, hbox] at hk; cases hk; cases hc) (fun cur e => by rw [e] at hc; cases hc)
  refine ⟨⟨hsz, fun k ob _ hk hc => keep k ob hk hc⟩, ⟨hsz, fun k ob hk hc => keep k ob hk (Obj.not_cells_of_walk hc)⟩, ⟨?_, ?_, ?_, ?_⟩, other⟩
  · have hb5 : (W4.setCell ⟨bG, 0, none⟩ v).heap[bG]? = some (.cells #[v] 45 (0, 0)) := by rw [heap_set hb4 0 v]; rfl
    have h6 : (W4.setCell ⟨bG, 0, none⟩ v).ownsRow bG 52 2 v (pre ++ [x]).length (itemCells (pre ++ [x])) := by
      rw [itemCells_snoc, List.length_append]
      exact World.ownsRow.kept hown (grown_set W4 bG 0 v) hvr
    obtain ⟨ag', cg', hv, hm⟩ := model_of h6
    exact ⟨ag', cg', by rw [hb5, hv], hm⟩
  · refine (((h3.kept (World.grownBy_alloc W o none) (by simp) (by simp)).kept' hgr (fun g e => ?_)).kept' (grown_set W4 bG 0 v) (fun g e => ?_))
    · obtain ⟨_, cur, hc⟩ := hrow g e
      exact ⟨cur, 52, hc, by decide⟩
    · cases e
      exact ⟨_, 45, hb4, by decide⟩
  · refine World.ownsRow.kept (World.ownsRow.kept (World.ownsRow.alloc h4 o) hgr ?_) (grown_set W4 bG 0 v) ?_
    · rcases ho : (Value.slice ao M.length cap).ownBlock with _ | g
      · exact .inl rfl
      · refine .inr (fun e => ?_)
        have h7 := hMb g ho
        have h8 := (hrow g e.symm).1
        omega
    · rcases ho : (Value.slice ao M.length cap).ownBlock with _ | g
      · exact .inl rfl
      · refine .inr (fun e => ?_)
        cases e
        have h7 := hMb bG ho
        omega
  · exact ((h5.alloc h5.size o).grown hgr (by have := h5.size; simp; omega) (fun g e => by have := (hrow g e).1; omega)).setCell (p := ⟨bG, 0, none⟩) (by show w.heap.size ≤ bG; omega) v

set_option maxHeartbeats 800000 in
/-- s.len(). -/
theorem len_any (B r bs n : Nat) (M : List It) (W : World) (h : SetR B r W bs M n) (hM : M.length ≤ 100000) : Calls Yba.prog 12 #[.pointer (some ⟨bs, 0, none⟩)] W fun e W' => e = .returned (.int .i64 M.length) ∧ W' = W := by
  obtain ⟨one, mp, hb, hBs, hG, hh⟩ := h
  have q0 : W.cell? ⟨bs, 0, none⟩ = some (.bool one.1) := cell_of_row _ _ 0 _ _ _ hb
  have q1 : W.cell? ⟨bs, 1, none⟩ = some (.string one.2) := cell_of_row _ _ 1 _ _ _ hb
  have q2 : W.cell? ⟨bs, 2, none⟩ = some (.map mp) := cell_of_row _ _ 2 _ _ _ hb
  have qn := n70
  clear hb
  rcases hh with ⟨rfl, rfl, rfl⟩ | ⟨rfl, rfl⟩ | ⟨h2, rfl, rfl, hBr, D, hown, hm⟩
  · have ez : eqI (zE.1, zE.2) (false, { data := #[] }) = true := (eqI_iff _ _).2 rfl
    go_enter Yba.func12, Yba.ntmps12
    go_wp2
    go_ret
    exact ⟨rfl, rfl⟩
  · have ez : eqI (one.1, one.2) (false, { data := #[] }) = false := (eqI_false _ _).2 (fun h => hG.zero (by rw [show one = zE from h]; simp))
    go_enter Yba.func12, Yba.ntmps12
    go_wp2
    go_ret
    exact ⟨rfl, rfl⟩
  · have HO := hid hown
    have HS : Hid (Maps.size D = M.length) := hm.size
    clear hown hm
    go_enter Yba.func12, Yba.ntmps12
    go_wp2_with (at_len; refine wpList_len_own _ rfl _ 70 rfl 52 4 Yba.underlying70 (plainElem Yba.prog 4) r n D rfl HO.out ?_; rw [HS.out])
    go_ret
    exact ⟨rfl, rfl⟩

theorem ModelIs.cap_le {W : World} {B : Nat} {ao : Option Addr} {cap : Nat} {L : List It} (h : ModelIs W B ao cap L) (h0 : 0 < L.length) : L.length ≤ cap ∧ cap ≤ maxLen := by
  rcases h.2 with ⟨_, h1⟩ | ⟨g, cp, cur, e, _, _, h3, h4, _⟩
  · omega
  · cases e
    exact ⟨h3, h4⟩

theorem in_take {W : World} {ao : Option Addr} {L : List It} {cap k : Nat} {y : It} (h : RowAt W ao L) (hk : k ≤ L.length) (hL : L.length ≤ 100000) :
    Calls Yba.prog 13 #[.slice ao k cap, .agg #[.bool y.1, .string y.2]] W fun e W' => e = .returned (.bool (memB (L.take k) y)) ∧ Below W.heap.size W W' := by
  have e : (L.take k).length = k := by rw [List.length_take]; omega
  have hr : RowAt W ao (L.take k) := fun h0 => by
    obtain ⟨g, off, ea, hc⟩ := h (by omega)
    refine ⟨g, off, ea, fun i hi => ?_⟩
    have h1 := hc i (by omega)
    have e2 : (L.take k).getD i zI = L.getD i zI := by
      simp only [List.getD, List.getElem?_take]
      rw [if_pos (by omega)]
    rw [e2]
    exact h1
  have h2 := in_any ao (L.take k) cap y.1 y.2 (by omega) W hr
  rw [e] at h2
  exact h2

theorem fresh_at {L : List It} (h : L.Nodup) (k : Nat) (hk : k < L.length) : memB (L.take k) (L.getD k zI) = false := by
  rw [memB_false]
  have h1 : (L.take (k + 1)).Nodup := h.sublist (List.take_sublist _ _)
  rw [take_snoc L k hk] at h1
  intro hm
  exact (List.nodup_append.1 h1).2.2 _ hm _ (by simp) rfl
theorem in_at {L M : List It} (h : ∀ x ∈ L, x ∈ M) (k : Nat) (hk : k < L.length) : memB M (L.getD k zI) = true := by
  rw [memB_iff]
  refine h _ ?_
  simp [List.getD, hk]

/-- The activation behind the assignment to the loop's variable. -/
def iAct (w w1 : World) (ao : Option Addr) (len cap : Nat) (ao' : Option Addr) (cap' : Nat) (M : List It) (Bx : Nat) (y : It) : Act :=
  { tmps := #[Value.slice ao len cap, undef, Value.bool false, Value.pointer (some { block := w.heap.size, off := 0 }),
          Value.slice ao' M.length cap', Value.pointer (some { block := w1.heap.size, off := 0 }), Value.pointer (some { block := Bx, off := 0 }), undef,
          Value.slice ao len cap, Value.int IntKind.i64 (len : Int), Value.bool (decide ((1024 : Int) < (len : Int))),
          Value.tuple #[Value.pointer (some { block := w.heap.size, off := 0 }), Value.slice ao' M.length cap'],
          Value.slice ao len cap,
          Value.tuple #[Value.pointer (some { block := w.heap.size, off := 0 }), Value.slice ao' M.length cap'],
          Value.pointer (some { block := w.heap.size, off := 0 }), Value.slice ao' M.length cap',
          Value.pointer (some { block := w.heap.size, off := 0 }),
          Value.func (Fn.func 30) #[] #[Value.pointer (some { block := w1.heap.size + 1, off := 0 })], Value.agg #[Value.bool y.1, Value.string y.2], undef,
          undef, undef, undef, undef, undef, undef, undef, undef, undef, undef, undef, undef, undef, undef, undef,
          undef, undef, undef, undef, undef, undef, undef, undef, undef, undef, undef, undef, undef, undef, undef,
          undef, undef, undef, undef, undef, undef], defers := [] }

set_option maxRecDepth 100000 in
set_option maxHeartbeats 1600000 in
theorem citems_in (ao : Option Addr) (len cap : Nat) (O : Nat → Int) (K : Nat → Bool) (N : Nat → Int) (w : World) (hc : Hid (OpsAt w ao len O K N)) (hlen : len ≤ 1024) (n : Nat) (hn : 5 ≤ n) :
    CallsIn Fence.wide n Yba.prog 4 #[.slice ao len cap] w fun e w' => e = .returned (.bool true) ∧ Below w.heap.size w w' := by
  have h1 : 1 ≤ n := by omega
  have hl1 : (len : Int) ≤ 1024 := by omega
  refine callsIn_of_wp_marks Yba.func4 rfl trivial ?_ rfl
  simp only [Yba.ntmps4, List.size_toArray, List.length_cons, List.length_nil, Nat.reduceAdd, Nat.reduceSub, Array.replicate_succ, Array.replicate_zero, List.push_toArray, List.append_toArray, List.nil_append, List.cons_append]
  gi_wp2_with (refine ⟨trivial, ?_⟩; first
    | (gi_at_call 10; refine (callsIn_wide.2 (build_any ao len cap O K N w hlen hc)).mono ?_; rintro e w1 ⟨M, ao', cap', rfl, hM, hs1, hm1, hb1⟩; (have HS1 : Hid (SetIs w.heap.size w1 w.heap.size M 2048 ∧ ModelIs w1 w.heap.size ao' cap' M ∧ Below w.heap.size w w1) := ⟨hs1, hm1, hb1⟩); clear hs1 hm1 hb1)
    | (gi_at_call 11; refine (callsIn_wide.2 (all_any _ rfl _)).mono ?_; rintro e w' ⟨rfl, rfl⟩))
  obtain ⟨i0, hi0, hz0, hz1, hz2⟩ := info_parts info52
  obtain ⟨hs1, hm1, hb1⟩ := HS1.out
  have hsz := hb1.size
  obtain ⟨cs1, hcs1⟩ := hs1.block
  have lbs : w.heap.size < w1.heap.size := (Array.getElem?_eq_some_iff.1 hcs1).1
  obtain ⟨r, hr, hsr⟩ := hs1.named
  obtain ⟨V, hV⟩ : ∃ V, V = ((w1.alloc (.cells #[.slice none 0 0] 45)).alloc (.cells #[.pointer (some ⟨w.heap.size, 0, none⟩)] 44)) := ⟨_, rfl⟩
  have gV : w1.grownBy V none := by rw [hV]; exact (World.grownBy_alloc _ _ _).trans (World.grownBy_alloc _ _ _)
  have sV : V.heap.size = w1.heap.size + 2 := by rw [hV]; simp
  have SV : Hid (V.heap.size = w1.heap.size + 2) := sV
  have lV1 : w1.heap.size < V.heap.size := by omega
  clear sV
  have p0 : V.heap[w1.heap.size]? = some (.cells #[.slice none 0 0] 45 (0, 0)) := by rw [hV]; exact heap_old (heap_new w1 _ rfl)
  have p1 : V.heap[w1.heap.size + 1]? = some (.cells #[.pointer (some ⟨w.heap.size, 0, none⟩)] 44 (0, 0)) := by rw [hV]; exact heap_new _ _ (by simp)
  rw [← hV]
  have hVr : SetR w.heap.size r V w.heap.size M 2048 := hsr.kept gV (by simp) (by simp)
  have hI0 : GIx w w1.heap.size r 2048 ao' cap' M M [] V := ⟨⟨none, 0, p0, World.ownsRow_nil _ _ _ _⟩, hVr, hm1.kept' gV (fun g e => by cases e), hb1.grown gV hsz (fun k e => by cases e)⟩
  have hMb : Hid (∀ g, (Value.slice ao' M.length cap').ownBlock = some g → g < w1.heap.size) := fun g e => by
    obtain ⟨_, cur, hc⟩ := hm1.own g e
    exact (Array.getElem?_eq_some_iff.1 hc).1
  have hGood : Hid (Good M) := by obtain ⟨_, _, _, _, hG, _⟩ := hsr; exact hG
  clear hV hs1 hm1 hb1 HS1 hcs1 hsr gV p0
  refine range_seqT h1 (gf := 30) (lb := #[.pointer (some ⟨w1.heap.size + 1, 0, none⟩)]) rfl (enters_of Yba.func30 (by kernel_rfl) rfl)
    (items_seq w.heap.size r w.heap.size (w1.heap.size + 1) 2048 M (n - 1) (by omega) V p1 hVr) TK.trans
    (fun x W l o o' hl hc hw => TK.walks (KeepsWalks.putObj o' hl hw)) (Below.refl _ _) (fun _ => rfl) (fun pre W => GIx w w1.heap.size r 2048 ao' cap' M M pre W)
    (fun pre X Y row hs hg hrow => GIx.own (by omega) lbs (by omega) hs hg hrow) hI0
    (fun y a' W => ∃ Bx, W.heap[Bx]? = some (.cells #[.bool y.1, .string y.2] 52 (0, 0)) ∧ a' = iAct w w1 ao len cap ao' cap' M Bx y)
    (fun y a' _ X Y row hs hg hrow => ?hax) ?assign ?body ?done
  case hax =>
    obtain ⟨Bx, h3, h4⟩ := hs
    refine ⟨Bx, (hg.block Bx (Array.getElem?_eq_some_iff.1 h3).1 (fun e => ?_)).trans h3, h4⟩
    obtain ⟨_, o, ho, hc⟩ := hrow Bx e.symm
    rw [h3] at ho; cases ho; cases hc
  case assign =>
    rintro l pre y W K _ hi hK
    have HI := hid hi
    have HK := hid hK
    clear hi hK
    dsimp only [encI]
    gi_wp2
    exact HK.out _ _ ((KeepsOthers.alloc _ _).from _) (TK.walks (KeepsWalks.alloc _ _)) (HI.out.alloc _) ⟨W.heap.size, heap_new W _ rfl, rfl⟩
  case body =>
    rintro l pre y a' W _ hi ⟨Bx, hbx, rfl⟩ hlt
    have HI := hid hi
    obtain ⟨⟨ag, cg, hbg, hmg⟩, _, _, hB⟩ := hi
    have HBG := hid hbg
    have HMG := hid hmg
    have k0 : W.cell? ⟨w1.heap.size, 0, none⟩ = some (.slice ag pre.length cg) := cell_of_row _ _ 0 _ _ _ hbg
    have kf := free_of hbg 0
    have b0 : W.cell? ⟨Bx, 0, none⟩ = some (.bool y.1) := cell_of_row _ _ 0 _ _ _ hbx
    have b1 : W.cell? ⟨Bx, 1, none⟩ = some (.string y.2) := cell_of_row _ _ 1 _ _ _ hbx
    have lG : w1.heap.size < W.heap.size := (Array.getElem?_eq_some_iff.1 hbg).1
    unfold iAct
    clear hbg hmg hbx hB
    gi_wp2_with (gi_at_builtin; refine wpListIn_append_own _ rfl _ _ 45 rfl w1.heap.size 52 i0 _ 2 24 Yba.underlying45 hi0 hz0 hz1 hz2 rfl (by decide) (.slice ag pre.length cg) pre.length (itemCells pre) rfl (World.ownsRow.alloc HMG.out _) ⟨W.heap.size, 0, none⟩ 1 1 [.bool y.1, .string y.2] rfl rfl (World.news_of_block (t := 52) (fr := (0, 0)) (heap_alloc_new W _)) (by simp [Value.oneCell']) (by unfold maxLen; omega) (by omega) (by simp; omega) ?_; intro v' W4 hown4 hgr4 _; (obtain ⟨ao2, cap2, hv, _⟩ := model_of (L := pre ++ [y]) (by rw [itemCells_snoc, List.length_append]; exact hown4)); (rw [show (pre ++ [y]).length = pre.length + 1 by simp] at hv); (subst hv); (have HW4 := hid (got_step lbs HI.out hMb.out HBG.out HMG.out hown4 hgr4 V.heap.size)); (have b4 : W4.heap[w1.heap.size]? = some (.cells #[.slice ag pre.length cg] 45 (0, 0)) := got_box HBG.out HMG.out hgr4); (have j0 : W4.cell? ⟨w1.heap.size, 0, none⟩ = some (.slice ag pre.length cg) := cell_of_row _ _ 0 _ _ _ b4); (have j1 := free_of b4 0); clear hown4 hgr4 b4)
    exact ⟨HW4.out.1, TK.walks HW4.out.2.1, HW4.out.2.2.1⟩
  case done =>
    rintro D xs W hD ⟨hnd, hsub, hl⟩ hi hK
    obtain ⟨⟨ag, cg, hbg, hmg⟩, hsR, hmM, hB⟩ := hi
    have k0 : W.cell? ⟨w1.heap.size, 0, none⟩ = some (.slice ag M.length cg) := by rw [← hl]; exact cell_of_row _ _ 0 _ _ _ hbg
    have HF : Hid (xs.Nodup ∧ (∀ x ∈ xs, x ∈ M) ∧ xs.length = M.length) := ⟨hnd, hsub, hl⟩
    have HG := hid hmg
    have HMM := hid hmM
    have HSR := hid hsR
    have HB := hid hB
    have HK := hid hK
    have lG : w1.heap.size < W.heap.size := (Array.getElem?_eq_some_iff.1 hbg).1
    clear hnd hsub hbg hmg hmM hsR hB hK hl p1 hVr hI0
    gi_wp2_with (refine ⟨trivial, ?_⟩; gi_at_call 12; refine (callsIn_wide.2 (len_any w.heap.size r w.heap.size 2048 M W HSR.out (by omega))).mono ?_; rintro e w' ⟨rfl, hw'⟩; rw [hw']; clear hw' w')
    gi_loopw [7] (fun i wr => ∃ k : Nat, k ≤ M.length ∧ i = .int .i64 k ∧ W.grownBy wr none) (fun i _ => M.length - (intOf i).toNat)
    case atStart => exact ⟨0, Nat.zero_le _, rfl, World.grownBy.refl _ _⟩
    case round =>
      obtain ⟨k, hk, rfl, hgw⟩ := hrel
      have HGW := hid hgw
      have j0 : wr.cell? ⟨w1.heap.size, 0, none⟩ = some (.slice ag M.length cg) := hgw.cell k0 (by simp)
      clear hgw k0
      by_cases hlt : k < M.length
      · have hk1 : (k : Int) < (M.length : Int) := by omega
        have hk2 : (0 : Int) ≤ (k : Int) := Int.natCast_nonneg _
        obtain ⟨f1, f2, f3⟩ := HF.out
        have hcap := HG.out.cap_le (by omega)
        have hk3 : (k : Int) ≤ (cg : Int) := by omega
        have hin := in_at f2 k (by omega)
        have hno := fresh_at f1 k (by omega)
        have RG : Hid (RowAt wr ag xs) := (ModelIs.kept' HG.out HGW.out (fun g e => by cases e)).row
        have RM : Hid (RowAt wr ao' M) := (ModelIs.kept' HMM.out HGW.out (fun g e => by cases e)).row
        obtain ⟨g, off, rfl, hcc⟩ := RG.out (by omega)
        obtain ⟨c0, c1⟩ := hcc k (by omega)
        have hle : k ≤ xs.length := by omega
        have hxl : xs.length ≤ 100000 := by omega
        generalize xs.getD k zI = y at hin hno c0 c1
        have HN : Hid (memB (xs.take k) y = false ∧ memB M y = true) := ⟨hno, hin⟩
        have HC := hid hcc
        clear f1 f2 f3 hcap hcc hin hno
        gi_wp2_with (refine ⟨trivial, ?_⟩; gi_at_call 13; refine (callsIn_wide.2 (in_any ao' M cap' y.1 y.2 (by omega) wr RM.out)).mono ?_; rintro e w2 ⟨rfl, l2⟩; (have g2 := below_grown l2 none); (have d0 := g2.cell j0 (by simp)); (have d1 := g2.cell c0 (by simp)); (have d2 := g2.cell c1 (by simp)); rw [show memB M (y.1, y.2) = true from HN.out.2])
        have HG2 := hid (HGW.out.trans g2)
        have R2 : Hid (RowAt w2 (some ⟨g, off, none⟩) xs) := (ModelIs.kept' HG.out HG2.out (fun g e => by cases e)).row
        clear l2 g2 j0 c0 c1
        refine wpIn_wide.2 ?_
        go_region_held3 (fun w' => w'.cell? ⟨w1.heap.size, 0, none⟩ = some (.slice (some ⟨g, off, none⟩) M.length cg) ∧ w'.cell? ⟨g, off + k * 2, none⟩ = some (.bool y.1) ∧ w'.cell? ⟨g, off + k * 2 + 1, none⟩ = some (.string y.2))
          (first
            | go_keep
            | (go_split_ands
               refine ⟨?_, ?_, ?_⟩
               · exact g3.cell (by assumption) (by simp)
               · exact g3.cell (by assumption) (by simp)
               · exact g3.cell (by assumption) (by simp)))
          ((go_at_call 13; refine (in_take (W := w2.drew) (y := y) R2.out hle hxl).mono ?_; rintro e w3 ⟨rfl, l3⟩; (have g3 := below_grown l3 none); rw [HN.out.1]))
        have gd : w2.grownBy w2.drew none := ⟨rfl, rfl, rfl, Nat.le_refl _, fun _ _ _ => rfl⟩
        have HG3 : Hid (W.grownBy w3 none) := (HG2.out.trans gd).trans g3
        clear g3 gd
        gi_wp2
        go_roundw
        case rel => exact ⟨k + 1, by omega, by go_num, HG3.out⟩
        case measure => simp [intOf]; omega
      · gi_wp2
        have hK' : wr.heap[D]? = some (.deferred (some [])) := (HGW.out.block D (Array.getElem?_eq_some_iff.1 HK.out).1 (by simp)).trans HK.out
        have hBr : Below w.heap.size w wr := HB.out.grown HGW.out HB.out.size (fun k e => by cases e)
        refine ⟨by simp, .inl ⟨_, _, rfl, run_takeDeferred hK', ?_⟩⟩
        exact ⟨_, results_tmp rfl _ _ _, rfl, hBr.trans (belowK_b (w := w) (Nat.le_refl _) wr D _ _ (by omega) hK' rfl rfl)⟩

theorem citems_walk (ao : Option Addr) (len cap : Nat) (O : Nat → Int) (K : Nat → Bool) (N : Nat → Int) (w : World) (hc : Hid (OpsAt w ao len O K N)) (hm : len ≤ maxLen) :
    Calls Yba.prog 4 #[.slice ao len cap] w fun e w' => e = .returned (.bool true) ∧ Below w.heap.size w w' := by
  by_cases hlen : len ≤ 1024
  · exact callsIn_wide.1 (citems_in ao len cap O K N w hc hlen 5 (Nat.le_refl _))
  · have hl1 : (1024 : Int) < (len : Int) := by omega
    go_enter Yba.func4, Yba.ntmps4
    go_wp2
    go_ret
    exact ⟨rfl, Below.refl _ _⟩
end Go.Proofs.Ybulkafic
