import Derived.Test.YbulkaficItems
namespace Go.Proofs.Ybulkafic
open Go.RowKit Go.Maps Go.Shelf
set_option linter.unusedVariables false
attribute [local go_sem ↓] eql52 neq52
attribute [local go_sem] Oper.semAt_some

/-- All but two blocks lie as they lay. -/
def But (bs r : Nat) (Z V : World) : Prop := Z.heap.size ≤ V.heap.size ∧ ∀ k, k < Z.heap.size → k ≠ bs → k ≠ r → V.heap[k]? = Z.heap[k]?

theorem But.grown {bs r : Nat} {Z V V' : World} {row : Option Nat} (h : But bs r Z V) (hg : V.grownBy V' row) (hr : ∀ k, row = some k → k = bs ∨ k = r ∨ Z.heap.size ≤ k) : But bs r Z V' :=
  ⟨Nat.le_trans h.1 hg.size, fun k hk h1 h2 => (hg.block k (Nat.lt_of_lt_of_le hk h.1) (fun e => by rcases hr k e.symm with h | h | h <;> omega)).trans (h.2 k hk h1 h2)⟩

theorem owns_same {W : World} {r n n' : Nat} {D D' : DataW Unit} (h : W.ownsMap Yba.prog 52 (plainElem Yba.prog 4) r n D) (k : W.ownsMap Yba.prog 52 (plainElem Yba.prog 4) r n' D') : D = D' := by
  obtain ⟨es, c, hb, _, _, rfl⟩ := h
  obtain ⟨es', c', hb', _, _, rfl⟩ := k
  rw [hb] at hb'
  cases hb'
  rfl

/-- What the set's map is while x is being removed. -/
def MSR (Z : World) (bs r n : Nat) (x : It) (V : World) (D : DataW Unit) : Prop :=
  V.ownsMap Yba.prog 52 (plainElem Yba.prog 4) r n D ∧ But bs r Z V ∧
    ∀ (rit : Nat) (D0 : DataW Unit) (left0 : Lit → Bool) (cnt : Nat), Z.ranges Yba.prog 52 (plainElem Yba.prog 4) r rit n D0 (fun z => left0 z && !z.sameKey (klOf x)) cnt →
      ∃ cnt', V.ranges Yba.prog 52 (plainElem Yba.prog 4) r rit n D (fun z => left0 z && !z.sameKey (klOf x)) cnt' ∧ cnt' ≤ cnt

theorem iter_ne {Z : World} {bs r rit n cnt : Nat} {D : DataW Unit} {left : Lit → Bool} {cs : Array Value} {t : TypeId} (h : Z.ranges Yba.prog 52 (plainElem Yba.prog 4) r rit n D left cnt) (hb : Z.heap[bs]? = some (.cells cs t (0, 0))) : rit ≠ bs ∧ r ≠ bs := by
  constructor
  · intro e
    obtain ⟨o, ho, hw⟩ := h.iter_walk
    rw [e, hb] at ho
    cases ho
    cases hw
  · intro e
    obtain ⟨es, c, hm, _⟩ := h.owns
    rw [e, hb] at hm
    cases hm

/-- s.remove(it) while the map may be ranged over. -/
theorem remove_R (B r bs n : Nat) (M : List It) (x : It) (hs : x.2.size ≤ maxLen) (Z : World) (h : SetR B r Z bs M n) :
    Calls Yba.prog 14 #[.pointer (some ⟨bs, 0, none⟩), .agg #[.bool x.1, .string x.2]] Z fun e V => e = .returned (.tuple #[]) ∧ SetR B r V bs (dropI M x) n ∧ Below B Z V ∧ But bs r Z V ∧ TK r n x Z V := by
  obtain ⟨one, mp, hb, hBs, hG, hh⟩ := h
  have hd := hG.drop x
  have one_case : ∀ V : World, Z.grownBy V (some bs) → But bs r Z V ∧ TK r n x Z V := fun V hg =>
    ⟨⟨hg.size, fun k hk h1 _ => hg.block k hk (by simpa using h1)⟩, fun rit D l c hr => by
      obtain ⟨n1, n2⟩ := iter_ne hr hb
      exact ⟨D, c, hr.kept hg (by simpa using n2) (by simpa using n1), Nat.le_refl _⟩⟩
  rcases hh with ⟨rfl, rfl, rfl⟩ | ⟨rfl, rfl⟩ | ⟨h2, rfl, rfl, hBr, D, hown, hm⟩
  · refine (remove_one B bs n x zE Z hb hBs).mono ?_
    rintro e V ⟨o, he, h1, h2, h3, h4, h5, h6⟩
    have ho : o = zE := by
      by_cases e : x = zE
      · exact h1 e
      · exact h2 e
    exact ⟨he, ⟨o, none, h3, hBs, hd, .inl ⟨rfl, ho, rfl⟩⟩, h4, one_case V h6⟩
  · refine (remove_one B bs n x one Z hb hBs).mono ?_
    rintro e V ⟨o, he, h1, h2, h3, h4, h5, h6⟩
    by_cases ex : x = one
    · have e1 : dropI [one] x = [] := by unfold dropI; rw [List.filter_cons, (eqI_iff one x).2 ex.symm]; rfl
      rw [e1] at hd ⊢
      exact ⟨he, ⟨o, none, h3, hBs, hd, .inl ⟨rfl, h1 ex, rfl⟩⟩, h4, one_case V h6⟩
    · have e1 : dropI [one] x = [one] := by unfold dropI; rw [List.filter_cons, (eqI_false one x).2 (Ne.symm ex)]; rfl
      rw [e1] at hd ⊢
      have ho := h2 ex
      subst ho
      exact ⟨he, ⟨o, none, h3, hBs, hd, .inr (.inl ⟨rfl, rfl⟩)⟩, h4, one_case V h6⟩
  · have hrb : r ≠ bs := fun e => by
      obtain ⟨es, c, h, _⟩ := hown
      rw [e, hb] at h
      cases h
    have lr := hown.lt
    refine (remove_map B bs r n D M x hs Z hb hBs hG h2 hBr (MSR Z bs r n x) (fun _ _ h => h.1)
      (fun V V' D row h hg hr => ?_) (fun V D h => ?_) ⟨hown, ⟨Nat.le_refl _, fun _ _ _ _ => rfl⟩, fun rit D0 l c hrg => ⟨c, by rw [owns_same hown hrg.owns]; exact hrg, Nat.le_refl _⟩⟩ hm).mono ?_
    · obtain ⟨q1, q2, q3⟩ := h
      refine ⟨q1.kept hg (fun e => by rcases hr r e.symm with h | h <;> omega), q2.grown hg (fun k e => by rcases hr k e with h | h; exact .inl h; exact .inr (.inr h)), fun rit D0 l c hrg => ?_⟩
      obtain ⟨c', q4, q5⟩ := q3 rit D0 l c hrg
      have n1 := (iter_ne hrg hb).1
      have l1 := hrg.lt
      exact ⟨c', q4.kept hg (fun e => by rcases hr r e.symm with h | h <;> omega) (fun e => by rcases hr rit e.symm with h | h <;> omega), q5⟩
    · obtain ⟨q1, q2, q3⟩ := h
      obtain ⟨w2, hrun, ho2, ht⟩ := q1.drop law Yba.underlying70 (keyOf_enc x hs) 0
      have hrun' := hrun
      unfold enc at hrun
      refine ⟨w2, fun ty => hrun, ⟨ho2, q2.grown ht.grown (fun k e => by cases e; exact .inr (.inl rfl)), fun rit D0 l c hrg => ?_⟩, ht⟩
      obtain ⟨c', q4, q5⟩ := q3 rit D0 l c hrg
      obtain ⟨w3, c3, hrun3, hrg3, hle3, _⟩ := q4.drop law Yba.underlying70 (keyOf_enc x hs) 0
      rw [hrun'] at hrun3
      cases hrun3
      refine ⟨c3, ?_, by omega⟩
      have e := Maps.strike_twice l (klOf x)
      rw [← e]
      exact hrg3
    · rintro e V ⟨one, mp, he, hb', hc, hms, hB, hK⟩
      obtain ⟨q1, q2, q3⟩ := hms
      refine ⟨he, ⟨one, mp, hb', hBs, hd, ?_⟩, hB, q2, fun rit D0 l c hrg => ?_⟩
      · rcases hc with ⟨h1, h3⟩ | ⟨h1, h3, h4⟩
        · exact .inr (.inl ⟨h1, h3⟩)
        · exact .inr (.inr ⟨h1, h3, h4, hBr, _, q1, hm.del (hown.tidy law) hG.nodup x hs⟩)
      · obtain ⟨c', q4, q5⟩ := q3 rit D0 l c hrg
        exact ⟨_, c', q4, q5⟩

theorem SetIs.named2 {B : Nat} {W : World} {bs : Nat} {M : List It} {n : Nat} (h : SetIs B W bs M n) : ∃ r, r < W.heap.size ∧ SetR B r W bs M n ∧ (∀ cu, W.heap[r]? ≠ some (.cells cu 52 (0, 0))) := by
  obtain ⟨one, mp, hb, hBs, hG, h | h | ⟨h2, h3, r, D, h4, h5, h6, h7⟩⟩ := h
  · exact ⟨bs, (Array.getElem?_eq_some_iff.1 hb).1, ⟨one, mp, hb, hBs, hG, .inl h⟩, fun cu e => by rw [hb] at e; cases e⟩
  · exact ⟨bs, (Array.getElem?_eq_some_iff.1 hb).1, ⟨one, mp, hb, hBs, hG, .inr (.inl h)⟩, fun cu e => by rw [hb] at e; cases e⟩
  · refine ⟨r, h6.lt, ⟨one, mp, hb, hBs, hG, .inr (.inr ⟨h2, h3, h4, h5, D, h6, h7⟩)⟩, fun cu e => ?_⟩
    obtain ⟨es, c, hm, _⟩ := h6
    rw [hm] at e; cases e

theorem grown_drew {W X : World} {row : Option Nat} (h : W.grownBy X row) : W.grownBy X.drew row := ⟨h.os, h.tape, h.output, h.size, h.block⟩

/-- What is left of the set when the items of pre have been removed. -/
def cur (M pre : List It) : List It := pre.foldl dropI M
theorem cur_snoc (M pre : List It) (x : It) : cur M (pre ++ [x]) = dropI (cur M pre) x := by unfold cur; rw [List.foldl_append]; rfl
theorem mem_cur : ∀ (pre M : List It) (y : It), y ∈ cur M pre ↔ y ∈ M ∧ y ∉ pre
  | [], M, y => by unfold cur; simp
  | x :: pre, M, y => by
    have h := mem_cur pre (dropI M x) y
    have e : cur M (x :: pre) = cur (dropI M x) pre := rfl
    rw [e, h, mem_dropI]
    simp
    exact and_assoc
theorem cur_all {M xs : List It} (hM : M.Nodup) (hx : xs.Nodup) (hs : ∀ x ∈ xs, x ∈ M) (hl : xs.length = M.length) : cur M xs = [] := by
  rw [List.eq_nil_iff_forall_not_mem]
  intro y hy
  obtain ⟨h1, h2⟩ := (mem_cur xs M y).1 hy
  have h3 := length_le_of_sub (y :: xs) M (List.nodup_cons.2 ⟨h2, hx⟩) hM (fun z hz => by
    rcases List.mem_cons.1 hz with rfl | h
    · exact h1
    · exact hs z h)
  simp at h3
  omega

set_option maxHeartbeats 800000 in
/-- s.has(it) on an empty set. -/
theorem has_none (B r bs n : Nat) (x : It) (hx : x ≠ zE) (W : World) (h : SetR B r W bs [] n) : Calls Yba.prog 15 #[.pointer (some ⟨bs, 0, none⟩), .agg #[.bool x.1, .string x.2]] W fun e W' => e = .returned (.bool false) ∧ W.grownBy W' none := by
  obtain ⟨one, mp, hb, hBs, hG, hh⟩ := h
  obtain ⟨rfl, rfl⟩ : one = zE ∧ mp = none := by
    rcases hh with ⟨_, h1, h2⟩ | ⟨h, _⟩ | ⟨h, _⟩
    · exact ⟨h1, h2⟩
    · cases h
    · simp at h
  have q0 : W.cell? ⟨bs, 0, none⟩ = some (.bool false) := cell_of_row _ _ 0 _ _ _ hb
  have q1 : W.cell? ⟨bs, 1, none⟩ = some (.string { data := #[] }) := cell_of_row _ _ 1 _ _ _ hb
  have q2 : W.cell? ⟨bs, 2, none⟩ = some (.map none) := cell_of_row _ _ 2 _ _ _ hb
  have qn := n70
  have lb : bs < W.heap.size := (Array.getElem?_eq_some_iff.1 hb).1
  have ez : eqI (x.1, x.2) (false, { data := #[] }) = false := (eqI_false _ _).2 hx
  clear hb hh hG
  go_enter Yba.func15, Yba.ntmps15
  go_wp2_with fail
  go_quiet (fail)
  go_wp2
  go_ret
  exact ⟨rfl, rfl, rfl, rfl, by show _ ≤ (W.alloc _).heap.size; simp, fun k hk _ => Below.heap_alloc W _ k hk⟩

theorem ModelIs.but {Z V : World} {B bs r : Nat} {ao : Option Addr} {cap : Nat} {L : List It} (h : ModelIs Z B ao cap L) (hb : But bs r Z V) (hne : ∀ g, (Value.slice ao L.length cap).ownBlock = some g → g ≠ bs ∧ g ≠ r) : ModelIs V B ao cap L := by
  refine ⟨h.1, ?_⟩
  rcases h.2 with h0 | ⟨g, cp, cu, e, h1, h2, h3⟩
  · exact .inl h0
  · obtain ⟨n1, n2⟩ := hne g (by rw [e]; rfl)
    exact .inr ⟨g, cp, cu, e, h1, (hb.2 g (Array.getElem?_eq_some_iff.1 h2).1 n1 n2).trans h2, h3⟩

/-- 's.remove(it)' beside what else lies in memory. -/
theorem rem_step {w : World} {bG r n : Nat} {ao : Option Addr} {cap : Nat} {M M' pre : List It} {Z V : World} {x : It} (hw : w.heap.size < bG) (hr : r < bG) (h : GIx w bG r n ao cap M M' pre Z) (hMr : ∀ g, (Value.slice ao M.length cap).ownBlock = some g → g ≠ w.heap.size ∧ g ≠ r)
    (hs : SetR w.heap.size r V w.heap.size (dropI M' x) n) (hB : Below w.heap.size Z V) (hb : But w.heap.size r Z V) : GIx w bG r n ao cap M (dropI M' x) pre V := by
  obtain ⟨⟨ag, cg, h1, h2⟩, h3, h4, h5⟩ := h
  refine ⟨⟨ag, cg, (hb.2 bG (Array.getElem?_eq_some_iff.1 h1).1 (by omega) (by omega)).trans h1, h2.but hb (fun g e => ?_)⟩, hs, h4.but hb hMr, h5.trans hB⟩
  have := (h2.own g e).1
  omega

/-- The activation behind the assignment to the loop's variable. -/
def rAct (w w1 : World) (ao : Option Addr) (len cap : Nat) (ao' : Option Addr) (cap' : Nat) (M : List It) (Bx : Nat) (y : It) : Act :=
  { tmps := #[Value.slice ao len cap, undef, Value.bool false, Value.pointer (some { block := w1.heap.size, off := 0 }),
          Value.slice ao' M.length cap', Value.pointer (some { block := w1.heap.size + 1, off := 0 }), Value.pointer (some { block := Bx, off := 0 }), undef,
          Value.slice ao len cap, Value.int IntKind.i64 (len : Int), Value.bool (decide ((1024 : Int) < (len : Int))),
          Value.tuple #[Value.pointer (some { block := w.heap.size, off := 0 }), Value.slice ao' M.length cap'],
          Value.slice ao len cap,
          Value.tuple #[Value.pointer (some { block := w.heap.size, off := 0 }), Value.slice ao' M.length cap'],
          Value.pointer (some { block := w.heap.size, off := 0 }), Value.slice ao' M.length cap',
          Value.pointer (some { block := w.heap.size, off := 0 }),
          Value.func (Fn.func 30) #[] #[Value.pointer (some { block := w1.heap.size + 1 + 1, off := 0 })], Value.agg #[Value.bool y.1, Value.string y.2], undef, undef, undef, undef, undef, undef, undef, undef, undef, undef, undef, undef, undef, undef, undef, undef, undef, undef, undef, undef, undef, undef, undef, undef, undef, undef, undef, undef, undef, undef, undef, undef, undef, undef, undef, undef, undef, undef, undef, undef, undef, undef, undef, undef, undef, undef], defers := [] }

set_option maxRecDepth 100000 in
set_option maxHeartbeats 1600000 in
theorem call_in (ao : Option Addr) (len cap : Nat) (O : Nat → Int) (K : Nat → Bool) (N : Nat → Int) (w : World) (hc : Hid (OpsAt w ao len O K N)) (hlen : len ≤ 1024) (n : Nat) (hn : 5 ≤ n) :
    CallsIn Fence.wide n Yba.prog 5 #[.slice ao len cap] w fun e w' => e = .returned (.bool true) ∧ Below w.heap.size w w' := by
  have h1 : 1 ≤ n := by omega
  have hl1 : (len : Int) ≤ 1024 := by omega
  refine callsIn_of_wp_marks Yba.func5 rfl trivial ?_ rfl
  simp only [Yba.ntmps5, List.size_toArray, List.length_cons, List.length_nil, Nat.reduceAdd, Nat.reduceSub, Array.replicate_succ, Array.replicate_zero, List.push_toArray, List.append_toArray, List.nil_append, List.cons_append]
  gi_wp2_with (refine ⟨trivial, ?_⟩; first
    | (gi_at_call 10; refine (callsIn_wide.2 (build_any ao len cap O K N w hlen hc)).mono ?_; rintro e w1 ⟨M, ao', cap', rfl, hM, hs1, hm1, hb1⟩; (have HS1 : Hid (SetIs w.heap.size w1 w.heap.size M 2048 ∧ ModelIs w1 w.heap.size ao' cap' M ∧ Below w.heap.size w w1) := ⟨hs1, hm1, hb1⟩); clear hs1 hm1 hb1)
    | (gi_at_call 11; refine (callsIn_wide.2 (all_any _ rfl _)).mono ?_; rintro e w' ⟨rfl, rfl⟩))
  obtain ⟨i0, hi0, hz0, hz1, hz2⟩ := info_parts info52
  obtain ⟨hs1, hm1, hb1⟩ := HS1.out
  have hsz := hb1.size
  obtain ⟨cs1, hcs1⟩ := hs1.block
  have lbs : w.heap.size < w1.heap.size := (Array.getElem?_eq_some_iff.1 hcs1).1
  obtain ⟨r, hr, hsr, hrc⟩ := hs1.named2
  have hMr : Hid (∀ g, (Value.slice ao' M.length cap').ownBlock = some g → g ≠ w.heap.size ∧ g ≠ r) := fun g e => by
    obtain ⟨_, cu, hcu⟩ := hm1.own g e
    refine ⟨fun e1 => ?_, fun e1 => ?_⟩
    · rw [e1, hcs1] at hcu; cases hcu
    · rw [e1] at hcu; exact hrc cu hcu
  obtain ⟨V, hV⟩ : ∃ V, V = ((w1.alloc (.cells #[.pointer (some ⟨w.heap.size, 0, none⟩)] 44)).alloc (.cells #[.slice none 0 0] 45)).alloc (.cells #[.pointer (some ⟨w.heap.size, 0, none⟩)] 44) := ⟨_, rfl⟩
  have gV : w1.grownBy V none := by rw [hV]; exact ((World.grownBy_alloc _ _ _).trans (World.grownBy_alloc _ _ _)).trans (World.grownBy_alloc _ _ _)
  have sV : V.heap.size = w1.heap.size + 3 := by rw [hV]; simp
  have SV : Hid (V.heap.size = w1.heap.size + 3) := sV
  have lV1 : w1.heap.size + 1 < V.heap.size := by omega
  clear sV
  have pS : V.heap[w1.heap.size]? = some (.cells #[.pointer (some ⟨w.heap.size, 0, none⟩)] 44 (0, 0)) := by rw [hV]; exact heap_old (heap_old (heap_new w1 _ rfl))
  have p0 : V.heap[w1.heap.size + 1]? = some (.cells #[.slice none 0 0] 45 (0, 0)) := by rw [hV]; exact heap_old (heap_new _ _ (by simp))
  have p1 : V.heap[w1.heap.size + 1 + 1]? = some (.cells #[.pointer (some ⟨w.heap.size, 0, none⟩)] 44 (0, 0)) := by rw [hV]; exact heap_new _ _ (by simp)
  rw [← hV]
  have hVr : SetR w.heap.size r V w.heap.size M 2048 := hsr.kept gV (by simp) (by simp)
  have hI0 : GIx w (w1.heap.size + 1) r 2048 ao' cap' M M [] V := ⟨⟨none, 0, p0, World.ownsRow_nil _ _ _ _⟩, hVr, hm1.kept' gV (fun g e => by cases e), hb1.grown gV hsz (fun k e => by cases e)⟩
  have hMb : Hid (∀ g, (Value.slice ao' M.length cap').ownBlock = some g → g < w1.heap.size + 1) := fun g e => by
    obtain ⟨_, cu, hc⟩ := hm1.own g e
    have := (Array.getElem?_eq_some_iff.1 hc).1
    omega
  have hGood : Hid (Good M) := by obtain ⟨_, _, _, _, hG, _⟩ := hsr; exact hG
  clear hV hs1 hm1 hb1 HS1 hcs1 hsr gV p0 hrc
  refine range_seqT h1 (gf := 30) (lb := #[.pointer (some ⟨w1.heap.size + 1 + 1, 0, none⟩)]) rfl (enters_of Yba.func30 (by kernel_rfl) rfl)
    (items_seq w.heap.size r w.heap.size (w1.heap.size + 1 + 1) 2048 M (n - 1) (by omega) V p1 hVr) TK.trans
    (fun x W l o o' hl hc hw => TK.walks (KeepsWalks.putObj o' hl hw)) (Below.refl _ _) (fun _ => rfl)
    (fun pre W => GIx w (w1.heap.size + 1) r 2048 ao' cap' M (cur M pre) pre W ∧ W.heap[w1.heap.size]? = some (.cells #[.pointer (some ⟨w.heap.size, 0, none⟩)] 44 (0, 0)))
    (fun pre X Y row hs hg hrow => ⟨GIx.own (by omega) (by omega) (by omega) hs.1 hg hrow, (hg.block _ (Array.getElem?_eq_some_iff.1 hs.2).1 (fun e => by have := (hrow _ e.symm).1; omega)).trans hs.2⟩) ⟨hI0, pS⟩
    (fun y a' W => ∃ Bx, W.heap[Bx]? = some (.cells #[.bool y.1, .string y.2] 52 (0, 0)) ∧ w1.heap.size ≤ Bx ∧ (∃ ag k cg, W.heap[w1.heap.size + 1]? = some (.cells #[.slice ag k cg] 45 (0, 0)) ∧ (Value.slice ag k cg).ownBlock ≠ some Bx) ∧ a' = rAct w w1 ao len cap ao' cap' M Bx y)
    (fun y a' _ X Y row hs hg hrow => ?hax) ?assign ?body ?done
  case hax =>
    obtain ⟨Bx, h3, h4, ⟨ag, k, cg, h5, h6⟩, h7⟩ := hs
    refine ⟨Bx, (hg.block Bx (Array.getElem?_eq_some_iff.1 h3).1 (fun e => ?_)).trans h3, h4, ⟨ag, k, cg, (hg.block _ (Array.getElem?_eq_some_iff.1 h5).1 (fun e => ?_)).trans h5, h6⟩, h7⟩
    · obtain ⟨_, o, ho, hc⟩ := hrow Bx e.symm
      rw [h3] at ho; cases ho; cases hc
    · have := (hrow _ e.symm).1
      omega
  case assign =>
    rintro l pre y W K _ hi hK
    have HI := hid hi
    have HK := hid hK
    clear hi hK
    dsimp only [encI]
    gi_wp2
    obtain ⟨hi, hS⟩ := HI.out
    refine HK.out _ _ ((KeepsOthers.alloc _ _).from _) (TK.walks (KeepsWalks.alloc _ _)) ⟨hi.alloc _, heap_old hS⟩ ⟨W.heap.size, heap_new W _ rfl, Nat.le_of_lt (Array.getElem?_eq_some_iff.1 hS).1, ?_, rfl⟩
    obtain ⟨⟨ag, cg, hbg, hmg⟩, _⟩ := hi
    refine ⟨ag, _, cg, heap_old hbg, fun e => ?_⟩
    have h5 := (World.ownsRow.lt hmg _ e).2
    omega
  case body =>
    rintro l pre y a' W hyM ⟨hi, hS⟩ ⟨Bx, hbx, hBx, ⟨ag0, k0, cg0, hbg0, hno⟩, rfl⟩ hlt
    have HI := hid hi
    obtain ⟨⟨ag, cg, hbg, hmg⟩, _, _, hB⟩ := hi
    obtain ⟨rfl, rfl, rfl⟩ : ag0 = ag ∧ k0 = pre.length ∧ cg0 = cg := by
      rw [hbg] at hbg0
      cases hbg0
      exact ⟨rfl, rfl, rfl⟩
    have HBG := hid hbg
    have HMG := hid hmg
    have HBX := hid hbx
    have HSB := hid hS
    have HNO := hid hno
    have j0 : W.cell? ⟨w1.heap.size + 1, 0, none⟩ = some (.slice ag0 pre.length cg0) := cell_of_row _ _ 0 _ _ _ hbg
    have kf := free_of hbg 0
    have b0 : W.cell? ⟨Bx, 0, none⟩ = some (.bool y.1) := cell_of_row _ _ 0 _ _ _ hbx
    have b1 : W.cell? ⟨Bx, 1, none⟩ = some (.string y.2) := cell_of_row _ _ 1 _ _ _ hbx
    have lG : w1.heap.size + 1 < W.heap.size := (Array.getElem?_eq_some_iff.1 hbg).1
    have hys : y.2.size ≤ maxLen := hGood.out.size y hyM
    have hBG : Bx ≠ w1.heap.size + 1 := fun e => by rw [e, hbg] at hbx; cases hbx
    have hf14 : (Fence.wide.inRound l).fn 14 := trivial
    have hdep : 1 ≤ n - 1 - 1 := by omega
    unfold rAct
    clear hbg hmg hbx hB hbg0 hno hS
    gi_wp2_with (first
      | (gi_at_builtin; refine wpListIn_append_own _ rfl _ _ 45 rfl (w1.heap.size + 1) 52 i0 _ 2 24 Yba.underlying45 hi0 hz0 hz1 hz2 rfl (by decide) (.slice ag0 pre.length cg0) pre.length (itemCells pre) rfl (World.ownsRow.alloc HMG.out _) ⟨W.heap.size, 0, none⟩ 1 1 [.bool y.1, .string y.2] rfl rfl (World.news_of_block (t := 52) (fr := (0, 0)) (heap_alloc_new W _)) (by simp [Value.oneCell']) (by unfold maxLen; omega) (by omega) (by simp; omega) ?_; intro v' W4 hown4 hgr4 _; (obtain ⟨ao2, cap2, hv, _⟩ := model_of (L := pre ++ [y]) (by rw [itemCells_snoc, List.length_append]; exact hown4)); (rw [show (pre ++ [y]).length = pre.length + 1 by simp] at hv); (subst hv); (have HW4 := hid (got_step (by omega) HI.out hMb.out HBG.out HMG.out hown4 hgr4 V.heap.size)); (have b4 : W4.heap[w1.heap.size + 1]? = some (.cells #[.slice ag0 pre.length cg0] 45 (0, 0)) := got_box HBG.out HMG.out hgr4); (have t0 : W4.cell? ⟨w1.heap.size + 1, 0, none⟩ = some (.slice ag0 pre.length cg0) := cell_of_row _ _ 0 _ _ _ b4); (have t1 := free_of b4 0); (have m0 : W4.cell? ⟨w1.heap.size, 0, none⟩ = some (.pointer (some ⟨w.heap.size, 0, none⟩)) := hgr4.cell (cell_of_row _ _ 0 _ _ _ (heap_old HSB.out)) (fun e => absurd (HMG.out.own w1.heap.size e.symm).1 (Nat.not_succ_le_self _))); (have m1 : W4.cell? ⟨Bx, 0, none⟩ = some (.bool y.1) := hgr4.cell (cell_of_row _ _ 0 _ _ _ (heap_old HBX.out)) (fun e => HNO.out e.symm)); (have m2 : W4.cell? ⟨Bx, 1, none⟩ = some (.string y.2) := hgr4.cell (cell_of_row _ _ 1 _ _ _ (heap_old HBX.out)) (fun e => HNO.out e.symm)); clear hown4 hgr4 b4)
      | (gi_at_call 14; refine ((callsIn_wide.2 (remove_R w.heap.size r w.heap.size 2048 (cur M pre) y hys _ HW4.out.2.2.1.2.1)).inRound l).mono ?_; rintro e V5 ⟨rfl, s5, l5, t5, u5⟩)
      | (refine ⟨trivial, ?_⟩; gi_at_call 14; refine ((callsIn_wide.2 (remove_R w.heap.size r w.heap.size 2048 (cur M pre) y hys _ HW4.out.2.2.1.2.1)).inRound l).mono ?_; rintro e V5 ⟨rfl, s5, l5, t5, u5⟩))
    obtain ⟨z1, z2, z3, z4⟩ := HW4.out
    have e5 : cur M (pre ++ [y]) = dropI (cur M pre) y := cur_snoc M pre y
    have hZs : V.heap.size ≤ V.heap.size := Nat.le_refl _
    refine ⟨?_, TK.trans (TK.walks z2) u5, ?_, ?_⟩
    · refine KeepsFrom.trans z1 ⟨t5.1, fun k o hk ho hc => ?_⟩
      exact (t5.2 k (Array.getElem?_eq_some_iff.1 ho).1 (by omega) (by omega)).trans ho
    · rw [e5]
      exact rem_step (by omega) (by omega) z3 hMr.out s5 l5 t5
    · have hz := z4 _ _ HSB.out (by omega) (by intro cu h; cases h)
      exact (t5.2 _ (Array.getElem?_eq_some_iff.1 hz).1 (by omega) (by omega)).trans hz
  case done =>
    rintro D xs W hD ⟨hnd, hsub, hl⟩ ⟨hi, hS⟩ hK
    obtain ⟨⟨ag, cg, hbg, hmg⟩, hsR, hmM, hB⟩ := hi
    rw [cur_all hGood.out.nodup hnd hsub hl] at hsR
    have k0 : W.cell? ⟨w1.heap.size + 1, 0, none⟩ = some (.slice ag M.length cg) := by rw [← hl]; exact cell_of_row _ _ 0 _ _ _ hbg
    have kS : W.cell? ⟨w1.heap.size, 0, none⟩ = some (.pointer (some ⟨w.heap.size, 0, none⟩)) := cell_of_row _ _ 0 _ _ _ hS
    have HF : Hid (xs.Nodup ∧ (∀ x ∈ xs, x ∈ M) ∧ xs.length = M.length) := ⟨hnd, hsub, hl⟩
    have HG := hid hmg
    have HMM := hid hmM
    have HSR := hid hsR
    have HB := hid hB
    have HK := hid hK
    clear hnd hsub hbg hmg hmM hsR hB hK hl p1 hVr hI0 pS hS
    gi_wp2_with (refine ⟨trivial, ?_⟩; gi_at_call 12; refine (callsIn_wide.2 (len_any w.heap.size r w.heap.size 2048 [] W HSR.out (by simp))).mono ?_; rintro e w' ⟨rfl, hw'⟩; rw [hw']; clear hw' w')
    gi_loopw [7] (fun i wr => ∃ k : Nat, k ≤ M.length ∧ i = .int .i64 k ∧ W.grownBy wr none) (fun i _ => M.length - (intOf i).toNat)
    case atStart => exact ⟨0, Nat.zero_le _, rfl, World.grownBy.refl _ _⟩
    case round =>
      obtain ⟨k, hk, rfl, hgw⟩ := hrel
      have HGW := hid hgw
      have j0 : wr.cell? ⟨w1.heap.size + 1, 0, none⟩ = some (.slice ag M.length cg) := hgw.cell k0 (by simp)
      have jS : wr.cell? ⟨w1.heap.size, 0, none⟩ = some (.pointer (some ⟨w.heap.size, 0, none⟩)) := hgw.cell kS (by simp)
      have HKS := hid kS
      clear hgw k0 kS
      by_cases hlt : k < M.length
      · have hk1 : (k : Int) < (M.length : Int) := by omega
        have hk2 : (0 : Int) ≤ (k : Int) := Int.natCast_nonneg _
        obtain ⟨f1, f2, f3⟩ := HF.out
        have hcap := HG.out.cap_le (by omega)
        have hk3 : (k : Int) ≤ (cg : Int) := by omega
        have hin := in_at f2 k (by omega)
        have hno := fresh_at f1 k (by omega)
        have RG : Hid (∀ w', W.grownBy w' none → RowAt w' ag xs) := fun w' hg => (ModelIs.kept' HG.out hg (fun g e => by cases e)).row
        have RM : Hid (∀ w', W.grownBy w' none → RowAt w' ao' M) := fun w' hg => (ModelIs.kept' HMM.out hg (fun g e => by cases e)).row
        have RS : Hid (∀ w', W.grownBy w' none → SetR w.heap.size r w' w.heap.size [] 2048) := fun w' hg => HSR.out.kept hg (by simp) (by simp)
        obtain ⟨g, off, rfl, hcc⟩ := RG.out wr HGW.out (by omega)
        obtain ⟨c0, c1⟩ := hcc k (by omega)
        have hle : k ≤ xs.length := by omega
        have hxl : xs.length ≤ 100000 := by omega
        have hM1 : M.length ≤ 100000 := by omega
        generalize xs.getD k zI = y at hin hno c0 c1
        have hyz : Hid (y ≠ zE) := fun e => hGood.out.zero (by rw [← e]; exact (memB_iff _ _).1 hin)
        have HN : Hid (memB (xs.take k) y = false ∧ memB M y = true) := ⟨hno, hin⟩
        clear f1 f2 f3 hcap hcc hin hno
        gi_wp2_with fail
        refine wpIn_wide.2 ?_
        go_region_held3 (fun w' => w'.cell? ⟨w1.heap.size + 1, 0, none⟩ = some (.slice (some ⟨g, off, none⟩) M.length cg) ∧ w'.cell? ⟨g, off + k * 2, none⟩ = some (.bool y.1) ∧ w'.cell? ⟨g, off + k * 2 + 1, none⟩ = some (.string y.2) ∧ W.grownBy w' none)
          (first
            | exact ⟨j0, c0, c1, grown_drew HGW.out⟩
            | (go_split_ands
               refine ⟨?_, ?_, ?_, ?_⟩ <;> assumption)
            | (go_split_ands
               refine ⟨?_, ?_, ?_, ?_⟩
               · exact g3.cell (by assumption) (by simp)
               · exact g3.cell (by assumption) (by simp)
               · exact g3.cell (by assumption) (by simp)
               · exact World.grownBy.trans (by assumption) g3)
            | go_keep)
          ((first
            | (go_at_call 13; with_reducible refine (in_any ao' M cap' y.1 y.2 hM1 _ (hid (RM.out _ (by go_split_ands; assumption)))).mono ?_; rintro e w3 ⟨rfl, l3⟩; (have g3 := below_grown l3 none); rw [show memB M (y.1, y.2) = true from HN.out.2])
            | (go_at_call 13; with_reducible refine (in_take (y := y) (RG.out _ (by go_split_ands; assumption)) hle hxl).mono ?_; rintro e w3 ⟨rfl, l3⟩; (have g3 := below_grown l3 none); rw [HN.out.1])))
        go_split_ands
        have HG3 : Hid (W.grownBy w3 none) := by show W.grownBy w3 none; assumption
        have d0 : w3.cell? ⟨w1.heap.size + 1, 0, none⟩ = some (.slice (some ⟨g, off, none⟩) M.length cg) := by assumption
        have d1 : w3.cell? ⟨g, off + k * 2, none⟩ = some (.bool y.1) := by assumption
        have d2 : w3.cell? ⟨g, off + k * 2 + 1, none⟩ = some (.string y.2) := by assumption
        have d3 : w3.cell? ⟨w1.heap.size, 0, none⟩ = some (.pointer (some ⟨w.heap.size, 0, none⟩)) := HG3.out.cell HKS.out (by simp)
        clear j0 jS c0 c1
        gi_wp2_with fail
        refine wpIn_wide.2 ?_
        go_region_held3 (fun w' => w'.cell? ⟨w1.heap.size + 1, 0, none⟩ = some (.slice (some ⟨g, off, none⟩) M.length cg) ∧ w'.cell? ⟨g, off + k * 2, none⟩ = some (.bool y.1) ∧ w'.cell? ⟨g, off + k * 2 + 1, none⟩ = some (.string y.2) ∧ w'.cell? ⟨w1.heap.size, 0, none⟩ = some (.pointer (some ⟨w.heap.size, 0, none⟩)) ∧ W.grownBy w' none)
          (first
            | exact ⟨d0, d1, d2, d3, grown_drew HG3.out⟩
            | (go_split_ands
               refine ⟨?_, ?_, ?_, ?_, ?_⟩ <;> assumption)
            | (go_split_ands
               refine ⟨?_, ?_, ?_, ?_, ?_⟩
               · exact g5.cell (by assumption) (by simp)
               · exact g5.cell (by assumption) (by simp)
               · exact g5.cell (by assumption) (by simp)
               · exact g5.cell (by assumption) (by simp)
               · exact World.grownBy.trans (by assumption) g5)
            | go_keep)
          ((go_at_call 15; with_reducible refine (has_none w.heap.size r w.heap.size 2048 y hyz.out _ (RS.out _ (by go_split_ands; assumption))).mono ?_; rintro e w5 ⟨rfl, g5⟩))
        go_split_ands
        have HG5 : Hid (W.grownBy w5 none) := by show W.grownBy w5 none; assumption
        clear d0 d1 d2 d3
        gi_wp2
        go_roundw
        case rel => exact ⟨k + 1, by omega, by go_num, HG5.out⟩
        case measure => simp [intOf]; omega
      · gi_wp2
        have hK' : wr.heap[D]? = some (.deferred (some [])) := (HGW.out.block D (Array.getElem?_eq_some_iff.1 HK.out).1 (by simp)).trans HK.out
        have hBr : Below w.heap.size w wr := HB.out.grown HGW.out HB.out.size (fun k e => by cases e)
        refine ⟨by simp, .inl ⟨_, _, rfl, run_takeDeferred hK', ?_⟩⟩
        exact ⟨_, results_tmp rfl _ _ _, rfl, hBr.trans (belowK_b (w := w) (Nat.le_refl _) wr D _ _ (by omega) hK' rfl rfl)⟩

theorem call_walk (ao : Option Addr) (len cap : Nat) (O : Nat → Int) (K : Nat → Bool) (N : Nat → Int) (w : World) (hc : Hid (OpsAt w ao len O K N)) (hm : len ≤ maxLen) :
    Calls Yba.prog 5 #[.slice ao len cap] w fun e w' => e = .returned (.bool true) ∧ Below w.heap.size w w' := by
  by_cases hlen : len ≤ 1024
  · exact callsIn_wide.1 (call_in ao len cap O K N w hc hlen 5 (Nat.le_refl _))
  · have hl1 : (1024 : Int) < (len : Int) := by omega
    go_enter Yba.func5, Yba.ntmps5
    go_wp2
    go_ret
    exact ⟨rfl, Below.refl _ _⟩
end Go.Proofs.Ybulkafic
