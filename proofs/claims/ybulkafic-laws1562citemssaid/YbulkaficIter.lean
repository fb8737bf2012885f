import Derived.Test.YbulkaficSeq
namespace Go.Proofs.Ybulkafic
open Go.RowKit Go.Maps Go.Shelf
set_option linter.unusedVariables false
attribute [local go_sem ↓] eql52 neq52
attribute [local go_sem] Oper.semAt_some

theorem hid {p : Prop} (h : p) : Hid p := h

theorem length_le_of_sub : ∀ (M L : List It), M.Nodup → L.Nodup → (∀ x ∈ M, x ∈ L) → M.length ≤ L.length
  | [], _, _, _, _ => Nat.zero_le _
  | x :: M, L, hM, hL, h => by
    obtain ⟨h1, h2⟩ := List.nodup_cons.1 hM
    have h3 := length_dropI hL x
    rw [(memB_iff L x).2 (h x (by simp)), if_pos rfl] at h3
    have h4 := length_le_of_sub M (dropI L x) h2 (hL.filter _) (fun y hy => mem_dropI.2 ⟨h y (by simp [hy]), fun e => h1 (e ▸ hy)⟩)
    simp
    omega

theorem nodup_snoc {pre : List It} {x : It} (h : pre.Nodup) (hx : x ∉ pre) : (pre ++ [x]).Nodup :=
  List.nodup_append.2 ⟨h, by simp, fun a ha b hb => by simp at hb; subst hb; exact fun e => hx (e ▸ ha)⟩

theorem sameKey_klOf (x y : It) (hx : x.2.size ≤ maxLen) (hy : y.2.size ≤ maxLen) : (klOf x).sameKey (klOf y) = eqI x y := by
  by_cases e : x = y
  · subst e
    rw [(eqI_iff x x).2 rfl]
    exact WideAt.sameKey_self (isKey x hx)
  · rw [(eqI_false x y).2 e]
    cases h : (klOf x).sameKey (klOf y)
    · rfl
    · exact absurd (klOf_inj x y hx hy (WideAt.sameKey_eq h)) e

theorem memB_snoc (pre : List It) (x z : It) : memB (pre ++ [x]) z = (memB pre z || eqI z x) := by
  rw [Bool.eq_iff_iff, memB_iff, Bool.or_eq_true, memB_iff, eqI_iff]
  simp

/-- What is still to come of M when pre has come. -/
def LeftIs (left : Lit → Bool) (M pre : List It) : Prop := ∀ y : It, y.2.size ≤ maxLen → left (klOf y) = (memB M y && !memB pre y)

theorem LeftIs.step {left : Lit → Bool} {M pre : List It} (h : LeftIs left M pre) (x : It) (hx : x.2.size ≤ maxLen) : LeftIs (fun z => left z && !z.sameKey (klOf x)) M (pre ++ [x]) := fun y hy => by
  show (left (klOf y) && !(klOf y).sameKey (klOf x)) = _
  rw [h y hy, sameKey_klOf y x hy hx, memB_snoc]
  cases memB M y <;> cases memB pre y <;> cases eqI y x <;> rfl

/-- The set, its map named. -/
def SetR (B r : Nat) (W : World) (bs : Nat) (M : List It) (n : Nat) : Prop :=
  ∃ (one : It) (mp : Option Nat), W.heap[bs]? = some (.cells #[.bool one.1, .string one.2, .map mp] 72 (0, 0)) ∧ B ≤ bs ∧ Good M ∧
    ((M = [] ∧ one = zE ∧ mp = none) ∨ (M = [one] ∧ mp = none) ∨
      (2 ≤ M.length ∧ one = zE ∧ mp = some r ∧ B ≤ r ∧ ∃ D, W.ownsMap Yba.prog 52 (plainElem Yba.prog 4) r n D ∧ MapIs D M))

theorem SetIs.named {B : Nat} {W : World} {bs : Nat} {M : List It} {n : Nat} (h : SetIs B W bs M n) : ∃ r, r < W.heap.size ∧ SetR B r W bs M n := by
  obtain ⟨one, mp, hb, hBs, hG, h | h | ⟨h2, h3, r, D, h4, h5, h6, h7⟩⟩ := h
  · exact ⟨bs, (Array.getElem?_eq_some_iff.1 hb).1, one, mp, hb, hBs, hG, .inl h⟩
  · exact ⟨bs, (Array.getElem?_eq_some_iff.1 hb).1, one, mp, hb, hBs, hG, .inr (.inl h)⟩
  · exact ⟨r, h6.lt, one, mp, hb, hBs, hG, .inr (.inr ⟨h2, h3, h4, h5, D, h6, h7⟩)⟩

theorem SetR.kept {B r bs : Nat} {W W' : World} {M : List It} {n : Nat} {row : Option Nat} (h : SetR B r W bs M n) (hg : W.grownBy W' row) (h1 : some bs ≠ row) (h2 : some r ≠ row) : SetR B r W' bs M n := by
  obtain ⟨one, mp, hb, hBs, hG, hh⟩ := h
  refine ⟨one, mp, (hg.block bs (Array.getElem?_eq_some_iff.1 hb).1 h1).trans hb, hBs, hG, ?_⟩
  rcases hh with h | h | ⟨g2, g3, g4, g5, D, g6, g7⟩
  · exact .inl h
  · exact .inr (.inl h)
  · exact .inr (.inr ⟨g2, g3, g4, g5, D, g6.kept hg h2, g7⟩)

/-- What a round must leave of the range over map r, once x has been yielded. -/
def TK (r n : Nat) (x : It) (W W' : World) : Prop := ∀ (rit : Nat) (D : DataW Unit) (left0 : Lit → Bool) (cnt : Nat), W.ranges Yba.prog 52 (plainElem Yba.prog 4) r rit n D (fun z => left0 z && !z.sameKey (klOf x)) cnt →
  ∃ (D' : DataW Unit) (cnt' : Nat), W'.ranges Yba.prog 52 (plainElem Yba.prog 4) r rit n D' (fun z => left0 z && !z.sameKey (klOf x)) cnt' ∧ cnt' ≤ cnt

theorem TK.trans {r n : Nat} {x : It} {A B C : World} (h : TK r n x A B) (k : TK r n x B C) : TK r n x A C := fun rit D l c hr => by
  obtain ⟨D1, c1, h1, h2⟩ := h rit D l c hr
  obtain ⟨D2, c2, h3, h4⟩ := k rit D1 l c1 h1
  exact ⟨D2, c2, h3, by omega⟩
theorem TK.walks {r n : Nat} {x : It} {A B : World} (h : KeepsWalks A B) : TK r n x A B := fun rit D l c hr => ⟨D, c, hr.of_walks h, Nat.le_refl _⟩

def encI (x : It) : Array Value := #[.agg #[.bool x.1, .string x.2]]

/-- The step of a range over a map of items, in the fenced walk. -/
theorem next_itemsIn {F : Fence} {m : Nat} {w : World} {ops : Array Oper} {rest : List Oper} {o : Oper} {act : Act} {Q : Exit → Act → World → Prop} (hg : o.guard = none) (it : Operand) (hop : o.op = Op.next it false) (b r n : Nat) (D : DataW Unit) (left : Lit → Bool) (cnt : Nat)
    (hit : act.eval it = .pointer (some ⟨r, 0, none⟩)) (h : w.ranges Yba.prog 52 (plainElem Yba.prog 4) b r n D left cnt)
    (hDone : Hid (cnt = 0 ∧ ∀ kl, left kl = false) → wpListIn F m Yba.prog ops Q rest (act.put o.dst (.tuple #[.bool false])) w)
    (hMore : ∀ (k : Bool) (s : ByteArray) (c : Bool) (w' : World), Hid (∃ cnt', s.size ≤ maxLen ∧ left (klOf (k, s)) = true ∧ w'.ranges Yba.prog 52 (plainElem Yba.prog 4) b r n D (fun z => left z && !z.sameKey (klOf (k, s))) cnt' ∧ cnt' < cnt ∧ w.grownBy w' (some r) ∧ w'.heap.size = w.heap.size) →
      (Instr.entry (.pointer (some ⟨r, 0, none⟩))).run Yba.prog w' = .ok (.tuple #[.agg #[.bool k, .string s], .bool c]) w' → wpListIn F m Yba.prog ops Q rest (act.put o.dst (.tuple #[.bool true, .agg #[.bool k, .string s], .bool c])) w') :
    wpListIn F m Yba.prog ops Q (o :: rest) act w :=
  wpListIn_next_ranges w hg it hop 52 law (plainElem Yba.prog 4) enc Value.bool (fun key kl h => by obtain ⟨y, hy, _⟩ := keyOf_inv key kl h; exact ⟨y, hy⟩) elem_inv b r n D left cnt hit h (fun h0 h1 => hDone ⟨h0, h1⟩)
    (fun y c kl yy w' cnt' hkey hlk hv hat hrg hlt hgr hsz hen => by
      obtain ⟨y', hy, hys, rfl⟩ := keyOf_inv _ _ hkey
      obtain rfl : y = y' := by
        obtain ⟨a, s⟩ := y
        obtain ⟨b, t⟩ := y'
        unfold enc at hy
        simp at hy
        exact Prod.ext hy.1 hy.2
      exact hMore y.1 y.2 c w' ⟨cnt', hys, hlk, hrg, hlt, hgr, hsz⟩ hen)

set_option maxRecDepth 100000 in
set_option maxHeartbeats 3200000 in
/-- s.all(), whole: each item of the set once, in some order. -/
theorem items_seq (B r bs bX n : Nat) (M : List It) (m : Nat) (hm : 1 ≤ m) (w0 : World) (hX : w0.heap[bX]? = some (.cells #[.pointer (some ⟨bs, 0, none⟩)] 44 (0, 0))) (hset : SetR B r w0 bs M n) :
    SeqT m Yba.prog 30 #[.pointer (some ⟨bX, 0, none⟩)] encI (TK r n) (fun x => x ∈ M) (fun xs => xs.Nodup ∧ (∀ x ∈ xs, x ∈ M) ∧ xs.length = M.length) M.length w0 := by
  intro l J W hW hJ hY h0
  obtain ⟨one, mp, hb0, hBs, hG, hh⟩ := hset
  have hb : W.heap[bs]? = some (.cells #[.bool one.1, .string one.2, .map mp] 72 (0, 0)) := (hW.block bs (Array.getElem?_eq_some_iff.1 hb0).1).trans hb0
  have hX' : W.heap[bX]? = some (.cells #[.pointer (some ⟨bs, 0, none⟩)] 44 (0, 0)) := (hW.block bX (Array.getElem?_eq_some_iff.1 hX).1).trans hX
  have q0 : W.cell? ⟨bs, 0, none⟩ = some (.bool one.1) := cell_of_row _ _ 0 _ _ _ hb
  have q1 : W.cell? ⟨bs, 1, none⟩ = some (.string one.2) := cell_of_row _ _ 1 _ _ _ hb
  have q2 : W.cell? ⟨bs, 2, none⟩ = some (.map mp) := cell_of_row _ _ 2 _ _ _ hb
  have qX : W.cell? ⟨bX, 0, none⟩ = some (.pointer (some ⟨bs, 0, none⟩)) := cell_of_row _ _ 0 _ _ _ hX'
  have qe := e70
  have HY : Hid (∀ pre x W1, x ∈ M → J pre W1 → pre.length < M.length → YieldAt Fence.wide (m - 1) Yba.prog l (encI x) W1 fun e W' => e = .returned (.bool true) ∧ J (pre ++ [x]) W' ∧ TK r n x W1 W') := hY
  have HJ : Hid (AbidesFrom W.heap.size J) := hJ
  have H0 : Hid (J [] W) := h0
  clear hY hJ h0 hX hX' hb
  rcases hh with ⟨rfl, rfl, rfl⟩ | ⟨rfl, rfl⟩ | ⟨h2, rfl, rfl, hBr, D, hown0, hmap⟩
  · have ez : eqI (zE.1, zE.2) (false, { data := #[] }) = true := (eqI_iff _ _).2 rfl
    refine callsIn_of_wp Yba.func30 rfl trivial ?_ rfl
    simp only [Yba.ntmps30, List.size_toArray, List.length_cons, List.length_nil, Nat.reduceAdd, Nat.reduceSub, Array.replicate_succ, Array.replicate_zero, List.push_toArray, List.append_toArray, List.nil_append, List.cons_append]
    gi_wp2
    refine bodyPost_ret (results_none rfl _ _ _) rfl ?_
    exact ⟨⟨_, rfl⟩, [], ⟨by simp, by simp, rfl⟩, H0.out⟩
  · have ez : eqI (one.1, one.2) (false, { data := #[] }) = false := (eqI_false _ _).2 (fun h => hG.zero (by rw [show one = zE from h]; simp))
    obtain ⟨fn, tmps, assign, body, hyr, hRr⟩ := HY.out [] one W (by simp) H0.out (by simp)
    dsimp only [encI] at hyr
    have HRr := hid hRr
    clear hRr
    refine callsIn_of_wp Yba.func30 rfl trivial ?_ rfl
    simp only [Yba.ntmps30, List.size_toArray, List.length_cons, List.length_nil, Nat.reduceAdd, Nat.reduceSub, Array.replicate_succ, Array.replicate_zero, List.push_toArray, List.append_toArray, List.nil_append, List.cons_append]
    gi_wp2
    refine HRr.out.mono ?_
    rintro e W3 ⟨rfl, hJ3, _⟩
    gi_wp2
    refine bodyPost_ret (results_none rfl _ _ _) rfl ?_
    exact ⟨⟨_, rfl⟩, [one], ⟨by simp, by simp, rfl⟩, hJ3⟩
  · have hown : Hid (W.ownsMap Yba.prog 52 (plainElem Yba.prog 4) r n D) := hown0.kept (below_grown hW none) (by simp)
    have HM : Hid (MapIs D M) := hmap
    clear hown0 hmap
    refine callsIn_of_wp Yba.func30 rfl trivial ?_ rfl
    simp only [Yba.ntmps30, List.size_toArray, List.length_cons, List.length_nil, Nat.reduceAdd, Nat.reduceSub, Array.replicate_succ, Array.replicate_zero, List.push_toArray, List.append_toArray, List.nil_append, List.cons_append]
    gi_wp2_with (gi_at_range; refine wpListIn_range_own _ rfl _ 70 rfl 52 4 law Yba.underlying70 (plainElem Yba.prog 4) r n D rfl hown.out ?_; intro w3 hrg3 hg3 hs3)
    go_frame
    have hJ3 : J [] w3 := HJ.out [] W w3 none H0.out hg3 (fun r e => by cases e)
    have hL3 : LeftIs (Maps.has D) M [] := fun y hy => by rw [HM.out.has y hy]; cases memB M y <;> rfl
    gi_loopw [3] (fun _ wr => ∃ (left : Lit → Bool) (cnt : Nat) (D' : DataW Unit) (pre : List It), wr.ranges Yba.prog 52 (plainElem Yba.prog 4) r W.heap.size n D' left cnt ∧ LeftIs left M pre ∧ pre.Nodup ∧ (∀ x ∈ pre, x ∈ M) ∧ J pre wr)
      (fun _ wr => wr.rangeLeft r W.heap.size)
    case atStart => exact ⟨_, _, D, [], hrg3, hL3, by simp, by simp, hJ3⟩
    case round =>
      clear hrg3 hg3 hs3 hJ3 hL3
      obtain ⟨left, cnt, D', pre, hrg, hL, hnd, hsub, hJp⟩ := hrel
      have HRG := hid hrg
      have HL := hid hL
      have HP : Hid (pre.Nodup ∧ (∀ x ∈ pre, x ∈ M) ∧ J pre wr) := ⟨hnd, hsub, hJp⟩
      clear hrg hL hnd hsub hJp
      gi_wp2_with (gi_at_next; refine next_itemsIn rfl _ rfl r W.heap.size n D' left cnt rfl HRG.out (fun HDN => ?_) (fun yk ys c w4 H4 hen => ?_))
      · go_end0
        obtain ⟨hnd, hsub, hJp⟩ := HP.out
        refine ⟨⟨_, rfl⟩, pre, ⟨hnd, hsub, ?_⟩, hJp⟩
        refine Nat.le_antisymm (length_le_of_sub _ _ hnd hG.nodup hsub) (length_le_of_sub _ _ hG.nodup hnd (fun x hx => ?_))
        have h1 := HL.out x (hG.size x hx)
        rw [HDN.out.2, (memB_iff M x).2 hx] at h1
        rw [← memB_iff]
        cases hb : memB pre x
        · rw [hb] at h1; cases h1
        · rfl
      · obtain ⟨cnt', hys, hlk, hrg4, hlt, hgr, hsz'⟩ := H4.out
        obtain ⟨hnd, hsub, hJp⟩ := HP.out
        have h1 := HL.out (yk, ys) hys
        rw [hlk] at h1
        have hyM : (yk, ys) ∈ M := (memB_iff _ _).1 (by cases hb : memB M (yk, ys) <;> simp [hb] at h1 ⊢)
        have hyP : (yk, ys) ∉ pre := (memB_false _ _).1 (by cases hb : memB pre (yk, ys) <;> simp [hb] at h1 ⊢)
        have hJ4 : J pre (w4.alloc (.cells #[.bool yk, .string ys] 52)) := HJ.out pre w4 _ none (HJ.out pre wr w4 (some W.heap.size) hJp hgr (fun q e => by cases e; exact ⟨Nat.le_refl _, HRG.out.iter_walk⟩)) (World.grownBy_alloc _ _ _) (fun q e => by cases e)
        have hnd' := nodup_snoc hnd hyP
        have hlen : pre.length < M.length := by
          have h5 := length_le_of_sub _ _ hnd' hG.nodup (fun x hx => by
            rcases List.mem_append.1 hx with h | h
            · exact hsub x h
            · simp at h; rw [h]; exact hyM)
          simp at h5
          omega
        obtain ⟨fn, tmps, assign, body, hyr, hRr⟩ := HY.out pre (yk, ys) _ hyM hJ4 hlen
        dsimp only [encI] at hyr
        have HRr := hid hRr
        have HF : Hid (pre.Nodup ∧ (∀ x ∈ pre, x ∈ M) ∧ (yk, ys) ∈ M ∧ (pre ++ [(yk, ys)]).Nodup) := ⟨hnd, hsub, hyM, hnd'⟩
        clear hRr hJ4 hlk hrg4 hlt hgr hsz' hnd hsub hJp h1 hyM hyP hnd' hlen
        rw [hyr]
        gi_wp2
        refine HRr.out.mono ?_
        rintro e W5 ⟨rfl, hJ5, hT5⟩
        obtain ⟨cnt4, _, hlk, hrg4, hlt, hgr, hsz'⟩ := H4.out
        obtain ⟨D5, cnt5, hrg5, hle5⟩ := hT5 W.heap.size D' left cnt4 (hrg4.alloc _)
        have H5 : Hid (J (pre ++ [(yk, ys)]) W5 ∧ W5.ranges Yba.prog 52 (plainElem Yba.prog 4) r W.heap.size n D5 (fun z => left z && !z.sameKey (klOf (yk, ys))) cnt5 ∧ cnt5 < cnt) := ⟨hJ5, hrg5, by omega⟩
        clear hJ5 hT5 hlk hrg4 hlt hgr hsz' hrg5 hle5
        gi_wp2
        go_roundw
        case rel =>
          obtain ⟨f1, f2, f3, f4⟩ := HF.out
          refine ⟨_, cnt5, D5, pre ++ [(yk, ys)], H5.out.2.1, HL.out.step _ hys, f4, fun x hx => ?_, H5.out.1⟩
          rcases List.mem_append.1 hx with h | h
          · exact f2 x h
          · simp at h; rw [h]; exact f3
        case measure => rw [H5.out.2.1.left_eq, HRG.out.left_eq]; exact H5.out.2.2
end Go.Proofs.Ybulkafic
