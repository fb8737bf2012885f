import Derived.Test.YbulkaficBase
namespace Go.Proofs.Ybulkafic
open Go.RowKit Go.Maps
set_option linter.unusedVariables false

def zI : It := (false, ByteArray.empty)
/-- Go's '==' on items. -/
def eqI (x y : It) : Bool := (x.1 == y.1) && (x.2.toList == y.2.toList)

theorem equal52 (a b : Bool) (s t : ByteArray) (w : World) : (Op.equalIn 10000 52 (.agg #[.bool a, .string s]) (.agg #[.bool b, .string t])).run Yba.prog w = .ok (eqI (a, s) (b, t)) w := by
  unfold eqI
  cases h1 : (a == b) <;> cases h2 : (s.toList == t.toList) <;> simp [go_sem, h1, h2]
theorem eql52 (a b : Bool) (s t : ByteArray) (w : World) : (binOp .eql 52 (.agg #[.bool a, .string s]) (.agg #[.bool b, .string t])).run Yba.prog w = .ok (.bool (eqI (a, s) (b, t))) w := by
  rw [run_eql_struct, equal52]
  rfl
theorem neq52 (a b : Bool) (s t : ByteArray) (w : World) : (binOp .neq 52 (.agg #[.bool a, .string s]) (.agg #[.bool b, .string t])).run Yba.prog w = .ok (.bool (!eqI (a, s) (b, t))) w := by
  rw [run_neq_struct, equal52]
  rfl

attribute [local go_sem ↓] eql52 neq52

/-- The items of a row. -/
def RowAt (W : World) (ao : Option Addr) (L : List It) : Prop :=
  0 < L.length → ∃ g off, ao = some ⟨g, off, none⟩ ∧ ∀ i, i < L.length → W.cell? ⟨g, off + i * 2, none⟩ = some (.bool (L.getD i zI).1) ∧ W.cell? ⟨g, off + i * 2 + 1, none⟩ = some (.string (L.getD i zI).2)

theorem RowAt.below {W W' : World} {ao : Option Addr} {L : List It} (h : RowAt W ao L) (hb : Below W.heap.size W W') : RowAt W' ao L := fun h0 => by
  obtain ⟨g, off, e, hc⟩ := h h0
  refine ⟨g, off, e, fun i hi => ?_⟩
  obtain ⟨a, b⟩ := hc i hi
  have l := World.block_lt_of_cell? W _ a
  exact ⟨(hb.cell (p := ⟨g, off + i * 2, none⟩) l).trans a, (hb.cell (p := ⟨g, off + i * 2 + 1, none⟩) l).trans b⟩

def memB (L : List It) (x : It) : Bool := L.any fun y => eqI y x

theorem take_snoc (L : List It) (k : Nat) (h : k < L.length) : L.take (k + 1) = L.take k ++ [L.getD k zI] := by
  rw [List.take_succ_eq_append_getElem h]
  simp [List.getD, h]

theorem ret_bool {a b : Bool} (h : a = b) : Ending.returned (.bool a) = .returned (.bool b) := by rw [h]

set_option maxHeartbeats 800000 in
theorem in_any (ao : Option Addr) (L : List It) (cap : Nat) (k : Bool) (s : ByteArray) (hL : L.length ≤ 100000) (W : World) (hr : Hid (RowAt W ao L)) :
    Calls Yba.prog 13 #[.slice ao L.length cap, .agg #[.bool k, .string s]] W fun e W' => e = .returned (.bool (memB L (k, s))) ∧ Below W.heap.size W W' := by
  go_enter Yba.func13, Yba.ntmps13
  go_wp2
  go_loopw [5] (fun i wr => ∃ j : Nat, j ≤ L.length ∧ i = .int .i64 j ∧ memB (L.take j) (k, s) = false ∧ ∃ nq, wr = (W.alloc (.cells #[.bool k, .string s] 52)).drewN nq) (fun i _ => L.length - (intOf i).toNat)
  case atStart => exact ⟨0, Nat.zero_le _, rfl, rfl, 0, rfl⟩
  case round =>
    obtain ⟨j, hj, rfl, hno, nq, rfl⟩ := hrel
    have HNO : Hid (memB (L.take j) (k, s) = false) := hno
    clear hno
    by_cases hlt : j < L.length
    · obtain ⟨g, off, rfl, hc⟩ := hr.out (by omega)
      obtain ⟨c0, c1⟩ := hc j hlt
      have lg := World.block_lt_of_cell? W _ c0
      have c0' : (W.alloc (.cells #[.bool k, .string s] 52)).cell? ⟨g, off + j * 2, none⟩ = some (.bool (L.getD j zI).1) := (World.grownBy_alloc W _ none).cell c0 (by simp)
      have c1' : (W.alloc (.cells #[.bool k, .string s] 52)).cell? ⟨g, off + j * 2 + 1, none⟩ = some (.string (L.getD j zI).2) := (World.grownBy_alloc W _ none).cell c1 (by simp)
      have HS := take_snoc L j hlt
      have HT : Hid (memB (L.take (j + 1)) (k, s) = eqI (L.getD j zI) (k, s)) := by
        show memB (L.take (j + 1)) (k, s) = _
        rw [HS]
        have := HNO.out
        unfold memB at this ⊢
        rw [List.any_append, this]
        simp
      have HM : Hid (memB (L.take (j + 1)) (k, s) = true → memB L (k, s) = true) := fun h => by
        unfold memB at h ⊢
        rw [List.any_eq_true] at h ⊢
        obtain ⟨y, hy, he⟩ := h
        exact ⟨y, List.mem_of_mem_take hy, he⟩
      generalize L.getD j zI = y at c0' c1' HT
      obtain ⟨yk, ys⟩ := y
      have hj1 : (j : Int) < (L.length : Int) := by omega
      clear c0 c1 hc HS lg
      cases he : eqI (yk, ys) (k, s)
      · go_wp2_with fail
        go_quiet (fail)
        go_wp2
        go_roundw
        case rel => exact ⟨j + 1, by omega, by go_num, by rw [HT.out]; exact he, _, rfl⟩
        case measure => simp [intOf]; omega
      · go_wp2_with fail
        go_quiet (fail)
        go_wp2
        go_ret
        exact ⟨ret_bool (HM.out (by rw [HT.out]; exact he)).symm, below_drewN (below_drewN ((Below.refl _ _).alloc (Nat.le_refl _) _) _) _⟩
    · go_wp2
      go_ret
      refine ⟨ret_bool ?_, below_drewN ((Below.refl _ _).alloc (Nat.le_refl _) _) _⟩
      have := HNO.out
      rw [List.take_of_length_le (by omega)] at this
      exact this.symm

def itemCells (L : List It) : List Value := L.flatMap fun x => [.bool x.1, .string x.2]
theorem itemCells_snoc (L : List It) (x : It) : itemCells (L ++ [x]) = itemCells L ++ [.bool x.1, .string x.2] := by simp [itemCells]
theorem itemCells_length (L : List It) : (itemCells L).length = L.length * 2 := by
  induction L with
  | nil => rfl
  | cons x L ih => simp [itemCells] at ih ⊢; omega
theorem itemCells_at (L : List It) : ∀ i, i < L.length → (itemCells L)[i * 2]? = some (.bool (L.getD i zI).1) ∧ (itemCells L)[i * 2 + 1]? = some (.string (L.getD i zI).2) := by
  induction L with
  | nil => intro i hi; simp at hi
  | cons x L ih =>
    intro i hi
    cases i with
    | zero => exact ⟨rfl, rfl⟩
    | succ i =>
      have h2 := ih i (by simpa using hi)
      have e : itemCells (x :: L) = .bool x.1 :: .string x.2 :: itemCells L := rfl
      rw [e, show (i + 1) * 2 = i * 2 + 1 + 1 by omega]
      simpa using h2

/-- A slice of items that the call owns. -/
def ModelIs (W : World) (base : Nat) (ao : Option Addr) (cap : Nat) (L : List It) : Prop := W.ownsRow base 52 2 (.slice ao L.length cap) L.length (itemCells L)

theorem ModelIs.row {W : World} {base : Nat} {ao : Option Addr} {cap : Nat} {L : List It} (h : ModelIs W base ao cap L) : RowAt W ao L := fun h0 => by
  obtain ⟨g, cp, e, _, _⟩ := h.form h0
  cases e
  refine ⟨g, 0, rfl, fun i hi => ?_⟩
  rw [show (0 + i * 2) = i * 2 by omega, World.ownsRow.cellAt h _ (by omega), World.ownsRow.cellAt h _ (by omega)]
  exact itemCells_at L i hi

theorem model_of {W : World} {base : Nat} {v : Value} {L : List It} (h : W.ownsRow base 52 2 v L.length (itemCells L)) : ∃ ao cap, v = .slice ao L.length cap ∧ ModelIs W base ao cap L := by
  rcases h.2 with ⟨rfl, h0⟩ | ⟨g, cap, cur, rfl, _⟩
  · exact ⟨none, 0, by rw [h0], by unfold ModelIs; rw [h0]; rw [h0] at h; exact h⟩
  · exact ⟨_, _, rfl, h⟩

theorem ModelIs.base_le {W : World} {base base' : Nat} {ao : Option Addr} {cap : Nat} {L : List It} (h : ModelIs W base ao cap L) (hb : base' ≤ base) : ModelIs W base' ao cap L := by
  refine ⟨h.1, ?_⟩
  rcases h.2 with h0 | ⟨g, cp, cur, e, h1, h2⟩
  · exact .inl h0
  · exact .inr ⟨g, cp, cur, e, Nat.le_trans hb h1, h2⟩

theorem info52 : (Yba.prog.info? 52).map (fun i => (i.zero, i.size, i.bytes)) = some (some (.agg #[.bool false, .string ByteArray.empty]), 2, 24) := by kernel_rfl

/-- What is left when x has been dropped. -/
def dropI (L : List It) (x : It) : List It := L.filter fun y => !eqI y x
theorem dropI_snoc (M : List It) (y x : It) : dropI (M ++ [y]) x = dropI M x ++ (if eqI y x then [] else [y]) := by
  unfold dropI
  rw [List.filter_append]
  cases h : eqI y x <;> simp [h]
theorem dropI_le (L : List It) (x : It) : (dropI L x).length ≤ L.length := List.length_filter_le _ _

set_option maxHeartbeats 1600000 in
theorem drop_any (ao : Option Addr) (L : List It) (cap : Nat) (k : Bool) (s : ByteArray) (hL : L.length ≤ 100000) (W : World) (hr : Hid (RowAt W ao L)) :
    Calls Yba.prog 29 #[.slice ao L.length cap, .agg #[.bool k, .string s]] W fun e W' => ∃ ao' cap', e = .returned (.slice ao' (dropI L (k, s)).length cap') ∧ ModelIs W' W.heap.size ao' cap' (dropI L (k, s)) ∧ Below W.heap.size W W' := by
  obtain ⟨i0, hi0, hz0, hz1, hz2⟩ := info_parts info52
  go_enter Yba.func29, Yba.ntmps29
  go_wp2
  obtain ⟨V, hV⟩ : ∃ V, V = W.alloc (.cells #[.bool k, .string s] 52) := ⟨_, rfl⟩
  have hVs : Hid (V.heap.size = W.heap.size + 1) := by show V.heap.size = _; rw [hV]; simp
  have hVb : Hid (Below W.heap.size W V) := by show Below _ _ _; rw [hV]; exact (Below.refl _ _).alloc (Nat.le_refl _) _
  have hV0 : Hid (V.heap[W.heap.size]? = some (.cells #[.bool k, .string s] 52 (0, 0))) := by show V.heap[W.heap.size]? = _; rw [hV]; exact heap_alloc_new W _
  rw [← hV]
  clear hV
  go_loopw [5, 6] (fun v i wr => ∃ (j : Nat) (ao' : Option Addr) (cap' : Nat), j ≤ L.length ∧ i = .int .i64 j ∧ v = .slice ao' (dropI (L.take j) (k, s)).length cap' ∧ ModelIs wr (W.heap.size + 1) ao' cap' (dropI (L.take j) (k, s)) ∧ Below (W.heap.size + 1) V wr)
    (fun _ i _ => L.length - (intOf i).toNat)
  case atStart => exact ⟨0, none, 0, Nat.zero_le _, rfl, rfl, World.ownsRow_nil _ _ _ _, Below.refl _ _⟩
  case round =>
    obtain ⟨j, ao', cap', hj, rfl, rfl, hown, hbel⟩ := hrel
    have hsz := hbel.size
    have hs0 := hVs.out
    have hlej : (dropI (L.take j) (k, s)).length ≤ L.length := Nat.le_trans (dropI_le _ _) (List.length_take_le' _ _)
    by_cases hlt : j < L.length
    · obtain ⟨g, off, rfl, hc⟩ := hr.out (by omega)
      obtain ⟨c0, c1⟩ := hc j hlt
      have lg : g < W.heap.size := World.block_lt_of_cell? W _ c0
      have hx : ∀ q u, W.cell? ⟨g, q, none⟩ = some u → wr.cell? ⟨g, q, none⟩ = some u := fun q u h => (hbel.cell (p := ⟨g, q, none⟩) (by show g < W.heap.size + 1; omega)).trans ((hVb.out.cell (p := ⟨g, q, none⟩) lg).trans h)
      have c0' := hx _ _ c0
      have c1' := hx _ _ c1
      have hb0 : wr.heap[W.heap.size]? = some (.cells #[.bool k, .string s] 52 (0, 0)) := (hbel.block _ (by omega)).trans hV0.out
      have e0 : wr.cell? ⟨W.heap.size, 0, none⟩ = some (.bool k) := cell_of_row _ _ 0 _ _ _ hb0
      have e1 : wr.cell? ⟨W.heap.size, 1, none⟩ = some (.string s) := cell_of_row _ _ 1 _ _ _ hb0
      have HS := take_snoc L j hlt
      have HD : Hid (dropI (L.take (j + 1)) (k, s) = dropI (L.take j) (k, s) ++ (if eqI (L.getD j zI) (k, s) then [] else [L.getD j zI])) := by
        show dropI (L.take (j + 1)) (k, s) = _
        rw [HS, dropI_snoc]
      generalize L.getD j zI = y at c0' c1' HD
      obtain ⟨yk, ys⟩ := y
      have hj1 : (j : Int) < (L.length : Int) := by omega
      have HOW : Hid (ModelIs wr (W.heap.size + 1) ao' cap' (dropI (L.take j) (k, s))) := hown
      have HBE : Hid (Below (W.heap.size + 1) V wr) := hbel
      generalize hM : dropI (L.take j) (k, s) = M at HD HOW hlej
      clear c0 c1 hc HS hx hb0 hown hbel hM
      cases he : eqI (yk, ys) (k, s)
      · rw [he] at HD
        have HW : Hid (∀ nq w2, ((wr.drewN nq).alloc (.cells #[.bool yk, .string ys] 52)).grownBy w2 (Value.slice ao' M.length cap').ownBlock → Below (W.heap.size + 1) V w2) := fun nq w2 hgr => by
          have hl := HOW.out.lt
          exact ((below_drewN HBE.out nq).alloc (by show _ ≤ wr.heap.size; omega) _).grown hgr (by simp; omega) (fun q e => (hl q e).1)
        go_wp2_with fail
        go_quiet (fail)
        go_wp2_with (at_builtin; refine wpList_append_own _ rfl _ _ 45 rfl (W.heap.size + 1) 52 i0 _ 2 24 Yba.underlying45 hi0 hz0 hz1 hz2 rfl (by decide) (.slice ao' M.length cap') M.length (itemCells M) rfl (World.ownsRow.alloc HOW.out _) ⟨wr.heap.size, 0, none⟩ 1 1 [.bool yk, .string ys] rfl rfl (World.news_of_block (t := 52) (fr := (0, 0)) (heap_alloc_new (wr.drewN nq) _)) (by simp [Value.oneCell']) (by unfold maxLen; omega) (by omega) (by simp; omega) ?_; intro v' w2 hown2 hgrow _)
        have HB2 : Hid (Below (W.heap.size + 1) V w2) := HW.out nq w2 hgrow
        have HO2 : Hid (w2.ownsRow (W.heap.size + 1) 52 2 v' (dropI (L.take (j + 1)) (k, s)).length (itemCells (dropI (L.take (j + 1)) (k, s)))) := by
          show w2.ownsRow _ _ _ _ _ _
          rw [HD.out, if_neg (by decide), itemCells_snoc, List.length_append]
          exact hown2
        obtain ⟨ao2, cap2, hv2, hm2⟩ := model_of HO2.out
        have HM2 : Hid (ModelIs w2 (W.heap.size + 1) ao2 cap2 (dropI (L.take (j + 1)) (k, s))) := hm2
        rw [hv2]
        clear hv2 hm2 hown2 hgrow HO2
        go_wp2
        go_roundw
        case rel => exact ⟨j + 1, ao2, cap2, by omega, by go_num, rfl, HM2.out, HB2.out⟩
        case measure => simp [intOf]; omega
      · rw [he] at HD
        go_wp2_with fail
        go_quiet (fail)
        go_wp2
        go_roundw
        case rel => exact ⟨j + 1, ao', cap', by omega, by go_num, by rw [HD.out]; simp, by rw [HD.out]; simp only [if_true, List.append_nil]; exact HOW.out, below_drewN HBE.out _⟩
        case measure => simp [intOf]; omega
    · obtain rfl : j = L.length := by omega
      rw [List.take_length] at hown
      have HM2 : Hid (ModelIs wr (W.heap.size + 1) ao' cap' (dropI L (k, s))) := hown
      have HBE : Hid (Below W.heap.size W wr) := hVb.out.trans (hbel.mono (by omega))
      have e1 : (dropI (L.take L.length) (k, s)).length = (dropI L (k, s)).length := by rw [List.take_length]
      rw [e1]
      clear hown hbel hlej e1
      go_wp2
      go_ret
      exact ⟨ao', cap', rfl, HM2.out.base_le (by omega), HBE.out⟩
end Go.Proofs.Ybulkafic
