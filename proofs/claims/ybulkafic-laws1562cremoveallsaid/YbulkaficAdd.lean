import Derived.Test.YbulkaficSet
namespace Go.Proofs.Ybulkafic
open Go.RowKit Go.Maps
set_option linter.unusedVariables false
attribute [local go_sem ↓] eql52 neq52
attribute [local go_sem ↓] Go.wp_at_zero Go.wp_at_succ

theorem put_one {B bs : Nat} {W V : World} {a : It} {mp : Option Nat} (x : It) (hv : V.heap[bs]? = some (.cells #[.bool a.1, .string a.2, .map mp] 72 (0, 0))) (hBs : B ≤ bs) (hB : Below B W V) (hK : Keep bs W V) :
    ((V.setCell ⟨bs, 0, none⟩ (.bool x.1)).setCell ⟨bs, 1, none⟩ (.string x.2)).heap[bs]? = some (.cells #[.bool x.1, .string x.2, .map mp] 72 (0, 0)) ∧
    Below B W ((V.setCell ⟨bs, 0, none⟩ (.bool x.1)).setCell ⟨bs, 1, none⟩ (.string x.2)) ∧ Keep bs W ((V.setCell ⟨bs, 0, none⟩ (.bool x.1)).setCell ⟨bs, 1, none⟩ (.string x.2)) := by
  refine ⟨?_, (hB.setCell (p := ⟨bs, 0, none⟩) hBs _).setCell (p := ⟨bs, 1, none⟩) hBs _, (hK.trans (Keep.setCell bs _ 0 _)).trans (Keep.setCell bs _ 1 _)⟩
  rw [heap_set (heap_set hv 0 _) 1 _]
  rfl

set_option maxHeartbeats 1600000 in
/-- s.add(it) on a set with a map. -/
theorem add_map (B bs r n : Nat) (D : DataW Unit) (M : List It) (x : It) (hx : x ≠ zE) (hs : x.2.size ≤ maxLen) (W : World) (hb : W.heap[bs]? = some (.cells #[.bool zE.1, .string zE.2, .map (some r)] 72 (0, 0))) (hBs : B ≤ bs) (hG : Good M)
    (hM2 : 2 ≤ M.length) (hBr : B ≤ r) (hown : Hid (W.ownsMap Yba.prog 52 (plainElem Yba.prog 4) r n D)) (hm : MapIs D M) (hn : n < 100000) :
    Calls Yba.prog 28 #[.pointer (some ⟨bs, 0, none⟩), .agg #[.bool x.1, .string x.2]] W fun e W' => e = .returned (.tuple #[]) ∧ SetIs B W' bs (addI M x) (n + 1) ∧ Below B W W' ∧ Keep bs W W' := by
  have q2 := cell_of_row _ _ 2 _ _ _ hb
  have lb : bs < W.heap.size := (Array.getElem?_eq_some_iff.1 hb).1
  have hBW : B ≤ W.heap.size := by omega
  obtain ⟨w2, hrun, hown2, hturn⟩ := (World.ownsMap.drew (World.ownsMap.alloc hown.out (.cells #[.bool x.1, .string x.2] 52))).store law Yba.underlying70 (by unfold maxLen; omega) (keyOf_enc x hs) (plainElem_bool Yba.underlying4 true)
  unfold enc at hrun
  have qn := n70
  have HT : Hid (World.mapTurned _ _ _) := hturn
  have HO : Hid (World.ownsMap _ _ _ _ _ _ _) := hown2
  have HB : Hid (W.heap[bs]? = some (.cells #[.bool zE.1, .string zE.2, .map (some r)] 72 (0, 0))) := hb
  clear hturn hown2 hb
  go_enter Yba.func28, Yba.ntmps28
  go_wp2_with fail
  go_region
  go_wp2
  go_end0
  have k1 : Keep bs W (W.alloc (.cells #[.bool x.1, .string x.2] 52)).drew := Keep.alloc bs W _
  have k2 : Keep (bs + 1) W w2 := (show Keep (bs + 1) W (W.alloc (.cells #[.bool x.1, .string x.2] 52)).drew from Keep.alloc (bs + 1) W _).trans (Keep.turned HT.out)
  have lr := hown.out.lt
  refine ⟨rfl, ⟨zE, some r, k2 bs _ HB.out (by intro es c h; cases h) (by omega), hBs, hG.add hx hs, .inr (.inr ⟨?_, rfl, r, _, rfl, hBr, HO.out, hm.put (hown.out.tidy law) x hs _⟩)⟩, ?_, k1.trans (Keep.turned HT.out)⟩
  · unfold addI
    split
    · exact hM2
    · simp; omega
  · exact (((Below.refl B W).alloc hBW _).drew).grown HT.out.grown (by simp; omega) (fun k e => by cases e; exact hBr)

set_option maxHeartbeats 1600000 in
/-- s.add(it) on an empty set. -/
theorem add_none (B bs n : Nat) (x : It) (hx : x ≠ zE) (hs : x.2.size ≤ maxLen) (W : World) (hb : W.heap[bs]? = some (.cells #[.bool zE.1, .string zE.2, .map none] 72 (0, 0))) (hBs : B ≤ bs) :
    Calls Yba.prog 28 #[.pointer (some ⟨bs, 0, none⟩), .agg #[.bool x.1, .string x.2]] W fun e W' => e = .returned (.tuple #[]) ∧ SetIs B W' bs [x] n ∧ Below B W W' ∧ Keep bs W W' := by
  have q0 : W.cell? ⟨bs, 0, none⟩ = some (.bool false) := cell_of_row _ _ 0 _ _ _ hb
  have q1 : W.cell? ⟨bs, 1, none⟩ = some (.string { data := #[] }) := cell_of_row _ _ 1 _ _ _ hb
  have q2 := cell_of_row _ _ 2 _ _ _ hb
  have f0 := free_of hb 0
  have f1 := free_of hb 1
  have lb : bs < W.heap.size := (Array.getElem?_eq_some_iff.1 hb).1
  have hBW : B ≤ W.heap.size := by omega
  have qn := n70
  have ez : eqI (false, { data := #[] }) (false, { data := #[] }) = true := (eqI_iff _ _).2 rfl
  have HB : Hid (W.heap[bs]? = some (.cells #[.bool zE.1, .string zE.2, .map none] 72 (0, 0))) := hb
  clear hb
  go_enter Yba.func28, Yba.ntmps28
  go_wp2_with fail
  go_quiet (fail)
  go_wp2
  go_end0
  have hV : ((W.alloc (.cells #[.bool x.1, .string x.2] 52)).drewN nq).heap[bs]? = some (.cells #[.bool zE.1, .string zE.2, .map none] 72 (0, 0)) := (Below.heap_alloc W _ _ lb).trans HB.out
  obtain ⟨r1, r2, r3⟩ := put_one (W := W) x hV hBs (below_drewN ((Below.refl B W).alloc hBW _) nq) (Keep.alloc bs W _)
  exact ⟨rfl, ⟨x, none, r1, hBs, ⟨by simp, by simpa using Ne.symm hx, by simpa using hs⟩, .inr (.inl ⟨rfl, rfl⟩)⟩, r2, r3⟩

set_option maxHeartbeats 1600000 in
/-- s.add(it) on a set that holds just it. -/
theorem add_same (B bs n : Nat) (x : It) (hx : x ≠ zE) (hs : x.2.size ≤ maxLen) (W : World) (hb : W.heap[bs]? = some (.cells #[.bool x.1, .string x.2, .map none] 72 (0, 0))) (hBs : B ≤ bs) :
    Calls Yba.prog 28 #[.pointer (some ⟨bs, 0, none⟩), .agg #[.bool x.1, .string x.2]] W fun e W' => e = .returned (.tuple #[]) ∧ SetIs B W' bs [x] n ∧ Below B W W' ∧ Keep bs W W' := by
  have q0 : W.cell? ⟨bs, 0, none⟩ = some (.bool x.1) := cell_of_row _ _ 0 _ _ _ hb
  have q1 : W.cell? ⟨bs, 1, none⟩ = some (.string x.2) := cell_of_row _ _ 1 _ _ _ hb
  have q2 : W.cell? ⟨bs, 2, none⟩ = some (.map none) := cell_of_row _ _ 2 _ _ _ hb
  have f0 := free_of hb 0
  have f1 := free_of hb 1
  have lb : bs < W.heap.size := (Array.getElem?_eq_some_iff.1 hb).1
  have hBW : B ≤ W.heap.size := by omega
  have qn := n70
  have ez : eqI (x.1, x.2) (false, { data := #[] }) = false := (eqI_false _ _).2 hx
  have es : eqI (x.1, x.2) (x.1, x.2) = true := (eqI_iff _ _).2 rfl
  have HB : Hid (W.heap[bs]? = some (.cells #[.bool x.1, .string x.2, .map none] 72 (0, 0))) := hb
  clear hb
  go_enter Yba.func28, Yba.ntmps28
  go_wp2_with fail
  go_quiet (fail)
  go_wp2
  go_end0
  have hV : ((W.alloc (.cells #[.bool x.1, .string x.2] 52)).drewN nq).heap[bs]? = some (.cells #[.bool x.1, .string x.2, .map none] 72 (0, 0)) := (Below.heap_alloc W _ _ lb).trans HB.out
  obtain ⟨r1, r2, r3⟩ := put_one (W := W) x hV hBs (below_drewN ((Below.refl B W).alloc hBW _) nq) (Keep.alloc bs W _)
  exact ⟨rfl, ⟨x, none, r1, hBs, ⟨by simp, by simpa using Ne.symm hx, by simpa using hs⟩, .inr (.inl ⟨rfl, rfl⟩)⟩, r2, r3⟩

theorem MapIs.swap {D : DataW Unit} {x y : It} (h : MapIs D [x, y]) : MapIs D [y, x] := by
  refine ⟨fun z hz => (h.has z hz).trans ?_, h.size⟩
  rw [Bool.eq_iff_iff, memB_iff, memB_iff]
  simp only [List.mem_cons, List.not_mem_nil, or_false]
  exact Or.comm

/-- A new map, two items put into it. -/
theorem made_two (V : World) (x y : It) (hs : x.2.size ≤ maxLen) (hsy : y.2.size ≤ maxLen) (hxy : y ≠ x) :
    ∃ wa wb D, (Instr.mapUpdate 70 (.map (some V.heap.size)) (.agg #[.bool y.1, .string y.2]) (.bool true)).run Yba.prog (V.alloc (.map #[] 0)).drew = .ok () wa ∧
      (Instr.mapUpdate 70 (.map (some V.heap.size)) (.agg #[.bool x.1, .string x.2]) (.bool true)).run Yba.prog wa = .ok () wb ∧
      wb.ownsMap Yba.prog 52 (plainElem Yba.prog 4) V.heap.size 2 D ∧ MapIs D [y, x] ∧ (∀ b, Keep b V wa) ∧ (∀ b, Keep b V wb) ∧ (∀ B, B ≤ V.heap.size → Below B V wb) := by
  have hm0 : (V.alloc (.map #[] 0)).drew.ownsMap Yba.prog 52 (plainElem (H := Unit) Yba.prog 4) V.heap.size 0 (.map []) := World.ownsMap_made V Yba.prog 52 (plainElem (H := Unit) Yba.prog 4)
  obtain ⟨wa, hra, hoa, hta⟩ := hm0.store law Yba.underlying70 (by unfold maxLen; omega) (keyOf_enc y hsy) (plainElem_bool Yba.underlying4 true)
  obtain ⟨wb, hrb, hob, htb⟩ := hoa.store law Yba.underlying70 (by unfold maxLen; omega) (keyOf_enc x hs) (plainElem_bool Yba.underlying4 true)
  have h1 := (MapIs.empty).put (hm0.tidy law) y hsy (.lit (.bool true))
  have h2 := h1.put (hoa.tidy law) x hs (.lit (.bool true))
  have e3 : addI (addI [] y) x = [y, x] := by
    have e1 : addI [] y = [y] := rfl
    have e2 : memB [y] x = false := (memB_false _ _).2 (by simpa using Ne.symm hxy)
    rw [e1]; unfold addI; rw [e2]; rfl
  rw [e3] at h2
  have kA : ∀ b, Keep b V wa := fun b => (show Keep b V (V.alloc (.map #[] 0)).drew from Keep.alloc b V _).trans (Keep.turned hta)
  refine ⟨wa, wb, _, hra, hrb, hob, h2, kA, fun b => (kA b).trans (Keep.turned htb), fun B hB => ?_⟩
  have h3 : Below B V (V.alloc (.map #[] 0)).drew := ((Below.refl B V).alloc hB (.map #[] 0)).drew
  have hs1 := hta.grown.size
  simp at hs1
  exact (h3.grown hta.grown (by simp; omega) (fun k e => by cases e; exact hB)).grown htb.grown (by omega) (fun k e => by cases e; exact hB)

theorem end_two {B bs n r : Nat} {W w2 : World} {x y : It} {D : DataW Unit} (hx : x ≠ zE) (hy : y ≠ zE) (hxy : y ≠ x) (hs : x.2.size ≤ maxLen) (hsy : y.2.size ≤ maxLen)
    (hb : w2.heap[bs]? = some (.cells #[.bool y.1, .string y.2, .map none] 72 (0, 0))) (hBs : B ≤ bs) (hB : Below B W w2) (hK : Keep bs W w2) (hBr : B ≤ r) (hown : w2.ownsMap Yba.prog 52 (plainElem Yba.prog 4) r 2 D) (hm : MapIs D [y, x]) :
    SetIs B (((w2.setCell ⟨bs, 2, none⟩ (.map (some r))).setCell ⟨bs, 0, none⟩ (.bool false)).setCell ⟨bs, 1, none⟩ (.string { data := #[] })) bs [y, x] (n + 2) ∧
    Below B W (((w2.setCell ⟨bs, 2, none⟩ (.map (some r))).setCell ⟨bs, 0, none⟩ (.bool false)).setCell ⟨bs, 1, none⟩ (.string { data := #[] })) ∧
    Keep bs W (((w2.setCell ⟨bs, 2, none⟩ (.map (some r))).setCell ⟨bs, 0, none⟩ (.bool false)).setCell ⟨bs, 1, none⟩ (.string { data := #[] })) := by
  have hne : r ≠ bs := fun e => by
    obtain ⟨es, c, h, _⟩ := hown
    rw [e, hb] at h
    cases h
  refine ⟨⟨zE, some r, ?_, hBs, ⟨by simpa using hxy, by simpa using ⟨Ne.symm hy, Ne.symm hx⟩, by simpa using ⟨hsy, hs⟩⟩, .inr (.inr ⟨by simp, rfl, r, D, rfl, hBr, ?_, hm⟩)⟩, ?_, ?_⟩
  · rw [heap_set (heap_set (heap_set hb 2 _) 0 _) 1 _]
    rfl
  · exact (((hown.setCell (a := ⟨bs, 2, none⟩) hne _).setCell (a := ⟨bs, 0, none⟩) hne _).setCell (a := ⟨bs, 1, none⟩) hne _).mono (by omega)
  · exact ((hB.setCell (p := ⟨bs, 2, none⟩) hBs _).setCell (p := ⟨bs, 0, none⟩) hBs _).setCell (p := ⟨bs, 1, none⟩) hBs _
  · exact ((hK.trans (Keep.setCell bs _ 2 _)).trans (Keep.setCell bs _ 0 _)).trans (Keep.setCell bs _ 1 _)

theorem SetIs.mono {B : Nat} {W : World} {bs : Nat} {M : List It} {n n' : Nat} (h : SetIs B W bs M n) (hn : n ≤ n') : SetIs B W bs M n' := by
  obtain ⟨one, mp, hb, hBs, hG, hh⟩ := h
  refine ⟨one, mp, hb, hBs, hG, ?_⟩
  rcases hh with h | h | ⟨h2, h3, r, D, h4, h5, h6, h7⟩
  · exact .inl h
  · exact .inr (.inl h)
  · exact .inr (.inr ⟨h2, h3, r, D, h4, h5, h6.mono hn, h7⟩)

set_option maxHeartbeats 1600000 in
/-- s.add(it) on a set that holds one other item: the map is made. -/
theorem add_two (B bs n : Nat) (x y : It) (hx : x ≠ zE) (hy : y ≠ zE) (hxy : y ≠ x) (hs : x.2.size ≤ maxLen) (hsy : y.2.size ≤ maxLen) (W : World) (hb : W.heap[bs]? = some (.cells #[.bool y.1, .string y.2, .map none] 72 (0, 0))) (hBs : B ≤ bs) :
    Calls Yba.prog 28 #[.pointer (some ⟨bs, 0, none⟩), .agg #[.bool x.1, .string x.2]] W fun e W' => e = .returned (.tuple #[]) ∧ SetIs B W' bs [y, x] (n + 2) ∧ Below B W W' ∧ Keep bs W W' := by
  have q0 : W.cell? ⟨bs, 0, none⟩ = some (.bool y.1) := cell_of_row _ _ 0 _ _ _ hb
  have q1 : W.cell? ⟨bs, 1, none⟩ = some (.string y.2) := cell_of_row _ _ 1 _ _ _ hb
  have q2 : W.cell? ⟨bs, 2, none⟩ = some (.map none) := cell_of_row _ _ 2 _ _ _ hb
  have f0 := free_of hb 0
  have f1 := free_of hb 1
  have f2 := free_of hb 2
  have lb : bs < W.heap.size := (Array.getElem?_eq_some_iff.1 hb).1
  have hBW : B ≤ W.heap.size := by omega
  have qn := n70
  have hmm := @run_makeMap Yba.prog
  have ez : eqI (y.1, y.2) (false, { data := #[] }) = false := (eqI_false _ _).2 hy
  have es : eqI (y.1, y.2) (x.1, x.2) = false := (eqI_false _ _).2 hxy
  have HB : Hid (W.heap[bs]? = some (.cells #[.bool y.1, .string y.2, .map none] 72 (0, 0))) := hb
  clear hb
  go_enter Yba.func28, Yba.ntmps28
  go_wp2_with fail
  go_quiet (fail)
  go_wp2
  obtain ⟨V, hVe⟩ : ∃ V, V = (W.alloc (.cells #[.bool x.1, .string x.2] 52)).drewN nq := ⟨_, rfl⟩
  have hVs : V.heap.size = W.heap.size + 1 := by rw [hVe]; show (W.alloc _).heap.size = _; simp
  have hVb : Hid (Below B W V) := by show Below B W V; rw [hVe]; exact below_drewN ((Below.refl B W).alloc hBW _) nq
  have hVk : Hid (Keep bs W V) := by show Keep bs W V; rw [hVe]; exact Keep.alloc bs W _
  have hV1 : Hid (V.heap[bs]? = some (.cells #[.bool y.1, .string y.2, .map none] 72 (0, 0))) := by show V.heap[bs]? = _; rw [hVe]; exact (Below.heap_alloc W _ _ lb).trans HB.out
  have hV2 : Hid (V.heap[W.heap.size]? = some (.cells #[.bool x.1, .string x.2] 52 (0, 0))) := by show V.heap[W.heap.size]? = _; rw [hVe]; exact heap_alloc_new W _
  rw [← hVe]
  have VS := (show Hid (V.heap.size = W.heap.size + 1) from hVs)
  clear hVe q0 q1 q2 f0 f1 f2 HB
  have q0 : V.cell? ⟨bs, 0, none⟩ = some (.bool y.1) := cell_of_row _ _ 0 _ _ _ hV1.out
  have q1 : V.cell? ⟨bs, 1, none⟩ = some (.string y.2) := cell_of_row _ _ 1 _ _ _ hV1.out
  have q2 : V.cell? ⟨bs, 2, none⟩ = some (.map none) := cell_of_row _ _ 2 _ _ _ hV1.out
  have p0 : V.cell? ⟨W.heap.size, 0, none⟩ = some (.bool x.1) := cell_of_row _ _ 0 _ _ _ hV2.out
  have p1 : V.cell? ⟨W.heap.size, 1, none⟩ = some (.string x.2) := cell_of_row _ _ 1 _ _ _ hV2.out
  obtain ⟨wa, wb, D, hra, hrb, hob, hmb, kA, kB, hBb⟩ := made_two V x y hs hsy hxy
  obtain ⟨wc, wd, D2, hrc, hrd, hod, hmd, kC, kD, hBd⟩ := made_two V y x hsy hs (Ne.symm hxy)
  have hmd' : MapIs D2 [y, x] := hmd.swap
  have hlt' : bs ≠ V.heap.size := by omega
  have HW : Hid (∀ w2, (w2 = wb ∨ w2 = wd) → w2.heap[bs]? = some (.cells #[.bool y.1, .string y.2, .map none] 72 (0, 0)) ∧ Below B V w2 ∧ Keep bs V w2 ∧ ∃ D, w2.ownsMap Yba.prog 52 (plainElem Yba.prog 4) V.heap.size 2 D ∧ MapIs D [y, x]) := fun w2 h => by
    rcases h with rfl | rfl
    · exact ⟨kB (bs + 1) bs _ hV1.out (by intro es c h; cases h) (by omega), hBb B (by omega), kB bs, D, hob, hmb⟩
    · exact ⟨kD (bs + 1) bs _ hV1.out (by intro es c h; cases h) (by omega), hBd B (by omega), kD bs, D2, hod, hmd'⟩
  have cellsOf : ∀ w2 : World, (∀ b, Keep b V w2) → w2.cell? ⟨bs, 0, none⟩ = some (.bool y.1) ∧ w2.cell? ⟨bs, 1, none⟩ = some (.string y.2) ∧ w2.cell? ⟨bs, 2, none⟩ = some (.map none) ∧ w2.cell? ⟨W.heap.size, 0, none⟩ = some (.bool x.1) ∧ w2.cell? ⟨W.heap.size, 1, none⟩ = some (.string x.2) ∧
      w2.frozen? ⟨bs, 0, none⟩ = false ∧ w2.frozen? ⟨bs, 1, none⟩ = false ∧ w2.frozen? ⟨bs, 2, none⟩ = false := fun w2 hk => by
    have fA := hk (bs + 1) bs _ hV1.out (by intro es c h; cases h) (by omega)
    have fX := hk bs _ _ hV2.out (by intro es c h; cases h) (by omega)
    exact ⟨cell_of_row _ _ 0 _ _ _ fA, cell_of_row _ _ 1 _ _ _ fA, cell_of_row _ _ 2 _ _ _ fA, cell_of_row _ _ 0 _ _ _ fX, cell_of_row _ _ 1 _ _ _ fX, free_of fA 0, free_of fA 1, free_of fA 2⟩
  obtain ⟨m0, m1, _, m3, m4, _⟩ := cellsOf (V.alloc (.map #[] 0)) (fun b => Keep.alloc b V _)
  obtain ⟨a0, a1, _, a3, a4, _⟩ := cellsOf wa kA
  obtain ⟨c0, c1, _, c3, c4, _⟩ := cellsOf wc kC
  obtain ⟨b0, b1, b2, _, _, b5, b6, b7⟩ := cellsOf wb kB
  obtain ⟨d0, d1, d2, _, _, d5, d6, d7⟩ := cellsOf wd kD
  clear hob hmb kA kB hBb hod hmd hmd' kC kD hBd cellsOf hVs
  go_region
  all_goals go_wp2
  · go_end0
    obtain ⟨z1, z2, z3, D, z4, z5⟩ := HW.out wb (.inl rfl)
    exact ⟨rfl, end_two hx hy hxy hs hsy z1 hBs (hVb.out.trans z2) (hVk.out.trans z3) (by have := VS.out; omega) z4 z5⟩
  · go_end0
    obtain ⟨z1, z2, z3, D, z4, z5⟩ := HW.out wd (.inr rfl)
    exact ⟨rfl, end_two hx hy hxy hs hsy z1 hBs (hVb.out.trans z2) (hVk.out.trans z3) (by have := VS.out; omega) z4 z5⟩

/-- s.add(it). -/
theorem add_any (B bs n : Nat) (M : List It) (x : It) (hx : x ≠ zE) (hs : x.2.size ≤ maxLen) (W : World) (h : SetIs B W bs M n) (hn : n < 100000) :
    Calls Yba.prog 28 #[.pointer (some ⟨bs, 0, none⟩), .agg #[.bool x.1, .string x.2]] W fun e W' => e = .returned (.tuple #[]) ∧ SetIs B W' bs (addI M x) (n + 2) ∧ Below B W W' ∧ Keep bs W W' := by
  obtain ⟨one, mp, hb, hBs, hG, ⟨rfl, rfl, rfl⟩ | ⟨rfl, rfl⟩ | ⟨h2, rfl, r, D, rfl, hBr, hown, hm⟩⟩ := h
  · exact add_none B bs (n + 2) x hx hs W hb hBs
  · by_cases e : one = x
    · subst e
      have e1 : addI [one] one = [one] := by unfold addI; rw [(memB_iff _ _).2 (by simp)]; rfl
      rw [e1]
      exact add_same B bs (n + 2) one hx hs W hb hBs
    · have e1 : addI [one] x = [one, x] := by unfold addI; rw [(memB_false _ _).2 (by simpa using Ne.symm e)]; rfl
      rw [e1]
      exact add_two B bs n x one hx (fun h => hG.zero (by simp [h])) e hs (hG.size one (by simp)) W hb hBs
  · refine (add_map B bs r n D M x hx hs W hb hBs hG h2 hBr hown hm hn).mono ?_
    rintro e W' ⟨he, h1, h2, h3⟩
    exact ⟨he, h1.mono (by omega), h2, h3⟩
end Go.Proofs.Ybulkafic
