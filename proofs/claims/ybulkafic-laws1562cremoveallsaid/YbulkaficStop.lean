import Derived.Test.YbulkaficBuild
namespace Go.Proofs.Ybulkafic
open Go.RowKit Go.Maps
set_option linter.unusedVariables false
attribute [local go_sem ↓] eql52 neq52
attribute [local go_sem ↓] Go.wp_at_zero Go.wp_at_succ

theorem grown_any {W W' : World} (h : W.grownBy W' none) (row : Option Nat) : W.grownBy W' row := ⟨h.os, h.tape, h.output, h.size, fun k hk _ => h.block k hk (by simp)⟩

theorem ModelIs.kept' {B : Nat} {W W' : World} {ao : Option Addr} {cap : Nat} {L : List It} {row : Option Nat} (h : ModelIs W B ao cap L) (hg : W.grownBy W' row) (hrow : ∀ g, row = some g → ∃ cs t, W.heap[g]? = some (.cells cs t (0, 0)) ∧ t ≠ 52) : ModelIs W' B ao cap L := by
  refine World.ownsRow.kept h hg ?_
  rcases ho : (Value.slice ao L.length cap).ownBlock with _ | q
  · exact .inl rfl
  · refine .inr (fun e => ?_)
    obtain ⟨_, cur, h1⟩ := h.own q ho
    obtain ⟨cs, t, h2, h3⟩ := hrow q e.symm
    rw [h1] at h2
    cases h2
    exact h3 rfl

/-- The closure of CStop's loop. -/
theorem cl16 (B bC bM bO : Nat) (ao : Option Addr) (cap : Nat) (M : List It) (x : It) (W : World) (hC : W.heap[bC]? = some (.cells #[.int .i64 0] 3 (0, 0))) (hM : W.heap[bM]? = some (.cells #[.slice ao M.length cap] 45 (0, 0)))
    (hO : W.heap[bO]? = some (.cells #[.bool true] 4 (0, 0))) (hmem : Hid (memB M x = true)) (hrow : Hid (ModelIs W B ao cap M)) (hL : M.length ≤ 100000) :
    Calls Yba.prog 16 #[.agg #[.bool x.1, .string x.2], .pointer (some ⟨bC, 0, none⟩), .pointer (some ⟨bM, 0, none⟩), .pointer (some ⟨bO, 0, none⟩)] W fun e W' =>
      e = .returned (.bool false) ∧ W.grownBy W' (some bC) ∧ W'.heap[bC]? = some (.cells #[.int .i64 1] 3 (0, 0)) := by
  have lC : bC < W.heap.size := (Array.getElem?_eq_some_iff.1 hC).1
  have lM : bM < W.heap.size := (Array.getElem?_eq_some_iff.1 hM).1
  have lO : bO < W.heap.size := (Array.getElem?_eq_some_iff.1 hO).1
  have hCM : bC ≠ bM := fun e => by rw [e, hM] at hC; cases hC
  obtain ⟨V, hV⟩ : ∃ V, V = (W.setCell ⟨bC, 0, none⟩ (.int .i64 1)).alloc (.cells #[.bool x.1, .string x.2] 52) := ⟨_, rfl⟩
  have hsc : (W.setCell ⟨bC, 0, none⟩ (.int .i64 1)).heap[bC]? = some (.cells #[.int .i64 1] 3 (0, 0)) := by rw [heap_set hC 0 _]; rfl
  have hVc : V.heap[bC]? = some (.cells #[.int .i64 1] 3 (0, 0)) := by
    rw [hV]; exact (Below.heap_alloc _ _ _ (Array.getElem?_eq_some_iff.1 hsc).1).trans hsc
  have gV : W.grownBy V (some bC) := by rw [hV]; exact (grown_set _ bC 0 _).trans (World.grownBy_alloc _ _ _)
  have hVm : V.heap[bM]? = some (.cells #[.slice ao M.length cap] 45 (0, 0)) := (gV.block bM lM (by simpa using Ne.symm hCM)).trans hM
  have q0 : W.cell? ⟨bC, 0, none⟩ = some (.int .i64 0) := cell_of_row _ _ 0 _ _ _ hC
  have f0 := free_of hC 0
  have q1 : W.cell? ⟨bM, 0, none⟩ = some (.slice ao M.length cap) := cell_of_row _ _ 0 _ _ _ hM
  have rV : Hid (RowAt V ao M) := (hrow.out.kept' gV (fun g e => by cases e; exact ⟨_, 3, hC, by decide⟩)).row
  have HV : Hid (W.grownBy V (some bC) ∧ V.heap[bC]? = some (.cells #[.int .i64 1] 3 (0, 0))) := ⟨gV, hVc⟩
  clear hC hM hO hrow hVc gV hVm hsc
  go_enter Yba.func16, Yba.ntmps16
  go_wp2_with (go_at_call 13; rw [← hV]; refine (in_any ao M cap x.1 x.2 hL V rV.out).mono ?_; rintro e W3 ⟨rfl, l3⟩; rw [show memB M (x.1, x.2) = true from hmem.out])
  go_ret
  have g3 := below_grown l3 none
  refine ⟨rfl, HV.out.1.trans (grown_any g3 _), (g3.block bC (Array.getElem?_eq_some_iff.1 HV.out.2).1 (by simp)).trans HV.out.2⟩

theorem heap_old {W : World} {o o' : Obj} {k : Nat} (h : W.heap[k]? = some o) : (W.alloc o').heap[k]? = some o := (Below.heap_alloc W _ _ (Array.getElem?_eq_some_iff.1 h).1).trans h
theorem heap_new (W : World) (o : Obj) {k : Nat} (h : W.heap.size = k) : (W.alloc o).heap[k]? = some o := by subst h; exact heap_alloc_new W o

/-- s.all(). -/
theorem all_any (p : Value) (hp : p.oneCell' = true) (w : World) :
    Calls Yba.prog 11 #[p] w fun e w' => e = .returned (.func (.func 30) #[] #[.pointer (some ⟨w.heap.size, 0, none⟩)]) ∧ w' = w.alloc (.cells #[p] 44) := by
  cases p <;> simp [Value.oneCell'] at hp
  all_goals
    go_enter Yba.func11, Yba.ntmps11
    go_wp2
    go_ret
    exact ⟨rfl, rfl⟩

set_option maxRecDepth 100000 in
set_option maxHeartbeats 1600000 in
/-- The sequence, called with CStop's closure. -/
theorem stop30 (B bs bX bC bM bO n : Nat) (ao : Option Addr) (cap : Nat) (M : List It) (W : World) (hX : W.heap[bX]? = some (.cells #[.pointer (some ⟨bs, 0, none⟩)] 44 (0, 0))) (hC : W.heap[bC]? = some (.cells #[.int .i64 0] 3 (0, 0))) (hM : W.heap[bM]? = some (.cells #[.slice ao M.length cap] 45 (0, 0)))
    (hO : W.heap[bO]? = some (.cells #[.bool true] 4 (0, 0))) (hset : SetIs B W bs M n) (hmod : ModelIs W B ao cap M) (hL : M.length ≤ 100000) :
    Calls Yba.prog 30 #[.func (.func 16) #[] #[.pointer (some ⟨bC, 0, none⟩), .pointer (some ⟨bM, 0, none⟩), .pointer (some ⟨bO, 0, none⟩)], .pointer (some ⟨bX, 0, none⟩)] W fun e W' =>
      e = .returned (.tuple #[]) ∧ W.grownBy W' (some bC) ∧ W'.heap[bC]? = some (.cells #[.int .i64 (if M.length = 0 then 0 else 1)] 3 (0, 0)) := by
  obtain ⟨one, mp, hb, hBs, hG, hh⟩ := hset
  have q0 : W.cell? ⟨bs, 0, none⟩ = some (.bool one.1) := cell_of_row _ _ 0 _ _ _ hb
  have q1 : W.cell? ⟨bs, 1, none⟩ = some (.string one.2) := cell_of_row _ _ 1 _ _ _ hb
  have q2 : W.cell? ⟨bs, 2, none⟩ = some (.map mp) := cell_of_row _ _ 2 _ _ _ hb
  have qX : W.cell? ⟨bX, 0, none⟩ = some (.pointer (some ⟨bs, 0, none⟩)) := cell_of_row _ _ 0 _ _ _ hX
  have lC : bC < W.heap.size := (Array.getElem?_eq_some_iff.1 hC).1
  have qe := e70
  have HC : Hid (W.heap[bC]? = some (.cells #[.int .i64 0] 3 (0, 0)) ∧ W.heap[bM]? = some (.cells #[.slice ao M.length cap] 45 (0, 0)) ∧ W.heap[bO]? = some (.cells #[.bool true] 4 (0, 0)) ∧ ModelIs W B ao cap M) := ⟨hC, hM, hO, hmod⟩
  have HCl : Hid (∀ (V : World) (x : It), W.grownBy V none → memB M x = true → Calls Yba.prog 16 #[.agg #[.bool x.1, .string x.2], .pointer (some ⟨bC, 0, none⟩), .pointer (some ⟨bM, 0, none⟩), .pointer (some ⟨bO, 0, none⟩)] V fun e W' =>
      e = .returned (.bool false) ∧ W.grownBy W' (some bC) ∧ W'.heap[bC]? = some (.cells #[.int .i64 1] 3 (0, 0))) := fun V x hg hx => by
    obtain ⟨h1, h2, h3, h4⟩ := HC.out
    refine (cl16 B bC bM bO ao cap M x V ((hg.block _ lC (by simp)).trans h1) ((hg.block _ (Array.getElem?_eq_some_iff.1 h2).1 (by simp)).trans h2) ((hg.block _ (Array.getElem?_eq_some_iff.1 h3).1 (by simp)).trans h3) hx (h4.kept' hg (fun g e => by cases e)) hL).mono ?_
    rintro e W' ⟨h5, h6, h7⟩
    exact ⟨h5, (grown_any hg _).trans h6, h7⟩
  clear hX hC hM hO hmod
  rcases hh with ⟨rfl, rfl, rfl⟩ | ⟨rfl, rfl⟩ | ⟨h2, rfl, r, D, rfl, hBr, hown, hm⟩
  · have ez : eqI (zE.1, zE.2) (false, { data := #[] }) = true := (eqI_iff _ _).2 rfl
    clear hb
    go_enter Yba.func30, Yba.ntmps30
    go_wp2
    refine bodyPost_ret (results_none rfl _ _ _) rfl ?_
    exact ⟨rfl, World.grownBy.refl _ _, HC.out.1⟩
  · have ez : eqI (one.1, one.2) (false, { data := #[] }) = false := (eqI_false _ _).2 (fun h => hG.zero (by rw [show one = zE from h]; simp))
    have hmem : memB [one] one = true := (memB_iff _ _).2 (by simp)
    clear hb
    go_enter Yba.func30, Yba.ntmps30
    go_wp2_with (go_at_call 16; refine (HCl.out W one (World.grownBy.refl _ _) hmem).mono ?_; rintro e W2 ⟨rfl, g2, c2⟩)
    refine bodyPost_ret (results_none rfl _ _ _) rfl ?_
    exact ⟨rfl, g2, c2⟩
  · have HO : Hid (W.ownsMap Yba.prog 52 (plainElem Yba.prog 4) r n D) := hown
    have HM : Hid (MapIs D M) := hm
    have lX := World.block_lt_of_cell? W _ qX
    clear hb hown hm
    go_enter Yba.func30, Yba.ntmps30
    go_wp2_with (at_range; refine wpList_range_own _ rfl _ 70 rfl 52 4 law Yba.underlying70 (plainElem Yba.prog 4) r n D rfl HO.out ?_; intro w3 hrg3 hg3 hs3)
    have HRG : Hid (w3.ranges Yba.prog 52 (plainElem Yba.prog 4) r W.heap.size n D (fun kl => Maps.has D kl) (Maps.size D)) := hrg3
    have HG3 : Hid (W.grownBy w3 none) := hg3
    clear hrg3 hg3 hs3
    refine wp_loop_rounds 1 ?_
    rw [rounds_succ]
    go_wp2_with (first
      | (at_next; refine next_items rfl _ rfl r W.heap.size n D _ _ rfl HRG.out (fun HDN => ?_) (fun yk ys c w4 H4 hen => ?_))
      | (go_at_call 16; refine (HCl.out _ (yk, ys) ?_ ?_).mono ?_; rotate_left 2; rintro e W2 ⟨rfl, g2, c2⟩))
    · exfalso
      have h1 := HDN.out.1
      rw [HM.out.size] at h1
      omega
    · refine bodyPost_ret (results_none rfl _ _ _) rfl ?_
      exact ⟨rfl, g2, c2⟩
    · obtain ⟨cnt', hys, hlk, hrg, hlt, hgr, hsz'⟩ := H4.out
      exact (HG3.out.andThen hgr (fun j e => by cases e; exact .inl (Nat.le_refl _))).trans (World.grownBy_alloc _ _ _)
    · obtain ⟨cnt', hys, hlk, hrg, hlt, hgr, hsz'⟩ := H4.out
      rw [← HM.out.has _ hys]
      exact hlk

set_option maxHeartbeats 1600000 in
theorem cstop_walk (ao : Option Addr) (len cap : Nat) (O : Nat → Int) (K : Nat → Bool) (N : Nat → Int) (w : World) (hc : Hid (OpsAt w ao len O K N)) (hm : len ≤ maxLen) :
    Calls Yba.prog 6 #[.slice ao len cap] w fun e w' => e = .returned (.bool true) ∧ Below w.heap.size w w' := by
  by_cases hlen : len ≤ 1024
  · have hl1 : (len : Int) ≤ 1024 := by omega
    go_enter Yba.func6, Yba.ntmps6
    go_wp2_with (first
      | (go_at_call 10; refine (build_any ao len cap O K N w hlen hc).mono ?_; rintro e w1 ⟨M, ao', cap', rfl, hM, hs1, hm1, hb1⟩; (have HS1 : Hid (SetIs w.heap.size w1 w.heap.size M 2048 ∧ ModelIs w1 w.heap.size ao' cap' M ∧ Below w.heap.size w w1) := ⟨hs1, hm1, hb1⟩); clear hs1 hm1 hb1)
      | (go_at_call 11; refine (all_any _ rfl _).mono ?_; rintro e w' ⟨rfl, rfl⟩))
    obtain ⟨hs1, hm1, hb1⟩ := HS1.out
    obtain ⟨V, hV⟩ : ∃ V, V = ((((w1.alloc (.cells #[.slice ao' M.length cap'] 45)).alloc (.cells #[.int .i64 0] 3)).alloc (.cells #[.bool true] 4)).alloc (.cells #[.pointer (some ⟨w.heap.size, 0, none⟩)] 44)) := ⟨_, rfl⟩
    rw [← hV]
    have gV : w1.grownBy V none := by rw [hV]; exact (((World.grownBy_alloc _ _ _).trans (World.grownBy_alloc _ _ _)).trans (World.grownBy_alloc _ _ _)).trans (World.grownBy_alloc _ _ _)
    have p0 : V.heap[w1.heap.size]? = some (.cells #[.slice ao' M.length cap'] 45 (0, 0)) := by
      rw [hV]; exact (heap_old (heap_old (heap_old (heap_new w1 _ rfl))))
    have p1 : V.heap[w1.heap.size + 1]? = some (.cells #[.int .i64 0] 3 (0, 0)) := by
      rw [hV]; exact (heap_old (heap_old (heap_new _ _ (by simp))))
    have p2 : V.heap[w1.heap.size + 1 + 1]? = some (.cells #[.bool true] 4 (0, 0)) := by
      rw [hV]; exact (heap_old (heap_new _ _ (by simp)))
    have p3 : V.heap[w1.heap.size + 1 + 1 + 1]? = some (.cells #[.pointer (some ⟨w.heap.size, 0, none⟩)] 44 (0, 0)) := by
      rw [hV]; exact heap_new _ _ (by simp)
    clear hV
    have hsz := hb1.size
    refine (stop30 w.heap.size w.heap.size (w1.heap.size + 1 + 1 + 1) (w1.heap.size + 1) w1.heap.size (w1.heap.size + 1 + 1) 2048 ao' cap' M V p3 p1 p0 p2 (hs1.kept gV (fun g e => by cases e)) (hm1.kept' gV (fun g e => by cases e)) (by omega)).mono ?_
    rintro e W2 ⟨rfl, g2, c2⟩
    have HB : Hid (Below w.heap.size w W2) := (hb1.grown gV hsz (fun k e => by cases e)).grown g2 (by have := gV.size; omega) (fun k e => by cases e; omega)
    have y0 : W2.cell? ⟨w1.heap.size, 0, none⟩ = some (.slice ao' M.length cap') := g2.cell (cell_of_row _ _ 0 _ _ _ p0) (by simp)
    have y1 : W2.cell? ⟨w1.heap.size + 1 + 1, 0, none⟩ = some (.bool true) := g2.cell (cell_of_row _ _ 0 _ _ _ p2) (by simp)
    have y2 : W2.cell? ⟨w1.heap.size + 1, 0, none⟩ = some (.int .i64 (if M.length = 0 then 0 else 1)) := cell_of_row _ _ 0 _ _ _ c2
    clear HS1 hs1 hm1 hb1 gV p0 p1 p2 p3 g2 c2
    by_cases h0 : M.length = 0
    · rw [if_pos h0] at y2
      rw [h0] at y0
      rw [h0]
      go_wp2
      go_ret
      exact ⟨rfl, HB.out⟩
    · rw [if_neg h0] at y2
      have hp : (0 : Int) < (M.length : Int) := by omega
      go_wp2
      go_ret
      exact ⟨rfl, HB.out⟩
  · have hl1 : (1024 : Int) < (len : Int) := by omega
    go_enter Yba.func6, Yba.ntmps6
    go_wp2
    go_ret
    exact ⟨rfl, Below.refl _ _⟩
end Go.Proofs.Ybulkafic
