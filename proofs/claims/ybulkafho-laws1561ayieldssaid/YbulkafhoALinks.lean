import Derived.Test.YbulkafhoAStop1
namespace Go.Proofs.Ybulkafho
open Go.RowKit
set_option linter.unusedVariables false
attribute [local go_sem ↓] Go.wp_at_zero Go.wp_at_succ

/-- The peer and the box that leads to it. -/
structure PeerAt (W : World) (bX bP : Nat) (x : Int) (pa c0 c1 : ByteArray) : Prop where
  box : W.cell? ⟨bX, 0, none⟩ = some (.pointer (some ⟨bP, 0, none⟩))
  idx : W.cell? ⟨bP, 3, none⟩ = some (.int .u64 x)
  par : W.cell? ⟨bP, 8, none⟩ = some (.string pa)
  ch0 : W.cell? ⟨bP, 9, none⟩ = some (.string c0)
  ch1 : W.cell? ⟨bP, 10, none⟩ = some (.string c1)

theorem PeerAt.kept {W W' : World} {bX bP : Nat} {x : Int} {pa c0 c1 : ByteArray} {row : Option Nat} (h : PeerAt W bX bP x pa c0 c1) (hg : W.grownBy W' row) (hx : some bX ≠ row) (hp : some bP ≠ row) : PeerAt W' bX bP x pa c0 c1 :=
  ⟨hg.cell h.box hx, hg.cell h.idx hp, hg.cell h.par hp, hg.cell h.ch0 hp, hg.cell h.ch1 hp⟩

theorem below_grown {W W' : World} (h : Below W.heap.size W W') (row : Option Nat) : W.grownBy W' row := ⟨h.os, h.tape, h.output, h.size, fun k hk _ => h.block k hk⟩

theorem grown_some {W W' : World} (h : W.grownBy W' none) (row : Option Nat) : W.grownBy W' row := ⟨h.os, h.tape, h.output, h.size, fun k hk _ => h.block k hk (by simp)⟩

theorem hid {p : Prop} (h : p) : Hid p := h
def one (e : Bool) : Nat := if e then 0 else 1
/-- How many links have come when k of the children are over. -/
def cnt (x : Int) (pa c0 c1 : ByteArray) (k : Nat) : Nat := one ((x == 0) || pa.toList.isEmpty) + (if 1 ≤ k then one c0.toList.isEmpty else 0) + (if 2 ≤ k then one c1.toList.isEmpty else 0)

theorem cnt_two (x : Int) (pa c0 c1 : ByteArray) : cnt x pa c0 c1 2 = (expect x pa c0 c1).length := by
  unfold cnt expect one
  cases ((x == 0) || pa.toList.isEmpty) <;> cases c0.toList.isEmpty <;> cases c1.toList.isEmpty <;> rfl
theorem cnt_zero (x : Int) (pa c0 c1 : ByteArray) : cnt x pa c0 c1 0 = one ((x == 0) || pa.toList.isEmpty) := rfl
theorem get_par (x : Int) (pa c0 c1 : ByteArray) (h : ((x == 0) || pa.toList.isEmpty) = false) : (expect x pa c0 c1).getD 0 (0, ByteArray.empty) = (par x, pa) ∧ 0 < (expect x pa c0 c1).length := by
  unfold expect
  rw [h]
  exact ⟨rfl, by simp⟩
theorem get_c0 (x : Int) (pa c0 c1 : ByteArray) (h : c0.toList.isEmpty = false) : (expect x pa c0 c1).getD (cnt x pa c0 c1 0) (0, ByteArray.empty) = (lc x, c0) ∧ cnt x pa c0 c1 0 < (expect x pa c0 c1).length ∧ cnt x pa c0 c1 1 = cnt x pa c0 c1 0 + 1 := by
  unfold expect cnt one
  rw [h]
  cases ((x == 0) || pa.toList.isEmpty) <;> cases c1.toList.isEmpty <;> simp
theorem no_c0 (x : Int) (pa c0 c1 : ByteArray) (h : c0.toList.isEmpty = true) : cnt x pa c0 c1 1 = cnt x pa c0 c1 0 := by
  unfold cnt one
  rw [h]
  rfl
theorem get_c1 (x : Int) (pa c0 c1 : ByteArray) (h : c1.toList.isEmpty = false) : (expect x pa c0 c1).getD (cnt x pa c0 c1 1) (0, ByteArray.empty) = (rc x, c1) ∧ cnt x pa c0 c1 1 < (expect x pa c0 c1).length ∧ cnt x pa c0 c1 2 = cnt x pa c0 c1 1 + 1 := by
  unfold expect cnt one
  rw [h]
  cases ((x == 0) || pa.toList.isEmpty) <;> cases c0.toList.isEmpty <;> simp
theorem no_c1 (x : Int) (pa c0 c1 : ByteArray) (h : c1.toList.isEmpty = true) : cnt x pa c0 c1 2 = cnt x pa c0 c1 1 := by
  unfold cnt one
  rw [h]
  rfl

theorem wrap_lc (x : Int) : IntKind.u64.wrap (2 * x) = lc x := by unfold lc; rw [Int.mul_comm]
theorem wrap_lc0 (x : Int) : IntKind.u64.wrap (lc x) = lc x := by
  unfold lc
  simp only [IntKind.wrap_u64]
  omega
theorem wrap_rc (x : Int) : IntKind.u64.wrap (lc x + 1) = rc x := rfl

theorem parent_any (x : Int) (w : World) :
    Calls Yba.prog 18 #[.agg #[.int .u64 x]] w fun e w' => ∃ y, e = .returned (.tuple #[.agg #[.int .u64 y], .bool (!(x == 0))]) ∧ ((x == 0) = false → y = par x) ∧ Below w.heap.size w w' := by
  by_cases hx : x = 0
  · subst hx
    exact (parent_zero w).mono fun e w' ⟨he, hb⟩ => ⟨0, he, fun h => absurd h (by decide), hb⟩
  · have hx' : (x == 0) = false := by simpa using hx
    rw [hx']
    exact (parent_pos x hx' w).mono fun e w' ⟨he, hb⟩ => ⟨par x, he, fun _ => rfl, hb⟩

set_option maxHeartbeats 3200000 in
theorem links_plain (bX bP bC s : Nat) (x : Int) (pa c0 c1 : ByteArray) (caps : Array Value) (dX : bX ≠ bC) (dP : bP ≠ bC)
    (R : Nat → World → Prop) (hR : ∀ c W W', R c W → W.grownBy W' none → R c W')
    (hy : ∀ c W, R c W → c < (expect x pa c0 c1).length → Calls Yba.prog 11 (#[.agg #[.int .u64 ((expect x pa c0 c1).getD c (0, ByteArray.empty)).1], .string ((expect x pa c0 c1).getD c (0, ByteArray.empty)).2] ++ caps) W
      fun e W' => e = .returned (.bool (decide (c + 1 < s))) ∧ W.grownBy W' (some bC) ∧ R (c + 1) W') (hs : 1 ≤ s)
    (W : World) (lC : bC < W.heap.size) (hp : PeerAt W bX bP x pa c0 c1) (h0 : R 0 W) :
    Calls Yba.prog 17 #[.func (.func 11) #[] caps, .pointer (some ⟨bX, 0, none⟩)] W fun e W' => e = .returned (.tuple #[]) ∧ W.grownBy W' (some bC) ∧ R (min s (expect x pa c0 c1).length) W' := by
  have HY : Hid (∀ c W, R c W → c < (expect x pa c0 c1).length → Calls Yba.prog 11 (#[.agg #[.int .u64 ((expect x pa c0 c1).getD c (0, ByteArray.empty)).1], .string ((expect x pa c0 c1).getD c (0, ByteArray.empty)).2] ++ caps) W
      fun e W' => e = .returned (.bool (decide (c + 1 < s))) ∧ W.grownBy W' (some bC) ∧ R (c + 1) W') := hy
  have HP : Hid (PeerAt W bX bP x pa c0 c1) := hp
  have HR : Hid (∀ c W W', R c W → W.grownBy W' none → R c W') := hR
  have H0 : Hid (R 0 W) := h0
  obtain ⟨hb, h3, h8, h9, h10⟩ := hp
  clear hy hR h0
  cases hx : (x == 0)
  · cases hpa : pa.toList.isEmpty
    · have HX : Hid (((x == 0) || pa.toList.isEmpty) = false) := by rw [hx, hpa]; rfl
      go_enter Yba.func17, Yba.ntmps17
      go_wp2_with (go_at_call 18; refine (parent_any x _).mono ?_; rintro e w1 ⟨y, rfl, hyy, hbel⟩; have hg1 := below_grown hbel none; have b1 := hg1.cell hb (by simp); have b8 := hg1.cell h8 (by simp); clear hbel; obtain rfl := hyy hx; clear hyy)
      have lX := World.block_lt_of_cell? w1 _ b1
      have lP := World.block_lt_of_cell? w1 _ b8
      have hsz := hg1.size
      have hR1 : Hid (∀ w', W.grownBy w' none → R 0 w') := fun w' hg' => HR.out _ _ _ H0.out hg'
      have hg2 : W.grownBy (w1.alloc (Obj.cells #[Value.int IntKind.u64 (par x)] 26)).drew none := grownBy_drewN (hg1.trans (World.grownBy_alloc _ _ _)) 1
      obtain ⟨g1, g2⟩ := get_par x pa c0 c1 HX.out
      have HYp : Hid (∀ w', R 0 w' → Calls Yba.prog 11 (#[.agg #[.int .u64 (par x)], .string pa] ++ caps) w' fun e W' => e = .returned (.bool (decide (1 < s))) ∧ w'.grownBy W' (some bC) ∧ R 1 W') := fun w' h => by
        have h' := HY.out 0 w' h g2
        rw [g1] at h'
        exact h'
      clear g1
      have dL : w1.heap.size ≠ bC := by omega
      go_region_held3 (fun w' => w'.cell? ⟨bX, 0, none⟩ = some (.pointer (some ⟨bP, 0, none⟩)) ∧ w'.cell? ⟨bP, 8, none⟩ = some (.string pa) ∧ w'.cell? ⟨w1.heap.size, 0, none⟩ = some (.int .u64 (par x)))
        (first
          | go_keep
          | (go_split_ands
             refine ⟨?_, ?_, ?_⟩
             · exact hg3.cell (by assumption) (by simpa using dX)
             · exact hg3.cell (by assumption) (by simpa using dP)
             · exact hg3.cell (by assumption) (by simpa using dL)))
        ((go_at_call 11; refine (HYp.out _ (hR1.out _ hg2)).mono ?_; rintro e w3 ⟨rfl, hg3, hR3⟩))
      have hG3 : W.grownBy w3 (some bC) := (grown_some hg2 _).trans hg3
      have hP3 : Hid (PeerAt w3 bX bP x pa c0 c1) := HP.out.kept hG3 (by simpa using dX) (by simpa using dP)
      have hone : cnt x pa c0 c1 0 = 1 := by rw [cnt_zero, HX.out]; rfl
      by_cases hst : 1 < s
      · have hd : decide (1 < s) = true := by simpa using hst
        rw [hd, Bool.not_true]
        have hcn : Hid (R (cnt x pa c0 c1 0) w3 ∧ W.grownBy w3 (some bC) ∧ cnt x pa c0 c1 0 < s ∧ PeerAt w3 bX bP x pa c0 c1) := by
          rw [hone]
          exact ⟨hR3, hG3, hst, hP3.out⟩
        clear hd
        clear hone hst hP3 hG3 hR3 hg3 hg2 HYp hR1 dL hsz lX lP g2 b1 b8 hg1 hb h3 h8 h9 h10 hx hpa HX
        obtain ⟨hRc, hgr, hcs, ⟨b1, b3, b8, b9, b10⟩⟩ := hcn.out
        go_wp2
        go_loopw [40] (fun i wr => ∃ k : Nat, k ≤ 2 ∧ i = .int .i64 k ∧ R (cnt x pa c0 c1 k) wr ∧ W.grownBy wr (some bC) ∧ cnt x pa c0 c1 k < s ∧ PeerAt wr bX bP x pa c0 c1)
          (fun i _ => 2 - (intOf i).toNat)
        case atStart => exact ⟨0, by omega, rfl, hcn.out⟩
        case round =>
          clear hcn hRc hgr hcs b1 b3 b8 b9 b10
          obtain ⟨k, hk, rfl, hRc, hgr, hcs, hpp⟩ := hrel
          have HP2 : Hid (PeerAt wr bX bP x pa c0 c1) := hpp
          obtain ⟨b1, b3, b8, b9, b10⟩ := hpp
          have i0 : ∀ w, (Instr.index 37 (.agg #[.string c0, .string c1]) (.int .i64 0)).run Yba.prog w = .ok (.string c0) w := fun _ => by kernel_rfl
          have i1 : ∀ w, (Instr.index 37 (.agg #[.string c0, .string c1]) (.int .i64 1)).run Yba.prog w = .ok (.string c1) w := fun _ => by kernel_rfl
          have w1' := wrap_lc x
          have w2' := wrap_lc0 x
          have w3' := wrap_rc x
          rcases (show k = 0 ∨ k = 1 ∨ k = 2 by omega) with rfl | rfl | rfl
          · cases e0 : c0.toList.isEmpty
            · obtain ⟨g1, g2, g3⟩ := get_c0 x pa c0 c1 e0
              have hy0 := HY.out _ _ hRc g2
              rw [g1] at hy0
              have HY0 := hid hy0
              clear hy0
              have G : Hid (cnt x pa c0 c1 1 = cnt x pa c0 c1 0 + 1 ∧ cnt x pa c0 c1 0 < (expect x pa c0 c1).length) := ⟨g3, g2⟩
              clear g1 g2 g3
              go_wp2_with fail
              refine HY0.out.mono ?_
              rintro e w3 ⟨rfl, hg3, hR3⟩
              by_cases hst : cnt x pa c0 c1 0 + 1 < s
              · go_wp2
                go_roundw
                case rel => exact ⟨1, by omega, rfl, by rw [G.out.1]; exact hR3, hgr.trans hg3, by rw [G.out.1]; exact hst, HP2.out.kept hg3 (by simpa using dX) (by simpa using dP)⟩
                case measure => simp [intOf]
              · have hd : decide (cnt x pa c0 c1 0 + 1 < s) = false := by simpa using hst
                go_wp2
                refine bodyPost_ret (results_none rfl _ _ _) rfl ⟨rfl, hgr.trans hg3, ?_⟩
                have := G.out
                rw [show min s (expect x pa c0 c1).length = cnt x pa c0 c1 0 + 1 by omega]
                exact hR3
            · have g3 := hid (no_c0 x pa c0 c1 e0)
              go_wp2
              go_roundw
              case rel => exact ⟨1, by omega, rfl, by rw [g3.out]; exact hRc, hgr, by rw [g3.out]; exact hcs, HP2.out⟩
              case measure => simp [intOf]
          · cases e1 : c1.toList.isEmpty
            · obtain ⟨g1, g2, g3⟩ := get_c1 x pa c0 c1 e1
              have hy0 := HY.out _ _ hRc g2
              rw [g1] at hy0
              have HY0 := hid hy0
              clear hy0
              have G : Hid (cnt x pa c0 c1 2 = cnt x pa c0 c1 1 + 1 ∧ cnt x pa c0 c1 1 < (expect x pa c0 c1).length) := ⟨g3, g2⟩
              clear g1 g2 g3
              go_wp2_with fail
              refine HY0.out.mono ?_
              rintro e w3 ⟨rfl, hg3, hR3⟩
              by_cases hst : cnt x pa c0 c1 1 + 1 < s
              · go_wp2
                go_roundw
                case rel => exact ⟨2, by omega, rfl, by rw [G.out.1]; exact hR3, hgr.trans hg3, by rw [G.out.1]; exact hst, HP2.out.kept hg3 (by simpa using dX) (by simpa using dP)⟩
                case measure => simp [intOf]
              · have hd : decide (cnt x pa c0 c1 1 + 1 < s) = false := by simpa using hst
                go_wp2
                refine bodyPost_ret (results_none rfl _ _ _) rfl ⟨rfl, hgr.trans hg3, ?_⟩
                have := G.out
                rw [show min s (expect x pa c0 c1).length = cnt x pa c0 c1 1 + 1 by omega]
                exact hR3
            · have g3 := hid (no_c1 x pa c0 c1 e1)
              go_wp2
              go_roundw
              case rel => exact ⟨2, by omega, rfl, by rw [g3.out]; exact hRc, hgr, by rw [g3.out]; exact hcs, HP2.out⟩
              case measure => simp [intOf]
          · have g2 := hid (cnt_two x pa c0 c1)
            go_wp2
            go_end0
            refine ⟨rfl, hgr, ?_⟩
            have := g2.out
            rw [show min s (expect x pa c0 c1).length = cnt x pa c0 c1 2 by omega]
            exact hRc
      · have hd : decide (1 < s) = false := by simpa using hst
        have h1 : min s (expect x pa c0 c1).length = 1 := by omega
        have HM := hid h1
        clear h1 hone
        rw [hd, Bool.not_false]
        go_wp2
        refine bodyPost_ret (results_none rfl _ _ _) rfl ⟨rfl, hG3, ?_⟩
        rw [HM.out]
        exact hR3
    · have HX : ((x == 0) || pa.toList.isEmpty) = true := by rw [hx, hpa]; rfl
      go_enter Yba.func17, Yba.ntmps17
      go_wp2_with (go_at_call 18; refine (parent_any x _).mono ?_; rintro e w1 ⟨y, rfl, hyy, hbel⟩; have hg1 := below_grown hbel none; have b1 := hg1.cell hb (by simp); have b8 := hg1.cell h8 (by simp); clear hbel hyy)
      have lX := World.block_lt_of_cell? w1 _ b1
      have lP := World.block_lt_of_cell? w1 _ b8
      go_quiet (fail)
      have hg2 : W.grownBy ((w1.alloc (Obj.cells #[Value.int IntKind.u64 y] 26)).drewN nq) none := grownBy_drewN (hg1.trans (World.grownBy_alloc _ _ _)) nq
      generalize (w1.alloc (Obj.cells #[Value.int IntKind.u64 y] 26)).drewN nq = w2 at hg2 ⊢
      clear b1 b8 lX lP hg1
      have hcn : Hid (R (cnt x pa c0 c1 0) w2 ∧ W.grownBy w2 (some bC) ∧ cnt x pa c0 c1 0 < s ∧ PeerAt w2 bX bP x pa c0 c1) := by
        have e : cnt x pa c0 c1 0 = 0 := by rw [cnt_zero, HX]; rfl
        rw [e]
        exact ⟨HR.out _ _ _ H0.out hg2, grown_some hg2 _, by omega, HP.out.kept hg2 (by simp) (by simp)⟩
      clear hg2 hx hb h3 h8 h9 h10 hpa HX
      obtain ⟨hRc, hgr, hcs, ⟨b1, b3, b8, b9, b10⟩⟩ := hcn.out
      go_wp2
      go_loopw [40] (fun i wr => ∃ k : Nat, k ≤ 2 ∧ i = .int .i64 k ∧ R (cnt x pa c0 c1 k) wr ∧ W.grownBy wr (some bC) ∧ cnt x pa c0 c1 k < s ∧ PeerAt wr bX bP x pa c0 c1)
        (fun i _ => 2 - (intOf i).toNat)
      case atStart => exact ⟨0, by omega, rfl, hcn.out⟩
      case round =>
        clear hcn hRc hgr hcs b1 b3 b8 b9 b10
        obtain ⟨k, hk, rfl, hRc, hgr, hcs, hpp⟩ := hrel
        have HP2 : Hid (PeerAt wr bX bP x pa c0 c1) := hpp
        obtain ⟨b1, b3, b8, b9, b10⟩ := hpp
        have i0 : ∀ w, (Instr.index 37 (.agg #[.string c0, .string c1]) (.int .i64 0)).run Yba.prog w = .ok (.string c0) w := fun _ => by kernel_rfl
        have i1 : ∀ w, (Instr.index 37 (.agg #[.string c0, .string c1]) (.int .i64 1)).run Yba.prog w = .ok (.string c1) w := fun _ => by kernel_rfl
        have w1' := wrap_lc x
        have w2' := wrap_lc0 x
        have w3' := wrap_rc x
        rcases (show k = 0 ∨ k = 1 ∨ k = 2 by omega) with rfl | rfl | rfl
        · cases e0 : c0.toList.isEmpty
          · obtain ⟨g1, g2, g3⟩ := get_c0 x pa c0 c1 e0
            have hy0 := HY.out _ _ hRc g2
            rw [g1] at hy0
            have HY0 := hid hy0
            clear hy0
            have G : Hid (cnt x pa c0 c1 1 = cnt x pa c0 c1 0 + 1 ∧ cnt x pa c0 c1 0 < (expect x pa c0 c1).length) := ⟨g3, g2⟩
            clear g1 g2 g3
            go_wp2_with fail
            refine HY0.out.mono ?_
            rintro e w3 ⟨rfl, hg3, hR3⟩
            by_cases hst : cnt x pa c0 c1 0 + 1 < s
            · go_wp2
              go_roundw
              case rel => exact ⟨1, by omega, rfl, by rw [G.out.1]; exact hR3, hgr.trans hg3, by rw [G.out.1]; exact hst, HP2.out.kept hg3 (by simpa using dX) (by simpa using dP)⟩
              case measure => simp [intOf]
            · have hd : decide (cnt x pa c0 c1 0 + 1 < s) = false := by simpa using hst
              go_wp2
              refine bodyPost_ret (results_none rfl _ _ _) rfl ⟨rfl, hgr.trans hg3, ?_⟩
              have := G.out
              rw [show min s (expect x pa c0 c1).length = cnt x pa c0 c1 0 + 1 by omega]
              exact hR3
          · have g3 := hid (no_c0 x pa c0 c1 e0)
            go_wp2
            go_roundw
            case rel => exact ⟨1, by omega, rfl, by rw [g3.out]; exact hRc, hgr, by rw [g3.out]; exact hcs, HP2.out⟩
            case measure => simp [intOf]
        · cases e1 : c1.toList.isEmpty
          · obtain ⟨g1, g2, g3⟩ := get_c1 x pa c0 c1 e1
            have hy0 := HY.out _ _ hRc g2
            rw [g1] at hy0
            have HY0 := hid hy0
            clear hy0
            have G : Hid (cnt x pa c0 c1 2 = cnt x pa c0 c1 1 + 1 ∧ cnt x pa c0 c1 1 < (expect x pa c0 c1).length) := ⟨g3, g2⟩
            clear g1 g2 g3
            go_wp2_with fail
            refine HY0.out.mono ?_
            rintro e w3 ⟨rfl, hg3, hR3⟩
            by_cases hst : cnt x pa c0 c1 1 + 1 < s
            · go_wp2
              go_roundw
              case rel => exact ⟨2, by omega, rfl, by rw [G.out.1]; exact hR3, hgr.trans hg3, by rw [G.out.1]; exact hst, HP2.out.kept hg3 (by simpa using dX) (by simpa using dP)⟩
              case measure => simp [intOf]
            · have hd : decide (cnt x pa c0 c1 1 + 1 < s) = false := by simpa using hst
              go_wp2
              refine bodyPost_ret (results_none rfl _ _ _) rfl ⟨rfl, hgr.trans hg3, ?_⟩
              have := G.out
              rw [show min s (expect x pa c0 c1).length = cnt x pa c0 c1 1 + 1 by omega]
              exact hR3
          · have g3 := hid (no_c1 x pa c0 c1 e1)
            go_wp2
            go_roundw
            case rel => exact ⟨2, by omega, rfl, by rw [g3.out]; exact hRc, hgr, by rw [g3.out]; exact hcs, HP2.out⟩
            case measure => simp [intOf]
        · have g2 := hid (cnt_two x pa c0 c1)
          go_wp2
          go_end0
          refine ⟨rfl, hgr, ?_⟩
          have := g2.out
          rw [show min s (expect x pa c0 c1).length = cnt x pa c0 c1 2 by omega]
          exact hRc
  · have HX : ((x == 0) || pa.toList.isEmpty) = true := by rw [hx]; rfl
    go_enter Yba.func17, Yba.ntmps17
    go_wp2_with (go_at_call 18; refine (parent_any x _).mono ?_; rintro e w1 ⟨y, rfl, hyy, hbel⟩; have hg1 := below_grown hbel none; have b1 := hg1.cell hb (by simp); have b8 := hg1.cell h8 (by simp); clear hbel hyy)
    have lX := World.block_lt_of_cell? w1 _ b1
    have lP := World.block_lt_of_cell? w1 _ b8
    go_quiet (fail)
    have hg2 : W.grownBy ((w1.alloc (Obj.cells #[Value.int IntKind.u64 y] 26)).drewN nq) none := grownBy_drewN (hg1.trans (World.grownBy_alloc _ _ _)) nq
    generalize (w1.alloc (Obj.cells #[Value.int IntKind.u64 y] 26)).drewN nq = w2 at hg2 ⊢
    clear b1 b8 lX lP hg1
    have hcn : Hid (R (cnt x pa c0 c1 0) w2 ∧ W.grownBy w2 (some bC) ∧ cnt x pa c0 c1 0 < s ∧ PeerAt w2 bX bP x pa c0 c1) := by
      have e : cnt x pa c0 c1 0 = 0 := by rw [cnt_zero, HX]; rfl
      rw [e]
      exact ⟨HR.out _ _ _ H0.out hg2, grown_some hg2 _, by omega, HP.out.kept hg2 (by simp) (by simp)⟩
    clear hg2 hx hb h3 h8 h9 h10 HX
    obtain ⟨hRc, hgr, hcs, ⟨b1, b3, b8, b9, b10⟩⟩ := hcn.out
    go_wp2
    go_loopw [40] (fun i wr => ∃ k : Nat, k ≤ 2 ∧ i = .int .i64 k ∧ R (cnt x pa c0 c1 k) wr ∧ W.grownBy wr (some bC) ∧ cnt x pa c0 c1 k < s ∧ PeerAt wr bX bP x pa c0 c1)
      (fun i _ => 2 - (intOf i).toNat)
    case atStart => exact ⟨0, by omega, rfl, hcn.out⟩
    case round =>
      clear hcn hRc hgr hcs b1 b3 b8 b9 b10
      obtain ⟨k, hk, rfl, hRc, hgr, hcs, hpp⟩ := hrel
      have HP2 : Hid (PeerAt wr bX bP x pa c0 c1) := hpp
      obtain ⟨b1, b3, b8, b9, b10⟩ := hpp
      have i0 : ∀ w, (Instr.index 37 (.agg #[.string c0, .string c1]) (.int .i64 0)).run Yba.prog w = .ok (.string c0) w := fun _ => by kernel_rfl
      have i1 : ∀ w, (Instr.index 37 (.agg #[.string c0, .string c1]) (.int .i64 1)).run Yba.prog w = .ok (.string c1) w := fun _ => by kernel_rfl
      have w1' := wrap_lc x
      have w2' := wrap_lc0 x
      have w3' := wrap_rc x
      rcases (show k = 0 ∨ k = 1 ∨ k = 2 by omega) with rfl | rfl | rfl
      · cases e0 : c0.toList.isEmpty
        · obtain ⟨g1, g2, g3⟩ := get_c0 x pa c0 c1 e0
          have hy0 := HY.out _ _ hRc g2
          rw [g1] at hy0
          have HY0 := hid hy0
          clear hy0
          have G : Hid (cnt x pa c0 c1 1 = cnt x pa c0 c1 0 + 1 ∧ cnt x pa c0 c1 0 < (expect x pa c0 c1).length) := ⟨g3, g2⟩
          clear g1 g2 g3
          go_wp2_with fail
          refine HY0.out.mono ?_
          rintro e w3 ⟨rfl, hg3, hR3⟩
          by_cases hst : cnt x pa c0 c1 0 + 1 < s
          · go_wp2
            go_roundw
            case rel => exact ⟨1, by omega, rfl, by rw [G.out.1]; exact hR3, hgr.trans hg3, by rw [G.out.1]; exact hst, HP2.out.kept hg3 (by simpa using dX) (by simpa using dP)⟩
            case measure => simp [intOf]
          · have hd : decide (cnt x pa c0 c1 0 + 1 < s) = false := by simpa using hst
            go_wp2
            refine bodyPost_ret (results_none rfl _ _ _) rfl ⟨rfl, hgr.trans hg3, ?_⟩
            have := G.out
            rw [show min s (expect x pa c0 c1).length = cnt x pa c0 c1 0 + 1 by omega]
            exact hR3
        · have g3 := hid (no_c0 x pa c0 c1 e0)
          go_wp2
          go_roundw
          case rel => exact ⟨1, by omega, rfl, by rw [g3.out]; exact hRc, hgr, by rw [g3.out]; exact hcs, HP2.out⟩
          case measure => simp [intOf]
      · cases e1 : c1.toList.isEmpty
        · obtain ⟨g1, g2, g3⟩ := get_c1 x pa c0 c1 e1
          have hy0 := HY.out _ _ hRc g2
          rw [g1] at hy0
          have HY0 := hid hy0
          clear hy0
          have G : Hid (cnt x pa c0 c1 2 = cnt x pa c0 c1 1 + 1 ∧ cnt x pa c0 c1 1 < (expect x pa c0 c1).length) := ⟨g3, g2⟩
          clear g1 g2 g3
          go_wp2_with fail
          refine HY0.out.mono ?_
          rintro e w3 ⟨rfl, hg3, hR3⟩
          by_cases hst : cnt x pa c0 c1 1 + 1 < s
          · go_wp2
            go_roundw
            case rel => exact ⟨2, by omega, rfl, by rw [G.out.1]; exact hR3, hgr.trans hg3, by rw [G.out.1]; exact hst, HP2.out.kept hg3 (by simpa using dX) (by simpa using dP)⟩
            case measure => simp [intOf]
          · have hd : decide (cnt x pa c0 c1 1 + 1 < s) = false := by simpa using hst
            go_wp2
            refine bodyPost_ret (results_none rfl _ _ _) rfl ⟨rfl, hgr.trans hg3, ?_⟩
            have := G.out
            rw [show min s (expect x pa c0 c1).length = cnt x pa c0 c1 1 + 1 by omega]
            exact hR3
        · have g3 := hid (no_c1 x pa c0 c1 e1)
          go_wp2
          go_roundw
          case rel => exact ⟨2, by omega, rfl, by rw [g3.out]; exact hRc, hgr, by rw [g3.out]; exact hcs, HP2.out⟩
          case measure => simp [intOf]
      · have g2 := hid (cnt_two x pa c0 c1)
        go_wp2
        go_end0
        refine ⟨rfl, hgr, ?_⟩
        have := g2.out
        rw [show min s (expect x pa c0 c1).length = cnt x pa c0 c1 2 by omega]
        exact hRc
end Go.Proofs.Ybulkafho
