import Derived.Test.YbulkafhoALinks
import Derived.RangeFuncNested
import Derived.RangeFuncBound
import Derived.RangeFuncCalls
import Derived.RangeFuncLeaves
import Derived.Shelf.Abstract
import Derived.Shelf.RegionOpen
import Derived.OwnWalkIn
import Derived.TacticsInMore
import Derived.LoopNIn
import Derived.LoopIn
import Derived.Sort.QuietIn
import Derived.Stop.RegionWithIn
namespace Go.Proofs.Ybulkafho
open Go.RowKit Go.Shelf
set_option linter.unusedVariables false
attribute [local go_sem] Oper.semAt_some

def encP (x : Int × ByteArray) : Array Value := #[.agg #[.int .u64 x.1], .string x.2]

set_option maxRecDepth 100000 in
set_option maxHeartbeats 3200000 in
theorem links_yield (l bX bP : Nat) (x : Int) (pa c0 c1 : ByteArray) (n : Nat)
    (R Rx : Nat → World → Prop) (hR : ∀ c W W', R c W → W.grownBy W' none → R c W')
    (hy : ∀ c W, R c W → PeerAt W bX bP x pa c0 c1 → c < (expect x pa c0 c1).length → YieldAt Fence.wide (n - 1) Yba.prog l (encP ((expect x pa c0 c1).getD c (0, ByteArray.empty))) W
      fun e W' => ∃ b, e = .returned (.bool b) ∧ (b = true → R (c + 1) W' ∧ PeerAt W' bX bP x pa c0 c1) ∧ (b = false → Rx (c + 1) W'))
    (hn : 1 ≤ n) (W : World) (hp : PeerAt W bX bP x pa c0 c1) (h0 : R 0 W) :
    CallsIn Fence.wide n Yba.prog 17 #[.func (.yield l) #[] #[], .pointer (some ⟨bX, 0, none⟩)] W fun e W' => e = .returned (.tuple #[]) ∧ (R (expect x pa c0 c1).length W' ∨ ∃ c, c ≤ (expect x pa c0 c1).length ∧ Rx c W') := by
  have HP : Hid (PeerAt W bX bP x pa c0 c1) := hp
  obtain ⟨hb, h3, h8, h9, h10⟩ := hp
  have HY := hid hy
  have HR := hid hR
  have H0 := hid h0
  clear hy hR h0
  cases hx : (x == 0)
  · cases hpa : pa.toList.isEmpty
    · have HX : Hid (((x == 0) || pa.toList.isEmpty) = false) := by rw [hx, hpa]; rfl
      refine callsIn_of_wp Yba.func17 rfl trivial ?_ rfl
      simp only [Yba.ntmps17, List.size_toArray, List.length_cons, List.length_nil, Nat.reduceAdd, Nat.reduceSub, Array.replicate_succ, Array.replicate_zero, List.push_toArray, List.append_toArray, List.nil_append, List.cons_append]
      gi_wp2_with (refine ⟨trivial, ?_⟩; gi_at_call 18; refine (callsIn_wide.2 (parent_any x _)).mono ?_; rintro e w1 ⟨y, rfl, hyy, hbel⟩; have hg1 := below_grown hbel none; have b1 := hg1.cell hb (by simp); have b8 := hg1.cell h8 (by simp); clear hbel; obtain rfl := hyy hx; clear hyy)
      have lX := World.block_lt_of_cell? w1 _ b1
      have lP := World.block_lt_of_cell? w1 _ b8
      have hg2 : W.grownBy (w1.alloc (Obj.cells #[Value.int IntKind.u64 (par x)] 26)).drew none := grownBy_drewN (hg1.trans (World.grownBy_alloc _ _ _)) 1
      obtain ⟨g1, g2⟩ := get_par x pa c0 c1 HX.out
      have hY := HY.out 0 _ (HR.out _ _ _ H0.out hg2) (HP.out.kept hg2 (by simp) (by simp)) g2
      rw [g1] at hY
      obtain ⟨fn, tmps, assign, body, hyr, hRr⟩ := hY
      dsimp only [encP] at hyr
      have HRr := hid hRr
      have hone := hid (show cnt x pa c0 c1 0 = 1 by rw [cnt_zero, HX.out]; rfl)
      clear g1 hRr
      gi_region_with ((refine HRr.out.mono ?_; rintro e W3 ⟨b, rfl, ht, hf⟩))
      all_goals
        cases b
        · have hf' := hf rfl
          clear ht hf
          gi_wp2
          refine bodyPost_ret (results_none rfl _ _ _) rfl ⟨rfl, .inr ⟨_, ?_, hf'⟩⟩
          omega
        · have hcn : Hid (R (cnt x pa c0 c1 0) W3 ∧ PeerAt W3 bX bP x pa c0 c1) := by
            rw [hone.out]
            exact ht rfl
          simp only [Bool.not_true]
          clear hone ht hf HRr hyr hg2 b1 b8 lX lP g2 hg1 hb h3 h8 h9 h10 hx hpa HX
          obtain ⟨hRc, ⟨b1, b3, b8, b9, b10⟩⟩ := hcn.out
          gi_wp2
          gi_loopw [40] (fun i wr => ∃ k : Nat, k ≤ 2 ∧ i = .int .i64 k ∧ R (cnt x pa c0 c1 k) wr ∧ PeerAt wr bX bP x pa c0 c1)
            (fun i _ => 2 - (intOf i).toNat)
          case atStart => exact ⟨0, by omega, rfl, hcn.out⟩
          case round =>
            clear hcn hRc b1 b3 b8 b9 b10
            obtain ⟨k, hk, rfl, hRc, hpp⟩ := hrel
            have HP2 : Hid (PeerAt wr bX bP x pa c0 c1) := hpp
            obtain ⟨b1, b3, b8, b9, b10⟩ := hpp
            have i0 : ∀ w, (Instr.index 37 (.agg #[.string c0, .string c1]) (.int .i64 0)).run Yba.prog w = .ok (.string c0) w := fun _ => by kernel_rfl
            have i1 : ∀ w, (Instr.index 37 (.agg #[.string c0, .string c1]) (.int .i64 1)).run Yba.prog w = .ok (.string c1) w := fun _ => by kernel_rfl
            have w1' := wrap_lc x
            have w2' := wrap_lc0 x
            have w3' := wrap_rc x
            rcases (show k = 0 ∨ k = 1 ∨ k = 2 by omega) with rfl | rfl | rfl
            · cases e0 : c0.toList.isEmpty
              · obtain ⟨g1, g2, g3⟩ := get_c0 x pa c0 c1 e0
                have hY := HY.out _ _ hRc HP2.out g2
                rw [g1] at hY
                obtain ⟨fn, tmps, assign, body, hyr, hRr⟩ := hY
                dsimp only [encP] at hyr
                have HRr := hid hRr
                have G : Hid (cnt x pa c0 c1 1 = cnt x pa c0 c1 0 + 1 ∧ cnt x pa c0 c1 0 < (expect x pa c0 c1).length) := ⟨g3, g2⟩
                clear g1 g2 g3 hRr
                gi_wp2
                refine HRr.out.mono ?_
                rintro e W4 ⟨b, rfl, ht, hf⟩
                cases b
                · have hf' := hf rfl
                  clear ht hf
                  gi_wp2
                  refine bodyPost_ret (results_none rfl _ _ _) rfl ⟨rfl, .inr ⟨_, ?_, hf'⟩⟩
                  have := G.out
                  omega
                · obtain ⟨hR4, hP4⟩ := ht rfl
                  clear ht hf
                  gi_wp2
                  go_roundw
                  case rel => exact ⟨1, by omega, rfl, by rw [G.out.1]; exact hR4, hP4⟩
                  case measure => simp [intOf]
              · have g3 := hid (no_c0 x pa c0 c1 e0)
                gi_wp2
                refine ⟨fun _ h => (by cases h), ?_⟩
                gi_wp2
                go_roundw
                case rel => exact ⟨1, by omega, rfl, by rw [g3.out]; exact hRc, HP2.out⟩
                case measure => simp [intOf]
            · cases e1 : c1.toList.isEmpty
              · obtain ⟨g1, g2, g3⟩ := get_c1 x pa c0 c1 e1
                have hY := HY.out _ _ hRc HP2.out g2
                rw [g1] at hY
                obtain ⟨fn, tmps, assign, body, hyr, hRr⟩ := hY
                dsimp only [encP] at hyr
                have HRr := hid hRr
                have G : Hid (cnt x pa c0 c1 2 = cnt x pa c0 c1 1 + 1 ∧ cnt x pa c0 c1 1 < (expect x pa c0 c1).length) := ⟨g3, g2⟩
                clear g1 g2 g3 hRr
                gi_wp2
                refine HRr.out.mono ?_
                rintro e W4 ⟨b, rfl, ht, hf⟩
                cases b
                · have hf' := hf rfl
                  clear ht hf
                  gi_wp2
                  refine bodyPost_ret (results_none rfl _ _ _) rfl ⟨rfl, .inr ⟨_, ?_, hf'⟩⟩
                  have := G.out
                  omega
                · obtain ⟨hR4, hP4⟩ := ht rfl
                  clear ht hf
                  gi_wp2
                  go_roundw
                  case rel => exact ⟨2, by omega, rfl, by rw [G.out.1]; exact hR4, hP4⟩
                  case measure => simp [intOf]
              · have g3 := hid (no_c1 x pa c0 c1 e1)
                gi_wp2
                refine ⟨fun _ h => (by cases h), ?_⟩
                gi_wp2
                go_roundw
                case rel => exact ⟨2, by omega, rfl, by rw [g3.out]; exact hRc, HP2.out⟩
                case measure => simp [intOf]
            · have g2 := hid (cnt_two x pa c0 c1)
              gi_wp2
              go_end0
              exact ⟨rfl, .inl (by rw [← g2.out]; exact hRc)⟩
    · have HX : ((x == 0) || pa.toList.isEmpty) = true := by rw [hx, hpa]; rfl
      refine callsIn_of_wp Yba.func17 rfl trivial ?_ rfl
      simp only [Yba.ntmps17, List.size_toArray, List.length_cons, List.length_nil, Nat.reduceAdd, Nat.reduceSub, Array.replicate_succ, Array.replicate_zero, List.push_toArray, List.append_toArray, List.nil_append, List.cons_append]
      gi_wp2_with (refine ⟨trivial, ?_⟩; gi_at_call 18; refine (callsIn_wide.2 (parent_any x _)).mono ?_; rintro e w1 ⟨y, rfl, hyy, hbel⟩; have hg1 := below_grown hbel none; have b1 := hg1.cell hb (by simp); have b8 := hg1.cell h8 (by simp); clear hbel; clear hyy)
      have lX := World.block_lt_of_cell? w1 _ b1
      have lP := World.block_lt_of_cell? w1 _ b8
      refine wpIn_wide.2 ?_
      go_quiet (fail)
      have hg2 : W.grownBy ((w1.alloc (Obj.cells #[Value.int IntKind.u64 y] 26)).drewN nq) none := grownBy_drewN (hg1.trans (World.grownBy_alloc _ _ _)) nq
      generalize (w1.alloc (Obj.cells #[Value.int IntKind.u64 y] 26)).drewN nq = w2 at hg2 ⊢
      clear b1 b8 lX lP hg1
      have hcn : Hid (R (cnt x pa c0 c1 0) w2 ∧ PeerAt w2 bX bP x pa c0 c1) := by
        have e : cnt x pa c0 c1 0 = 0 := by rw [cnt_zero, HX]; rfl
        rw [e]
        exact ⟨HR.out _ _ _ H0.out hg2, HP.out.kept hg2 (by simp) (by simp)⟩
      clear hg2 hx hb h3 h8 h9 h10 hpa HX
      obtain ⟨hRc, ⟨b1, b3, b8, b9, b10⟩⟩ := hcn.out
      gi_wp2
      gi_loopw [40] (fun i wr => ∃ k : Nat, k ≤ 2 ∧ i = .int .i64 k ∧ R (cnt x pa c0 c1 k) wr ∧ PeerAt wr bX bP x pa c0 c1)
        (fun i _ => 2 - (intOf i).toNat)
      case atStart => exact ⟨0, by omega, rfl, hcn.out⟩
      case round =>
        clear hcn hRc b1 b3 b8 b9 b10
        obtain ⟨k, hk, rfl, hRc, hpp⟩ := hrel
        have HP2 : Hid (PeerAt wr bX bP x pa c0 c1) := hpp
        obtain ⟨b1, b3, b8, b9, b10⟩ := hpp
        have i0 : ∀ w, (Instr.index 37 (.agg #[.string c0, .string c1]) (.int .i64 0)).run Yba.prog w = .ok (.string c0) w := fun _ => by kernel_rfl
        have i1 : ∀ w, (Instr.index 37 (.agg #[.string c0, .string c1]) (.int .i64 1)).run Yba.prog w = .ok (.string c1) w := fun _ => by kernel_rfl
        have w1' := wrap_lc x
        have w2' := wrap_lc0 x
        have w3' := wrap_rc x
        rcases (show k = 0 ∨ k = 1 ∨ k = 2 by omega) with rfl | rfl | rfl
        · cases e0 : c0.toList.isEmpty
          · obtain ⟨g1, g2, g3⟩ := get_c0 x pa c0 c1 e0
            have hY := HY.out _ _ hRc HP2.out g2
            rw [g1] at hY
            obtain ⟨fn, tmps, assign, body, hyr, hRr⟩ := hY
            dsimp only [encP] at hyr
            have HRr := hid hRr
            have G : Hid (cnt x pa c0 c1 1 = cnt x pa c0 c1 0 + 1 ∧ cnt x pa c0 c1 0 < (expect x pa c0 c1).length) := ⟨g3, g2⟩
            clear g1 g2 g3 hRr
            gi_wp2
            refine HRr.out.mono ?_
            rintro e W4 ⟨b, rfl, ht, hf⟩
            cases b
            · have hf' := hf rfl
              clear ht hf
              gi_wp2
              refine bodyPost_ret (results_none rfl _ _ _) rfl ⟨rfl, .inr ⟨_, ?_, hf'⟩⟩
              have := G.out
              omega
            · obtain ⟨hR4, hP4⟩ := ht rfl
              clear ht hf
              gi_wp2
              go_roundw
              case rel => exact ⟨1, by omega, rfl, by rw [G.out.1]; exact hR4, hP4⟩
              case measure => simp [intOf]
          · have g3 := hid (no_c0 x pa c0 c1 e0)
            gi_wp2
            refine ⟨fun _ h => (by cases h), ?_⟩
            gi_wp2
            go_roundw
            case rel => exact ⟨1, by omega, rfl, by rw [g3.out]; exact hRc, HP2.out⟩
            case measure => simp [intOf]
        · cases e1 : c1.toList.isEmpty
          · obtain ⟨g1, g2, g3⟩ := get_c1 x pa c0 c1 e1
            have hY := HY.out _ _ hRc HP2.out g2
            rw [g1] at hY
            obtain ⟨fn, tmps, assign, body, hyr, hRr⟩ := hY
            dsimp only [encP] at hyr
            have HRr := hid hRr
            have G : Hid (cnt x pa c0 c1 2 = cnt x pa c0 c1 1 + 1 ∧ cnt x pa c0 c1 1 < (expect x pa c0 c1).length) := ⟨g3, g2⟩
            clear g1 g2 g3 hRr
            gi_wp2
            refine HRr.out.mono ?_
            rintro e W4 ⟨b, rfl, ht, hf⟩
            cases b
            · have hf' := hf rfl
              clear ht hf
              gi_wp2
              refine bodyPost_ret (results_none rfl _ _ _) rfl ⟨rfl, .inr ⟨_, ?_, hf'⟩⟩
              have := G.out
              omega
            · obtain ⟨hR4, hP4⟩ := ht rfl
              clear ht hf
              gi_wp2
              go_roundw
              case rel => exact ⟨2, by omega, rfl, by rw [G.out.1]; exact hR4, hP4⟩
              case measure => simp [intOf]
          · have g3 := hid (no_c1 x pa c0 c1 e1)
            gi_wp2
            refine ⟨fun _ h => (by cases h), ?_⟩
            gi_wp2
            go_roundw
            case rel => exact ⟨2, by omega, rfl, by rw [g3.out]; exact hRc, HP2.out⟩
            case measure => simp [intOf]
        · have g2 := hid (cnt_two x pa c0 c1)
          gi_wp2
          go_end0
          exact ⟨rfl, .inl (by rw [← g2.out]; exact hRc)⟩
  · have HX : ((x == 0) || pa.toList.isEmpty) = true := by rw [hx]; rfl
    refine callsIn_of_wp Yba.func17 rfl trivial ?_ rfl
    simp only [Yba.ntmps17, List.size_toArray, List.length_cons, List.length_nil, Nat.reduceAdd, Nat.reduceSub, Array.replicate_succ, Array.replicate_zero, List.push_toArray, List.append_toArray, List.nil_append, List.cons_append]
    gi_wp2_with (refine ⟨trivial, ?_⟩; gi_at_call 18; refine (callsIn_wide.2 (parent_any x _)).mono ?_; rintro e w1 ⟨y, rfl, hyy, hbel⟩; have hg1 := below_grown hbel none; have b1 := hg1.cell hb (by simp); have b8 := hg1.cell h8 (by simp); clear hbel; clear hyy)
    have lX := World.block_lt_of_cell? w1 _ b1
    have lP := World.block_lt_of_cell? w1 _ b8
    refine wpIn_wide.2 ?_
    go_quiet (fail)
    have hg2 : W.grownBy ((w1.alloc (Obj.cells #[Value.int IntKind.u64 y] 26)).drewN nq) none := grownBy_drewN (hg1.trans (World.grownBy_alloc _ _ _)) nq
    generalize (w1.alloc (Obj.cells #[Value.int IntKind.u64 y] 26)).drewN nq = w2 at hg2 ⊢
    clear b1 b8 lX lP hg1
    have hcn : Hid (R (cnt x pa c0 c1 0) w2 ∧ PeerAt w2 bX bP x pa c0 c1) := by
      have e : cnt x pa c0 c1 0 = 0 := by rw [cnt_zero, HX]; rfl
      rw [e]
      exact ⟨HR.out _ _ _ H0.out hg2, HP.out.kept hg2 (by simp) (by simp)⟩
    clear hg2 hx hb h3 h8 h9 h10 HX
    obtain ⟨hRc, ⟨b1, b3, b8, b9, b10⟩⟩ := hcn.out
    gi_wp2
    gi_loopw [40] (fun i wr => ∃ k : Nat, k ≤ 2 ∧ i = .int .i64 k ∧ R (cnt x pa c0 c1 k) wr ∧ PeerAt wr bX bP x pa c0 c1)
      (fun i _ => 2 - (intOf i).toNat)
    case atStart => exact ⟨0, by omega, rfl, hcn.out⟩
    case round =>
      clear hcn hRc b1 b3 b8 b9 b10
      obtain ⟨k, hk, rfl, hRc, hpp⟩ := hrel
      have HP2 : Hid (PeerAt wr bX bP x pa c0 c1) := hpp
      obtain ⟨b1, b3, b8, b9, b10⟩ := hpp
      have i0 : ∀ w, (Instr.index 37 (.agg #[.string c0, .string c1]) (.int .i64 0)).run Yba.prog w = .ok (.string c0) w := fun _ => by kernel_rfl
      have i1 : ∀ w, (Instr.index 37 (.agg #[.string c0, .string c1]) (.int .i64 1)).run Yba.prog w = .ok (.string c1) w := fun _ => by kernel_rfl
      have w1' := wrap_lc x
      have w2' := wrap_lc0 x
      have w3' := wrap_rc x
      rcases (show k = 0 ∨ k = 1 ∨ k = 2 by omega) with rfl | rfl | rfl
      · cases e0 : c0.toList.isEmpty
        · obtain ⟨g1, g2, g3⟩ := get_c0 x pa c0 c1 e0
          have hY := HY.out _ _ hRc HP2.out g2
          rw [g1] at hY
          obtain ⟨fn, tmps, assign, body, hyr, hRr⟩ := hY
          dsimp only [encP] at hyr
          have HRr := hid hRr
          have G : Hid (cnt x pa c0 c1 1 = cnt x pa c0 c1 0 + 1 ∧ cnt x pa c0 c1 0 < (expect x pa c0 c1).length) := ⟨g3, g2⟩
          clear g1 g2 g3 hRr
          gi_wp2
          refine HRr.out.mono ?_
          rintro e W4 ⟨b, rfl, ht, hf⟩
          cases b
          · have hf' := hf rfl
            clear ht hf
            gi_wp2
            refine bodyPost_ret (results_none rfl _ _ _) rfl ⟨rfl, .inr ⟨_, ?_, hf'⟩⟩
            have := G.out
            omega
          · obtain ⟨hR4, hP4⟩ := ht rfl
            clear ht hf
            gi_wp2
            go_roundw
            case rel => exact ⟨1, by omega, rfl, by rw [G.out.1]; exact hR4, hP4⟩
            case measure => simp [intOf]
        · have g3 := hid (no_c0 x pa c0 c1 e0)
          gi_wp2
          refine ⟨fun _ h => (by cases h), ?_⟩
          gi_wp2
          go_roundw
          case rel => exact ⟨1, by omega, rfl, by rw [g3.out]; exact hRc, HP2.out⟩
          case measure => simp [intOf]
      · cases e1 : c1.toList.isEmpty
        · obtain ⟨g1, g2, g3⟩ := get_c1 x pa c0 c1 e1
          have hY := HY.out _ _ hRc HP2.out g2
          rw [g1] at hY
          obtain ⟨fn, tmps, assign, body, hyr, hRr⟩ := hY
          dsimp only [encP] at hyr
          have HRr := hid hRr
          have G : Hid (cnt x pa c0 c1 2 = cnt x pa c0 c1 1 + 1 ∧ cnt x pa c0 c1 1 < (expect x pa c0 c1).length) := ⟨g3, g2⟩
          clear g1 g2 g3 hRr
          gi_wp2
          refine HRr.out.mono ?_
          rintro e W4 ⟨b, rfl, ht, hf⟩
          cases b
          · have hf' := hf rfl
            clear ht hf
            gi_wp2
            refine bodyPost_ret (results_none rfl _ _ _) rfl ⟨rfl, .inr ⟨_, ?_, hf'⟩⟩
            have := G.out
            omega
          · obtain ⟨hR4, hP4⟩ := ht rfl
            clear ht hf
            gi_wp2
            go_roundw
            case rel => exact ⟨2, by omega, rfl, by rw [G.out.1]; exact hR4, hP4⟩
            case measure => simp [intOf]
        · have g3 := hid (no_c1 x pa c0 c1 e1)
          gi_wp2
          refine ⟨fun _ h => (by cases h), ?_⟩
          gi_wp2
          go_roundw
          case rel => exact ⟨2, by omega, rfl, by rw [g3.out]; exact hRc, HP2.out⟩
          case measure => simp [intOf]
      · have g2 := hid (cnt_two x pa c0 c1)
        gi_wp2
        go_end0
        exact ⟨rfl, .inl (by rw [← g2.out]; exact hRc)⟩
end Go.Proofs.Ybulkafho
