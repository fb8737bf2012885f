import Derived.Test.YbulkafhoBExactWalk
namespace Go.Proofs.Ybulkafho
open Go.RowKit
set_option linter.unusedVariables false

theorem bmask_any (d : Nat) (hd : d ≤ 64) (w : World) : Calls Yba.prog 14 #[.int .u8 d] w fun e w' => e = .returned (.int .u64 (mk d)) ∧ w' = w := by
  have h1 : (0 : Int) ≤ d := Int.natCast_nonneg _
  have h2 : (d : Int) ≤ 64 := by omega
  by_cases h0 : d = 0
  · subst h0
    go_enter Yba.func14, Yba.ntmps14
    go_wp2
    go_ret
    exact ⟨ret_int (by decide), rfl⟩
  · have h3 : ((d : Int) == 0) = false := by simp; omega
    go_enter Yba.func14, Yba.ntmps14
    go_wp2
    go_ret
    exact ⟨ret_int (mask_eq d hd), rfl⟩

theorem banc_long (addr : ByteArray) (ps pd kk : Int) (a0 : Option Addr) (len cap : Nat) (w : World) (hlen : 1024 < len) (hm : len ≤ maxLen) :
    Calls Yba.prog 6 #[.string addr, .int .u64 ps, .int .u8 pd, .int .u8 kk, .slice a0 len cap] w fun e w' => e = .returned (.bool true) ∧ Below w.heap.size w w' := by
  unfold maxLen at hm
  have h1 : (1024 : Int) < (len : Int) := by omega
  go_enter Yba.func6, Yba.ntmps6
  go_wp2
  go_ret
  exact ⟨rfl, Below.refl _ _⟩

set_option maxRecDepth 100000 in
set_option maxHeartbeats 3200000 in
theorem banc_walk (addr : ByteArray) (ps pd kk : Nat) (hps : ps < 18446744073709551616) (hpd : pd ≤ 255) (hkk : kk ≤ 255) (a0 : Option Addr) (len cap : Nat) (S D : Nat → Nat) (O : Nat → Bool) (A : Nat → ByteArray) (w : World) (hlen : len ≤ 1024)
    (hS : Hid (∀ i, i < len → S i < 18446744073709551616)) (hD : Hid (∀ i, i < len → D i ≤ 255)) (hc : Hid (0 < len → ∃ b off, a0 = some ⟨b, off, none⟩ ∧ FactsAt w b off len S D O A)) :
    Calls Yba.prog 6 #[.string addr, .int .u64 ps, .int .u8 pd, .int .u8 kk, .slice a0 len cap] w fun e w' => e = .returned (.bool true) ∧ Below w.heap.size w w' := by
  obtain ⟨i0, hi0, hz0, hz1, hz2⟩ := info_parts info58b
  have h1 : ¬ (1024 : Int) < (len : Int) := by omega
  have g1 : (0 : Int) ≤ pd := Int.natCast_nonneg _
  have g2 : (pd : Int) ≤ 255 := by omega
  have g3 : (0 : Int) ≤ kk := Int.natCast_nonneg _
  have g4 : (kk : Int) ≤ 255 := by omega
  obtain ⟨E, hE⟩ : ∃ E : Nat, E = pd % 64 + 1 := ⟨_, rfl⟩
  obtain ⟨d, hd⟩ : ∃ d : Nat, d = kk % E := ⟨_, rfl⟩
  have hE1 : 1 ≤ E := by omega
  have hE2 : E ≤ 64 := by omega
  have hdE : d < E := by rw [hd]; exact Nat.mod_lt _ (by omega)
  have r1 : (pd : Int) % 64 + 1 = (E : Int) := by omega
  have r2 : (kk : Int) % (E : Int) = (d : Int) := by rw [hd]; simp
  have hE3 : (1 : Int) ≤ (E : Int) := by omega
  clear hE hd
  have b1 := bits_and_u64_nat ps (mk E) hps (mk_lt E hE2)
  have b2 := bits_and_u64_nat ps (mk d) hps (mk_lt d (by omega))
  obtain ⟨P1, hP1⟩ : ∃ P1, P1 = ps &&& mk E := ⟨_, rfl⟩
  obtain ⟨F1, hF1⟩ : ∃ F1, F1 = ps &&& mk d := ⟨_, rfl⟩
  rw [← hP1] at b1
  rw [← hF1] at b2
  have lP1 : P1 < 18446744073709551616 := by rw [hP1]; exact Nat.lt_of_le_of_lt Nat.and_le_left hps
  have lF1 : F1 < 18446744073709551616 := by rw [hF1]; exact Nat.lt_of_le_of_lt Nat.and_le_left hps
  have hcont : Hid (cont F1 d P1 = true) := by
    show cont F1 d P1 = true
    unfold cont mkE
    rw [if_pos (by omega), hP1, hF1, ancestor_eq ps d E hps (by omega) hE2]
    rfl
  clear hP1 hF1
  obtain ⟨S', D', A', hS', hD', hA', hSl, hDl, hAl⟩ : ∃ (S' D' : Nat → Nat) (A' : Nat → ByteArray), (∀ i, i < len → S' i = S i) ∧ (∀ i, i < len → D' i = D i) ∧ (∀ i, i < len → A' i = A i) ∧ S' len = F1 ∧ D' len = d ∧ A' len = addr :=
    ⟨fun i => if i < len then S i else F1, fun i => if i < len then D i else d, fun i => if i < len then A i else addr, fun i h => if_pos h, fun i h => if_pos h, fun i h => if_pos h, if_neg (by omega), if_neg (by omega), if_neg (by omega)⟩
  have HT : Hid ((∀ i, i < len → S' i = S i) ∧ (∀ i, i < len → D' i = D i) ∧ (∀ i, i < len → A' i = A i) ∧ S' len = F1 ∧ D' len = d ∧ A' len = addr) := ⟨hS', hD', hA', hSl, hDl, hAl⟩
  have hSn : Hid (∀ i, i < len + 1 → S' i < 18446744073709551616) := fun i hi => by
    by_cases h : i < len
    · rw [hS' i h]; exact hS.out i h
    · obtain rfl : i = len := by omega
      rw [hSl]; exact lF1
  have hDn : Hid (∀ i, i < len + 1 → D' i ≤ 255) := fun i hi => by
    by_cases h : i < len
    · rw [hD' i h]; exact hD.out i h
    · obtain rfl : i = len := by omega
      rw [hDl]; omega
  have hgot : Hid (anyHit addr P1 E S' D' A' (len + 1) = true) := by
    refine anyHit_of (k := len) ?_ (by omega)
    rw [hSl, hDl, hAl, hit, hcont.out, decide_eq_true hdE]
    simp
  clear hS' hD' hA' hSl hDl hAl
  go_enter Yba.func6, Yba.ntmps6
  go_wp2_with fail
  refine (bmask_any E hE2 _).mono ?_
  rintro e w' ⟨rfl, hww⟩
  have hw2 := hww.symm
  subst hw2
  clear hww
  go_wp2_with fail
  refine (bmask_any d (by omega) _).mono ?_
  rintro e w' ⟨rfl, hww⟩
  have hw2 := hww.symm
  subst hw2
  clear hww
  go_wp2_with (at_make; go_must (refine wpList_make_own _ rfl _ _ 43 rfl (w.heap.size + 1) 58 i0 _ 3 Yba.underlying43 hi0 hz0 hz1 .i64 .i64 _ (len + 1) rfl rfl (by omega) (by rw [hz2]; omega) (by unfold maxLen; omega) (by simp) ?_; intro w1 hown1 hgrow1))
  have hg1 : (w.alloc (Obj.cells (ownerCells addr P1 E) 50)).grownBy w1 none := hgrow1
  simp only [World.size_alloc] at hown1
  clear hgrow1
  obtain ⟨W0, hW0⟩ : ∃ W0, W0 = w.alloc (Obj.cells (ownerCells addr P1 E) 50) := ⟨_, rfl⟩
  have hs0 : W0.heap.size = w.heap.size + 1 := by rw [hW0]; simp
  have hB0 : Hid (Below w.heap.size w W0) := by rw [hW0]; exact (Below.refl _ _).alloc (Nat.le_refl _) _
  have hP0 : Hid (W0.heap[w.heap.size]? = some (.cells (ownerCells addr P1 E) 50 (0, 0))) := by rw [hW0]; exact heap_alloc_new w _
  rw [← hW0] at hg1
  clear hW0
  have hb1 : Below (w.heap.size + 1) W0 w1 := (Below.refl _ _).grown hg1 (by omega) (fun k e => by cases e)
  have HS0 : Hid (W0.heap.size = w.heap.size + 1) := hs0
  clear hs0 hg1 b1 b2 r1 r2
  go_loopw [16, 17] (fun v i wr => ∃ k g cp : Nat, k ≤ len ∧ i = .int .i64 k ∧ v = .slice (some ⟨g, 0, none⟩) k cp ∧ wr.ownsRow (w.heap.size + 1) 58 3 (.slice (some ⟨g, 0, none⟩) k cp) k (linkCells S' D' A' k) ∧ Below (w.heap.size + 1) W0 wr)
    (fun _ i _ => len - (intOf i).toNat)
  case atStart => exact ⟨0, _, _, Nat.zero_le _, rfl, rfl, hown1, hb1⟩
  case round =>
    obtain ⟨k, g, cp, hk, rfl, rfl, hown, hbel⟩ := hrel
    clear hown1 hb1
    have hsz := hbel.size
    have hs0 := HS0.out
    have hg : w.heap.size + 1 ≤ g ∧ g < wr.heap.size := hown.lt g rfl
    by_cases hlt : k < len
    · obtain ⟨b, off, rfl, hF⟩ := hc.out (by omega)
      obtain ⟨c0, c1, c2, c3⟩ := hF k hlt
      have lb : b < w.heap.size := World.block_lt_of_cell? w _ c0
      have hx : ∀ j v, w.cell? ⟨b, j, none⟩ = some v → wr.cell? ⟨b, j, none⟩ = some v := fun j v h => (hbel.cell (p := ⟨b, j, none⟩) (by show b < w.heap.size + 1; omega)).trans ((hB0.out.cell (p := ⟨b, j, none⟩) lb).trans h)
      have d0 := hx _ _ c0
      have d1 := hx _ _ c1
      have d2 := hx _ _ c2
      have d3 := hx _ _ c3
      have hk0 : (0 : Int) ≤ (k : Int) := Int.natCast_nonneg _
      have hk1 : (k : Int) < (len : Int) := by omega
      have hlb : b < wr.heap.size := by omega
      have HOW : Hid (wr.ownsRow (w.heap.size + 1) 58 3 (.slice (some ⟨g, 0, none⟩) k cp) k (linkCells S' D' A' k)) := hown
      have HF : Hid (∀ w2, ((wr.alloc (.cells #[.int .u64 (S k), .int .u8 (D k), .bool (O k), .string (A k)] 56)).alloc (.cells #[.int .u64 (S k), .int .u8 (D k), .string (A k)] 58)).grownBy w2 (some g) → Below (w.heap.size + 1) W0 w2) := fun w2 hgr =>
        ((hbel.alloc (by omega) _).alloc (by simp; omega) _).grown hgr (by simp; omega) (fun j e => by cases e; omega)
      have hcells : Hid (linkCells S' D' A' (k + 1) = linkCells S' D' A' k ++ [.int .u64 (S k), .int .u8 (D k), .string (A k)]) := by
        show linkCells S' D' A' (k + 1) = _
        rw [linkCells_succ, HT.out.1 k hlt, HT.out.2.1 k hlt, HT.out.2.2.1 k hlt]
      clear c0 c1 c2 c3 hF hx hown hbel
      go_wp2_with (at_builtin; refine wpList_append_lies _ rfl _ _ _ rfl (w.heap.size + 1) 58 i0 _ 3 32 Yba.underlying43 hi0 hz0 hz1 hz2 rfl (by omega) (.slice (some ⟨g, 0, none⟩) k cp) k (linkCells S' D' A' k) rfl ((HOW.out.alloc _).alloc _) ⟨wr.heap.size + 1, 0, none⟩ 1 1 [.int .u64 (S k), .int .u8 (D k), .string (A k)] rfl rfl (blk3 wr _ _ _) (by simp [Value.oneCell']) (by omega) (by unfold maxLen; omega) (by omega) (by simp; omega) (wr.heap.size + 2) (by simp) ?_; intro gg cap' w2 hown2 hgrow hat hlt2; have HB2 : Hid (Below (w.heap.size + 1) W0 w2) := HF.out _ hgrow; clear hgrow hat hlt2)
      go_roundw
      case rel => exact ⟨k + 1, gg, cap', by omega, by go_num, rfl, by rw [hcells.out]; exact hown2, HB2.out⟩
      case measure => simp [intOf]; omega
    · obtain rfl : k = len := by omega
      have hcells : Hid (linkCells S' D' A' (k + 1) = linkCells S' D' A' k ++ [.int .u64 F1, .int .u8 d, .string addr]) := by
        show linkCells S' D' A' (k + 1) = _
        rw [linkCells_succ, HT.out.2.2.2.1, HT.out.2.2.2.2.1, HT.out.2.2.2.2.2]
      have HOW : Hid (wr.ownsRow (w.heap.size + 1) 58 3 (.slice (some ⟨g, 0, none⟩) k cp) k (linkCells S' D' A' k)) := hown
      have HF : Hid (∀ w2, (wr.alloc (.cells #[.int .u64 F1, .int .u8 d, .string addr] 58)).grownBy w2 (some g) → Below (w.heap.size + 1) W0 w2) := fun w2 hgr =>
        (hbel.alloc (by omega) _).grown hgr (by simp; omega) (fun j e => by cases e; omega)
      clear hown hbel
      go_wp2_with (at_builtin; refine wpList_append_lies _ rfl _ _ _ rfl (w.heap.size + 1) 58 i0 _ 3 32 Yba.underlying43 hi0 hz0 hz1 hz2 rfl (by omega) (.slice (some ⟨g, 0, none⟩) k cp) k (linkCells S' D' A' k) rfl (HOW.out.alloc _) ⟨wr.heap.size, 0, none⟩ 1 1 [.int .u64 F1, .int .u8 d, .string addr] rfl rfl (World.news_of_block (t := 58) (fr := (0, 0)) (heap_alloc_new wr _)) (by simp [Value.oneCell']) (by omega) (by unfold maxLen; omega) (by omega) (by simp; omega) (wr.heap.size + 1) (by simp) ?_; intro gg cap' w2 hown2 hgrow hat hlt2; have HB2 : Hid (Below (w.heap.size + 1) W0 w2) := HF.out _ hgrow; have HO2 : Hid (w2.ownsRow _ _ _ _ _ _) := hown2; clear hown2 hgrow hat hlt2)
      have hbel := HB2.out
      have hblk : w2.heap[w.heap.size]? = some (.cells (ownerCells addr P1 E) 50 (0, 0)) := (hbel.block _ (by omega)).trans hP0.out
      have q1 : w2.cell? ⟨w.heap.size, 0, none⟩ = some (.string addr) := cell_of_row _ _ 0 _ _ _ hblk
      have q2 : w2.cell? ⟨w.heap.size, 11, none⟩ = some (.int .u64 P1) := cell_of_row _ _ 11 _ _ _ hblk
      have q3 : w2.cell? ⟨w.heap.size, 12, none⟩ = some (.int .u8 E) := cell_of_row _ _ 12 _ _ _ hblk
      have hL : Hid (LinksIn w2 gg (k + 1) S' D' A') := fun i hi => by
        rw [HO2.out.cellAt _ (by omega), HO2.out.cellAt _ (by omega), HO2.out.cellAt _ (by omega), ← hcells.out]
        exact linkCells_at S' D' A' (k + 1) i hi
      have hsz2 := hbel.size
      have HBE : Hid (Below w.heap.size w w2) := hB0.out.trans (hbel.mono (by omega))
      have hszw : w.heap.size ≤ w2.heap.size := by omega
      clear hblk hbel
      refine (ahead_any w.heap.size gg (k + 1) cap' addr P1 E S' D' A' (by omega) lP1 hSn hDn _ q1 q2 q3 hL).mono ?_
      rintro e w3 ⟨rfl, hb3⟩
      rw [hgot.out]
      go_wp2
      go_ret
      exact ⟨rfl, HBE.out.trans (hb3.mono hszw)⟩
end Go.Proofs.Ybulkafho
