import Derived.Test.YbulkafhoBGrow
import Derived.Deep.AppendLies
namespace Go.Proofs.Ybulkafho
open Go.RowKit
set_option linter.unusedVariables false

theorem info58b : (Yba.prog.info? 58).map (fun i => (i.zero, i.size, i.bytes)) = some (some (.agg #[.int .u64 0, .int .u8 0, .string ByteArray.empty]), 3, 32) := by kernel_rfl

/-- The cells of a row of facts at an address. -/
def FactsAt (w : World) (b off len : Nat) (S D : Nat → Nat) (O : Nat → Bool) (A : Nat → ByteArray) : Prop :=
  ∀ i, i < len → w.cell? ⟨b, off + i * 4, none⟩ = some (.int .u64 (S i)) ∧ w.cell? ⟨b, off + i * 4 + 1, none⟩ = some (.int .u8 (D i)) ∧ w.cell? ⟨b, off + i * 4 + 2, none⟩ = some (.bool (O i)) ∧ w.cell? ⟨b, off + i * 4 + 3, none⟩ = some (.string (A i))

/-- The cells of the peer that the law makes. -/
def ownerCells (addr : ByteArray) (ps pd : Nat) : Array Value :=
  #[.string addr, .string { data := #[] }, .bool false, .int .u64 0, .string { data := #[] }, .string { data := #[] }, .int .u8 0, .int .i64 0, .string { data := #[] }, .string { data := #[] }, .string { data := #[] },
    .int .u64 ps, .int .u8 pd, .slice none 0 0, .slice none 0 0, .bool false, .slice none 0 0, .pointer none, .pointer none, .slice none 0 0, .slice none 0 0]

theorem bexact_long (addr : ByteArray) (ps pd : Int) (a0 : Option Addr) (len cap : Nat) (w : World) (hlen : 1024 < len) (hm : len ≤ maxLen) :
    Calls Yba.prog 5 #[.string addr, .int .u64 ps, .int .u8 pd, .slice a0 len cap] w fun e w' => e = .returned (.bool true) ∧ Below w.heap.size w w' := by
  unfold maxLen at hm
  have h1 : (1024 : Int) < (len : Int) := by omega
  go_enter Yba.func5, Yba.ntmps5
  go_wp2
  go_ret
  exact ⟨rfl, Below.refl _ _⟩

theorem blk2 (w : World) (o o' : Obj) : ((w.alloc o).alloc o').heap[w.heap.size]? = some o := (Below.heap_alloc _ _ _ (by simp)).trans (heap_alloc_new w o)
theorem blk3 (w : World) (o : Obj) (cs : Array Value) (t : TypeId) : ∀ j u, cs.toList[j]? = some u → ((w.alloc o).alloc (.cells cs t)).cell? ((⟨w.heap.size + 1, 0, none⟩ : Addr).add j) = some u :=
  World.news_of_block (t := t) (fr := (0, 0)) (by have := heap_alloc_new (w.alloc o) (.cells cs t); rwa [World.size_alloc] at this)

set_option maxRecDepth 100000 in
set_option maxHeartbeats 3200000 in
theorem bexact_walk (addr : ByteArray) (ps pd : Nat) (hps : ps < 18446744073709551616) (hpd : pd ≤ 255) (a0 : Option Addr) (len cap : Nat) (S D : Nat → Nat) (O : Nat → Bool) (A : Nat → ByteArray) (w : World) (hlen : len ≤ 1024)
    (hS : Hid (∀ i, i < len → S i < 18446744073709551616)) (hD : Hid (∀ i, i < len → D i ≤ 255)) (hc : Hid (0 < len → ∃ b off, a0 = some ⟨b, off, none⟩ ∧ FactsAt w b off len S D O A)) :
    Calls Yba.prog 5 #[.string addr, .int .u64 ps, .int .u8 pd, .slice a0 len cap] w fun e w' => e = .returned (.bool true) ∧ Below w.heap.size w w' := by
  obtain ⟨i0, hi0, hz0, hz1, hz2⟩ := info_parts info58b
  obtain ⟨A', hA'⟩ : ∃ A' : Nat → ByteArray, A' = fun i => if O i then addr else A i := ⟨_, rfl⟩
  have HA : Hid (∀ i, A' i = if O i then addr else A i) := fun i => by rw [hA']
  clear hA'
  have h1 : ¬ (1024 : Int) < (len : Int) := by omega
  go_enter Yba.func5, Yba.ntmps5
  go_wp2_with (at_make; refine wpList_make_own _ rfl _ _ 43 rfl (w.heap.size + 1) 58 i0 _ 3 Yba.underlying43 hi0 hz0 hz1 .i64 .i64 _ len rfl rfl rfl (by rw [hz2]; omega) (by unfold maxLen; omega) (by simp) ?_; intro w1 hown1 hgrow1)
  have hg1 : (w.alloc (Obj.cells (ownerCells addr ps pd) 50)).grownBy w1 none := hgrow1
  simp only [World.size_alloc] at hown1
  clear hgrow1
  obtain ⟨W0, hW0⟩ : ∃ W0, W0 = w.alloc (Obj.cells (ownerCells addr ps pd) 50) := ⟨_, rfl⟩
  have hs0 : W0.heap.size = w.heap.size + 1 := by rw [hW0]; simp
  have hB0 : Hid (Below w.heap.size w W0) := by rw [hW0]; exact (Below.refl _ _).alloc (Nat.le_refl _) _
  have hP0 : Hid (W0.heap[w.heap.size]? = some (.cells (ownerCells addr ps pd) 50 (0, 0))) := by rw [hW0]; exact heap_alloc_new w _
  rw [← hW0] at hg1
  clear hW0
  have hb1 : Below (w.heap.size + 1) W0 w1 := (Below.refl _ _).grown hg1 (by omega) (fun k e => by cases e)
  have HS0 : Hid (W0.heap.size = w.heap.size + 1) := hs0
  clear hs0 hg1
  go_loopw [10, 11, 12] (fun v wa i wr => ∃ k g cp : Nat, k ≤ len ∧ i = .int .i64 k ∧ v = .slice (some ⟨g, 0, none⟩) k cp ∧ wa = .bool (anyHit addr ps pd S D A' k) ∧ wr.ownsRow (w.heap.size + 1) 58 3 (.slice (some ⟨g, 0, none⟩) k cp) k (linkCells S D A' k) ∧ Below (w.heap.size + 1) W0 wr)
    (fun _ _ i _ => len - (intOf i).toNat)
  case atStart => exact ⟨0, _, _, Nat.zero_le _, rfl, rfl, rfl, hown1, hb1⟩
  case round =>
    obtain ⟨k, g, cp, hk, rfl, rfl, rfl, hown, hbel⟩ := hrel
    clear hown1 hb1
    have hsz := hbel.size
    have hs0 := HS0.out
    have hg : w.heap.size + 1 ≤ g ∧ g < wr.heap.size := hown.lt g rfl
    by_cases hlt : k < len
    · obtain ⟨b, off, rfl, hF⟩ := hc.out (by omega)
      obtain ⟨c0, c1, c2, c3⟩ := hF k hlt
      have lb : b < w.heap.size := World.block_lt_of_cell? w _ c0
      have hx : ∀ j v, w.cell? ⟨b, j, none⟩ = some v → wr.cell? ⟨b, j, none⟩ = some v := fun j v h => (hbel.cell (p := ⟨b, j, none⟩) (by show b < w.heap.size + 1; omega)).trans ((hB0.out.cell (p := ⟨b, j, none⟩) lb).trans h)
      have d0 := hx _ _ c0
      have d1 := hx _ _ c1
      have d2 := hx _ _ c2
      have d3 := hx _ _ c3
      have hk0 : (0 : Int) ≤ (k : Int) := Int.natCast_nonneg _
      have hk1 : (k : Int) < (len : Int) := by omega
      have hsk := hS.out k hlt
      have hdk := hD.out k hlt
      have hlb : b < wr.heap.size := by omega
      have HOW : Hid (wr.ownsRow (w.heap.size + 1) 58 3 (.slice (some ⟨g, 0, none⟩) k cp) k (linkCells S D A' k)) := hown
      have HBE : Hid (Below (w.heap.size + 1) W0 wr) := hbel
      have HF : Hid (∀ w2, ((wr.alloc (.cells #[.int .u64 (S k), .int .u8 (D k), .bool (O k), .string (A k)] 56)).alloc (.cells #[.int .u64 (S k), .int .u8 (D k), .string (A' k)] 58)).grownBy w2 (some g) →
          Below (w.heap.size + 1) W0 w2 ∧ w2.cell? ⟨wr.heap.size, 0, none⟩ = some (.int .u64 (S k)) ∧ w2.cell? ⟨wr.heap.size, 1, none⟩ = some (.int .u8 (D k))) := fun w2 hgr => by
        have hnew := blk2 wr (.cells #[.int .u64 (S k), .int .u8 (D k), .bool (O k), .string (A k)] 56) (.cells #[.int .u64 (S k), .int .u8 (D k), .string (A' k)] 58)
        refine ⟨((hbel.alloc (by omega) _).alloc (by simp; omega) _).grown hgr (by simp; omega) (fun j e => by cases e; omega), hgr.cell (cell_of_row _ _ 0 _ _ _ hnew) (by simp; omega), hgr.cell (cell_of_row _ _ 1 _ _ _ hnew) (by simp; omega)⟩
      clear c0 c1 c2 c3 hF hx hown hbel
      obtain ⟨a', ha', hOa⟩ : ∃ a', A' k = a' ∧ ((O k = true ∧ a' = addr) ∨ (O k = false ∧ a' = A k)) := by
        refine ⟨_, rfl, ?_⟩
        rw [HA.out k]
        cases O k <;> simp
      rw [ha'] at HF
      have hhit : Hid (anyHit addr ps pd S D A' (k + 1) = (anyHit addr ps pd S D A' k || ((a'.toList == addr.toList) && (decide (D k < pd) && inB (S k) ps (D k))))) := by
        show anyHit addr ps pd S D A' (k + 1) = _
        rw [anyHit_succ, ha', hit, inB_eq _ _ _ hsk hps]
      have hcells : Hid (linkCells S D A' (k + 1) = linkCells S D A' k ++ [.int .u64 (S k), .int .u8 (D k), .string a']) := by
        show linkCells S D A' (k + 1) = _
        rw [linkCells_succ, ha']
      clear ha'
      rcases hOa with ⟨hO, rfl⟩ | ⟨hO, rfl⟩
      · rw [hO] at HF
        by_cases hdp : D k < pd
        · have hdp' : (D k : Int) < (pd : Int) := by omega
          cases hin : inB (S k) ps (D k)
          · go_wp2_with (first
              | (at_builtin; refine wpList_append_lies _ rfl _ _ _ rfl (w.heap.size + 1) 58 i0 _ 3 32 Yba.underlying43 hi0 hz0 hz1 hz2 rfl (by omega) (.slice (some ⟨g, 0, none⟩) k cp) k (linkCells S D A' k) rfl ((HOW.out.alloc _).alloc _) ⟨wr.heap.size + 1, 0, none⟩ 1 1 [.int .u64 (S k), .int .u8 (D k), .string a'] rfl rfl (blk3 wr _ _ _) (by simp [Value.oneCell']) (by omega) (by unfold maxLen; omega) (by omega) (by simp; omega) (wr.heap.size + 2) (by simp) ?_; intro gg cap' w2 hown2 hgrow hat hlt2; obtain ⟨hB2, f0, f1⟩ := HF.out _ hgrow; have HB2 : Hid (Below (w.heap.size + 1) W0 w2) := hB2; have HO2 := hown2; clear hB2 hgrow hat hlt2)
              | (go_at_call 12; refine (bin_any (S k) ps (D k) hsk hps hdk _).mono ?_; rintro e w3 ⟨rfl, rfl⟩; rw [hin]))
            go_roundw
            case rel => exact ⟨k + 1, gg, cap', by omega, by go_num, rfl, by rw [hhit.out]; simp [hin], by rw [hcells.out]; exact HO2, HB2.out⟩
            case measure => simp [intOf]; omega
          · go_wp2_with (first
              | (at_builtin; refine wpList_append_lies _ rfl _ _ _ rfl (w.heap.size + 1) 58 i0 _ 3 32 Yba.underlying43 hi0 hz0 hz1 hz2 rfl (by omega) (.slice (some ⟨g, 0, none⟩) k cp) k (linkCells S D A' k) rfl ((HOW.out.alloc _).alloc _) ⟨wr.heap.size + 1, 0, none⟩ 1 1 [.int .u64 (S k), .int .u8 (D k), .string a'] rfl rfl (blk3 wr _ _ _) (by simp [Value.oneCell']) (by omega) (by unfold maxLen; omega) (by omega) (by simp; omega) (wr.heap.size + 2) (by simp) ?_; intro gg cap' w2 hown2 hgrow hat hlt2; obtain ⟨hB2, f0, f1⟩ := HF.out _ hgrow; have HB2 : Hid (Below (w.heap.size + 1) W0 w2) := hB2; have HO2 := hown2; clear hB2 hgrow hat hlt2)
              | (go_at_call 12; refine (bin_any (S k) ps (D k) hsk hps hdk _).mono ?_; rintro e w3 ⟨rfl, rfl⟩; rw [hin]))
            go_roundw
            case rel => exact ⟨k + 1, gg, cap', by omega, by go_num, rfl, by rw [hhit.out]; simp [hin, hdp], by rw [hcells.out]; exact HO2, HB2.out⟩
            case measure => simp [intOf]; omega
        · have hdp' : ¬ (D k : Int) < (pd : Int) := by omega
          go_wp2_with (first
            | (at_builtin; refine wpList_append_lies _ rfl _ _ _ rfl (w.heap.size + 1) 58 i0 _ 3 32 Yba.underlying43 hi0 hz0 hz1 hz2 rfl (by omega) (.slice (some ⟨g, 0, none⟩) k cp) k (linkCells S D A' k) rfl ((HOW.out.alloc _).alloc _) ⟨wr.heap.size + 1, 0, none⟩ 1 1 [.int .u64 (S k), .int .u8 (D k), .string a'] rfl rfl (blk3 wr _ _ _) (by simp [Value.oneCell']) (by omega) (by unfold maxLen; omega) (by omega) (by simp; omega) (wr.heap.size + 2) (by simp) ?_; intro gg cap' w2 hown2 hgrow hat hlt2; obtain ⟨hB2, f0, f1⟩ := HF.out _ hgrow; have HB2 : Hid (Below (w.heap.size + 1) W0 w2) := hB2; have HO2 := hown2; clear hB2 hgrow hat hlt2)
            | (go_at_call 12; refine (bin_any (S k) ps (D k) hsk hps hdk _).mono ?_; rintro e w3 ⟨rfl, rfl⟩; skip))
          go_roundw
          case rel => exact ⟨k + 1, gg, cap', by omega, by go_num, rfl, by rw [hhit.out]; simp [hdp], by rw [hcells.out]; exact HO2, HB2.out⟩
          case measure => simp [intOf]; omega
      · rw [hO] at HF
        cases he : ((A k).toList == addr.toList)
        · go_wp2_with (first
            | (at_builtin; refine wpList_append_lies _ rfl _ _ _ rfl (w.heap.size + 1) 58 i0 _ 3 32 Yba.underlying43 hi0 hz0 hz1 hz2 rfl (by omega) (.slice (some ⟨g, 0, none⟩) k cp) k (linkCells S D A' k) rfl ((HOW.out.alloc _).alloc _) ⟨wr.heap.size + 1, 0, none⟩ 1 1 [.int .u64 (S k), .int .u8 (D k), .string (A k)] rfl rfl (blk3 wr _ _ _) (by simp [Value.oneCell']) (by omega) (by unfold maxLen; omega) (by omega) (by simp; omega) (wr.heap.size + 2) (by simp) ?_; intro gg cap' w2 hown2 hgrow hat hlt2; obtain ⟨hB2, f0, f1⟩ := HF.out _ hgrow; have HB2 : Hid (Below (w.heap.size + 1) W0 w2) := hB2; have HO2 := hown2; clear hB2 hgrow hat hlt2)
            | (go_at_call 12; refine (bin_any (S k) ps (D k) hsk hps hdk _).mono ?_; rintro e w3 ⟨rfl, rfl⟩; skip))
          go_roundw
          case rel => exact ⟨k + 1, gg, cap', by omega, by go_num, rfl, by rw [hhit.out]; simp [he], by rw [hcells.out]; exact HO2, HB2.out⟩
          case measure => simp [intOf]; omega
        · by_cases hdp : D k < pd
          · have hdp' : (D k : Int) < (pd : Int) := by omega
            cases hin : inB (S k) ps (D k)
            · go_wp2_with (first
                | (at_builtin; refine wpList_append_lies _ rfl _ _ _ rfl (w.heap.size + 1) 58 i0 _ 3 32 Yba.underlying43 hi0 hz0 hz1 hz2 rfl (by omega) (.slice (some ⟨g, 0, none⟩) k cp) k (linkCells S D A' k) rfl ((HOW.out.alloc _).alloc _) ⟨wr.heap.size + 1, 0, none⟩ 1 1 [.int .u64 (S k), .int .u8 (D k), .string (A k)] rfl rfl (blk3 wr _ _ _) (by simp [Value.oneCell']) (by omega) (by unfold maxLen; omega) (by omega) (by simp; omega) (wr.heap.size + 2) (by simp) ?_; intro gg cap' w2 hown2 hgrow hat hlt2; obtain ⟨hB2, f0, f1⟩ := HF.out _ hgrow; have HB2 : Hid (Below (w.heap.size + 1) W0 w2) := hB2; have HO2 := hown2; clear hB2 hgrow hat hlt2)
                | (go_at_call 12; refine (bin_any (S k) ps (D k) hsk hps hdk _).mono ?_; rintro e w3 ⟨rfl, rfl⟩; rw [hin]))
              go_roundw
              case rel => exact ⟨k + 1, gg, cap', by omega, by go_num, rfl, by rw [hhit.out]; simp [he, hin], by rw [hcells.out]; exact HO2, HB2.out⟩
              case measure => simp [intOf]; omega
            · go_wp2_with (first
                | (at_builtin; refine wpList_append_lies _ rfl _ _ _ rfl (w.heap.size + 1) 58 i0 _ 3 32 Yba.underlying43 hi0 hz0 hz1 hz2 rfl (by omega) (.slice (some ⟨g, 0, none⟩) k cp) k (linkCells S D A' k) rfl ((HOW.out.alloc _).alloc _) ⟨wr.heap.size + 1, 0, none⟩ 1 1 [.int .u64 (S k), .int .u8 (D k), .string (A k)] rfl rfl (blk3 wr _ _ _) (by simp [Value.oneCell']) (by omega) (by unfold maxLen; omega) (by omega) (by simp; omega) (wr.heap.size + 2) (by simp) ?_; intro gg cap' w2 hown2 hgrow hat hlt2; obtain ⟨hB2, f0, f1⟩ := HF.out _ hgrow; have HB2 : Hid (Below (w.heap.size + 1) W0 w2) := hB2; have HO2 := hown2; clear hB2 hgrow hat hlt2)
                | (go_at_call 12; refine (bin_any (S k) ps (D k) hsk hps hdk _).mono ?_; rintro e w3 ⟨rfl, rfl⟩; rw [hin]))
              go_roundw
              case rel => exact ⟨k + 1, gg, cap', by omega, by go_num, rfl, by rw [hhit.out]; simp [he, hin, hdp], by rw [hcells.out]; exact HO2, HB2.out⟩
              case measure => simp [intOf]; omega
          · have hdp' : ¬ (D k : Int) < (pd : Int) := by omega
            go_wp2_with (first
              | (at_builtin; refine wpList_append_lies _ rfl _ _ _ rfl (w.heap.size + 1) 58 i0 _ 3 32 Yba.underlying43 hi0 hz0 hz1 hz2 rfl (by omega) (.slice (some ⟨g, 0, none⟩) k cp) k (linkCells S D A' k) rfl ((HOW.out.alloc _).alloc _) ⟨wr.heap.size + 1, 0, none⟩ 1 1 [.int .u64 (S k), .int .u8 (D k), .string (A k)] rfl rfl (blk3 wr _ _ _) (by simp [Value.oneCell']) (by omega) (by unfold maxLen; omega) (by omega) (by simp; omega) (wr.heap.size + 2) (by simp) ?_; intro gg cap' w2 hown2 hgrow hat hlt2; obtain ⟨hB2, f0, f1⟩ := HF.out _ hgrow; have HB2 : Hid (Below (w.heap.size + 1) W0 w2) := hB2; have HO2 := hown2; clear hB2 hgrow hat hlt2)
              | (go_at_call 12; refine (bin_any (S k) ps (D k) hsk hps hdk _).mono ?_; rintro e w3 ⟨rfl, rfl⟩; skip))
            go_roundw
            case rel => exact ⟨k + 1, gg, cap', by omega, by go_num, rfl, by rw [hhit.out]; simp [he, hdp], by rw [hcells.out]; exact HO2, HB2.out⟩
            case measure => simp [intOf]; omega
    · obtain rfl : k = len := by omega
      have hblk : wr.heap[w.heap.size]? = some (.cells (ownerCells addr ps pd) 50 (0, 0)) := (hbel.block _ (by omega)).trans hP0.out
      have q1 : wr.cell? ⟨w.heap.size, 0, none⟩ = some (.string addr) := cell_of_row _ _ 0 _ _ _ hblk
      have q2 : wr.cell? ⟨w.heap.size, 11, none⟩ = some (.int .u64 ps) := cell_of_row _ _ 11 _ _ _ hblk
      have q3 : wr.cell? ⟨w.heap.size, 12, none⟩ = some (.int .u8 pd) := cell_of_row _ _ 12 _ _ _ hblk
      have hL : Hid (LinksIn wr g k S D A') := fun i hi => by
        rw [hown.cellAt _ (by omega), hown.cellAt _ (by omega), hown.cellAt _ (by omega)]
        exact linkCells_at S D A' k i hi
      have HBE : Hid (Below w.heap.size w wr) := hB0.out.trans (hbel.mono (by omega))
      have hszw : w.heap.size ≤ wr.heap.size := by omega
      clear hblk hown hbel
      go_wp2_with (go_at_call 13; refine (ahead_any w.heap.size g k cp addr ps pd S D A' (by omega) hps hS hD _ q1 q2 q3 hL).mono ?_; rintro e w2 ⟨rfl, hb2⟩)
      go_ret
      exact ⟨ret_bool' (by simp), HBE.out.trans (hb2.mono hszw)⟩
end Go.Proofs.Ybulkafho
