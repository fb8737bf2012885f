import Derived.Test.YbulkafhoALinks
namespace Go.Proofs.Ybulkafho
open Go.RowKit
set_option linter.unusedVariables false

theorem aexpect_open (x : Int) (pa c0 c1 : ByteArray) (w : World) :
    Calls Yba.prog 9 #[.int .u64 x, .string pa, .string c0, .string c1] w fun e w' => ∃ (l0 l1 l2 : Int) (a0 a1 a2 : ByteArray) (n : Nat), e = .returned (.tuple #[.agg #[.int .u64 l0, .string a0, .int .u64 l1, .string a1, .int .u64 l2, .string a2], .int .i64 n]) ∧
      Hid (pad (expect x pa c0 c1) = #[.int .u64 l0, .string a0, .int .u64 l1, .string a1, .int .u64 l2, .string a2] ∧ n = (expect x pa c0 c1).length) ∧ n ≤ 3 ∧ Below w.heap.size w w' :=
  (aexpect_any x pa c0 c1 w).mono fun e w' ⟨he, hb⟩ => ⟨_, _, _, _, _, _, _, he, ⟨rfl, rfl⟩, expect_le x pa c0 c1, hb⟩

/-- The world in which the sequence is called. -/
def atCall (w1 : World) (bP : Nat) (l0 l1 l2 : Int) (a0 a1 a2 : ByteArray) (n : Nat) : World :=
  ((((w1.alloc (Obj.cells #[Value.int IntKind.u64 l0, Value.string a0, Value.int IntKind.u64 l1, Value.string a1, Value.int IntKind.u64 l2, Value.string a2] 30)).alloc (Obj.cells #[Value.int IntKind.i64 (n : Int)] 3)).alloc
    (Obj.cells #[Value.int IntKind.i64 0] 3)).alloc (Obj.cells #[Value.bool true] 4)).alloc (Obj.cells #[Value.pointer (some { block := bP, off := 0 })] 23)

theorem atCall_grown (w1 : World) (bP : Nat) (l0 l1 l2 : Int) (a0 a1 a2 : ByteArray) (n : Nat) : w1.grownBy (atCall w1 bP l0 l1 l2 a0 a1 a2 n) none :=
  ((((World.grownBy_alloc _ _ _).trans (World.grownBy_alloc _ _ _)).trans (World.grownBy_alloc _ _ _)).trans (World.grownBy_alloc _ _ _)).trans (World.grownBy_alloc _ _ _)

theorem laid {cs : Array Value} {t B : Nat} (w : World) (hB : w.heap.size = B) (i : Nat) (v : Value) (h : cs[i]? = some v) : (w.alloc (.cells cs t)).cell? ⟨B, i, none⟩ = some v := by
  subst hB
  exact (cell_of_row _ _ i _ _ _ (heap_alloc_new w _)).trans h
theorem kept {w : World} {o : Obj} {a : Addr} {v : Value} (h : w.cell? a = some v) : (w.alloc o).cell? a = some v := (World.grownBy_alloc w o none).cell h (by simp)

theorem atCall_cells (w1 : World) (bP : Nat) (l0 l1 l2 : Int) (a0 a1 a2 : ByteArray) (n : Nat) :
    (∀ i v, (#[Value.int IntKind.u64 l0, Value.string a0, Value.int IntKind.u64 l1, Value.string a1, Value.int IntKind.u64 l2, Value.string a2])[i]? = some v → (atCall w1 bP l0 l1 l2 a0 a1 a2 n).cell? ⟨w1.heap.size, i, none⟩ = some v) ∧
    (atCall w1 bP l0 l1 l2 a0 a1 a2 n).cell? ⟨w1.heap.size + 1, 0, none⟩ = some (.int .i64 n) ∧
    (atCall w1 bP l0 l1 l2 a0 a1 a2 n).cell? ⟨w1.heap.size + 1 + 1, 0, none⟩ = some (.int .i64 0) ∧
    (atCall w1 bP l0 l1 l2 a0 a1 a2 n).cell? ⟨w1.heap.size + 1 + 1 + 1, 0, none⟩ = some (.bool true) ∧
    (atCall w1 bP l0 l1 l2 a0 a1 a2 n).cell? ⟨w1.heap.size + 1 + 1 + 1 + 1, 0, none⟩ = some (.pointer (some ⟨bP, 0, none⟩)) ∧
    (atCall w1 bP l0 l1 l2 a0 a1 a2 n).frozen? ⟨w1.heap.size + 1 + 1, 0, none⟩ = false ∧ (atCall w1 bP l0 l1 l2 a0 a1 a2 n).heap.size = w1.heap.size + 5 := by
  unfold atCall
  refine ⟨fun i v h => kept (kept (kept (kept (laid _ rfl i v h)))), kept (kept (kept (laid _ (by simp) 0 _ rfl))), kept (kept (laid _ (by simp) 0 _ rfl)), kept (laid _ (by simp) 0 _ rfl), laid _ (by simp) 0 _ rfl, ?_, by simp⟩
  have hb := Boxed.new ((w1.alloc (Obj.cells #[Value.int IntKind.u64 l0, Value.string a0, Value.int IntKind.u64 l1, Value.string a1, Value.int IntKind.u64 l2, Value.string a2] 30)).alloc (Obj.cells #[Value.int IntKind.i64 (n : Int)] 3)) 3 (.int .i64 0)
  rw [World.size_alloc, World.size_alloc] at hb
  exact ((hb.alloc _).alloc _).frozen

set_option maxHeartbeats 1600000 in
theorem astops_walk (x : Int) (pa c0 c1 : ByteArray) (m : Nat) (hm : m ≤ 255) (w : World) :
    Calls Yba.prog 4 #[.int .u64 x, .string pa, .string c0, .string c1, .int .u8 m] w fun e w' => e = .returned (.bool true) ∧ Below w.heap.size w w' := by
  have h0 : (0 : Int) ≤ m := Int.natCast_nonneg _
  have h1 : (m : Int) ≤ 255 := by omega
  go_enter Yba.func4, Yba.ntmps4
  go_wp2_with (first
    | (go_at_call 8; refine (apeer_any x pa c0 c1 _).mono ?_; rintro e w' ⟨rfl, rfl⟩)
    | (go_at_call 9; refine (aexpect_open x pa c0 c1 _).mono ?_; rintro e w1 ⟨l0, l1, l2, a0, a1, a2, n, rfl, HN, hn3, hb1⟩; have HB1 : Hid (Below _ _ _) := hb1; clear hb1)
    | (go_at_call 10; refine (treeLinks_any _ _ rfl _).mono ?_; rintro e w' ⟨rfl, rfl⟩))
  have hb1 := HB1.out
  have hsz := hb1.size
  simp only [World.size_alloc] at hsz
  have q0 : w1.cell? ⟨w.heap.size, 0, none⟩ = some (.int .i64 ((1 + m % 3 : Nat) : Int)) := by rw [hb1.cell (by simp; omega)]; simp
  have q3 : w1.cell? ⟨w.heap.size + 1, 3, none⟩ = some (.int .u64 x) := by rw [hb1.cell (by simp)]; simp [peerCells]
  have q8 : w1.cell? ⟨w.heap.size + 1, 8, none⟩ = some (.string pa) := by rw [hb1.cell (by simp)]; simp [peerCells]
  have q9 : w1.cell? ⟨w.heap.size + 1, 9, none⟩ = some (.string c0) := by rw [hb1.cell (by simp)]; simp [peerCells]
  have q10 : w1.cell? ⟨w.heap.size + 1, 10, none⟩ = some (.string c1) := by rw [hb1.cell (by simp)]; simp [peerCells]
  have hbw : Below w.heap.size w w1 := (((Below.refl _ w).alloc (Nat.le_refl _) _).alloc (by simp) _).trans (hb1.mono (by simp; omega))
  obtain ⟨f1, f2, f3, f4, f5, f6, f7⟩ := atCall_cells w1 (w.heap.size + 1) l0 l1 l2 a0 a1 a2 n
  have hgV := atCall_grown w1 (w.heap.size + 1) l0 l1 l2 a0 a1 a2 n
  change Calls Yba.prog 17 _ (atCall w1 (w.heap.size + 1) l0 l1 l2 a0 a1 a2 n) _
  generalize atCall w1 (w.heap.size + 1) l0 l1 l2 a0 a1 a2 n = V at f1 f2 f3 f4 f5 f6 f7 hgV ⊢
  have hbV : Below w.heap.size w V := hbw.grown hgV (by omega) (fun k e => by cases e)
  have hP : PeerAt V (w1.heap.size + 1 + 1 + 1 + 1) (w.heap.size + 1) x pa c0 c1 := ⟨f5, hgV.cell q3 (by simp), hgV.cell q8 (by simp), hgV.cell q9 (by simp), hgV.cell q10 (by simp)⟩
  have hS := hgV.cell q0 (by simp)
  obtain ⟨hpad, hnn⟩ := HN.out
  refine (links_plain (w1.heap.size + 1 + 1 + 1 + 1) (w.heap.size + 1) (w1.heap.size + 1 + 1) (1 + m % 3) x pa c0 c1 _ (by omega) (by omega)
    (fun c W' => V.grownBy W' (some (w1.heap.size + 1 + 1)) ∧ W'.cell? ⟨w1.heap.size + 1 + 1, 0, none⟩ = some (.int .i64 c) ∧ W'.frozen? ⟨w1.heap.size + 1 + 1, 0, none⟩ = false)
    (fun c W1 W2 h hg => ⟨h.1.trans (grown_some hg _), hg.cell h.2.1 (by simp), (World.frozen?_of_block (hg.block _ (World.block_lt_of_cell? W1 _ h.2.1) (by simp))).trans h.2.2⟩)
    (fun c W1 h hc => ?hy) (by omega) V (by omega) hP ⟨World.grownBy.refl _ _, f3, f6⟩).mono ?_
  case hy =>
    obtain ⟨hg, hcc, hfc⟩ := h
    refine (stop1 (w1.heap.size + 1 + 1) (w1.heap.size + 1) (w1.heap.size + 1 + 1 + 1) w1.heap.size w.heap.size (1 + m % 3) c (expect x pa c0 c1) W1 hcc hfc (by rw [← hnn]; exact hg.cell f2 (by simp))
      (fun i v hv => by rw [hpad] at hv; exact hg.cell (f1 i v hv) (by simp; omega)) (hg.cell hS (by simp; omega)) hc (by omega) (by omega) (by omega) (by omega)).mono ?_
    rintro e W2 ⟨rfl, hg2, hc2, hf2⟩
    exact ⟨rfl, hg2, hg.trans hg2, hc2, hf2⟩
  rintro e W2 ⟨rfl, _, hg, hcc, hfc⟩
  rw [← hnn] at hcc
  have g1 := hg.cell hS (by simp; omega)
  have g2 := hg.cell f2 (by simp)
  have g4 := hg.cell f4 (by simp)
  have HBf : Hid (Below w.heap.size w W2) := hbV.grown hg (by omega) (fun k e => by cases e; omega)
  clear hg hfc hP hS hbV hgV hbw q0 q3 q8 q9 q10 hb1 hpad f1 f2 f3 f4 f5 f6 f7 HB1 HN
  by_cases hlt : 1 + m % 3 < n
  · have e1 : min (1 + m % 3) n = 1 + m % 3 := by omega
    rw [e1] at hcc
    have hlt' : ((1 + m % 3 : Nat) : Int) < (n : Int) := by omega
    clear e1 hnn
    go_wp2
    go_ret
    exact ⟨rfl, HBf.out⟩
  · have e1 : min (1 + m % 3) n = n := by omega
    rw [e1] at hcc
    have hlt' : ¬ ((1 + m % 3 : Nat) : Int) < (n : Int) := by omega
    clear e1 hnn
    go_wp2
    go_ret
    exact ⟨rfl, HBf.out⟩
end Go.Proofs.Ybulkafho
