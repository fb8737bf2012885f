import Derived.Test.YbulkaficRem
namespace Go.Proofs.Ybulkafic
open Go.RowKit Go.Maps
set_option linter.unusedVariables false
attribute [local go_sem ↓] eql52 neq52
attribute [local go_sem ↓] Go.wp_at_zero Go.wp_at_succ

theorem SetIs.block {B : Nat} {W : World} {bs : Nat} {M : List It} {n : Nat} (h : SetIs B W bs M n) : ∃ cs, W.heap[bs]? = some (.cells cs 72 (0, 0)) := by
  obtain ⟨one, mp, hb, _⟩ := h
  exact ⟨_, hb⟩

theorem ModelIs.keep {B bs : Nat} {W W' : World} {ao : Option Addr} {cap : Nat} {L : List It} (h : ModelIs W B ao cap L) (hk : Keep bs W W') (hb : ∃ cs, W.heap[bs]? = some (.cells cs 72 (0, 0))) : ModelIs W' B ao cap L := by
  refine ⟨h.1, ?_⟩
  rcases h.2 with h0 | ⟨g, cp, cur, e, h1, h2, h3⟩
  · exact .inl h0
  · refine .inr ⟨g, cp, cur, e, h1, hk g _ h2 (by intro es c h; cases h) (fun e => ?_), h3⟩
    obtain ⟨cs, hcs⟩ := hb
    rw [e, hcs] at h2
    cases h2

theorem ModelIs.own {B : Nat} {W : World} {ao : Option Addr} {cap : Nat} {L : List It} (h : ModelIs W B ao cap L) : ∀ g, (Value.slice ao L.length cap).ownBlock = some g → B ≤ g ∧ ∃ cur, W.heap[g]? = some (.cells cur 52 (0, 0)) := by
  intro g hg
  rcases h.2 with ⟨h0, _⟩ | ⟨g', cp, cur, e, h1, h2, h3⟩
  · rw [h0] at hg; simp [Value.ownBlock] at hg
  · rw [e] at hg; simp [Value.ownBlock] at hg; subst hg; exact ⟨h1, cur, h2⟩

theorem SetIs.kept {B bs : Nat} {W W' : World} {M : List It} {n : Nat} {row : Option Nat} (h : SetIs B W bs M n) (hg : W.grownBy W' row) (hrow : ∀ g, row = some g → ∃ cur, W.heap[g]? = some (.cells cur 52 (0, 0))) : SetIs B W' bs M n := by
  obtain ⟨one, mp, hb, hBs, hG, hh⟩ := h
  refine ⟨one, mp, (hg.block bs (Array.getElem?_eq_some_iff.1 hb).1 (fun e => ?_)).trans hb, hBs, hG, ?_⟩
  · obtain ⟨cur, hc⟩ := hrow bs e.symm
    rw [hb] at hc; cases hc
  rcases hh with h | h | ⟨h2, h3, r, D, h4, h5, h6, h7⟩
  · exact .inl h
  · exact .inr (.inl h)
  · refine .inr (.inr ⟨h2, h3, r, D, h4, h5, h6.kept hg (fun e => ?_), h7⟩)
    obtain ⟨cur, hc⟩ := hrow r e.symm
    obtain ⟨es, c, hm, _⟩ := h6
    rw [hm] at hc; cases hc

theorem below_grown {W W' : World} (h : Below W.heap.size W W') (row : Option Nat) : W.grownBy W' row := ⟨h.os, h.tape, h.output, h.size, fun k hk _ => h.block k hk⟩

/-- The name that goes with a number. -/
def nameOf (n : Int) : ByteArray :=
  if n % 5 = 0 then { data := #[] } else if n % 5 = 1 then { data := #[97] } else if n % 5 = 2 then { data := #[98] } else if n % 5 = 3 then { data := #[99] } else { data := #[100] }

theorem nameOf_size (n : Int) : (nameOf n).size ≤ maxLen := by
  have h1 : ∀ a : UInt8, (ByteArray.mk #[a]).size ≤ maxLen := fun a => by show 1 ≤ maxLen; decide
  have h0 : (ByteArray.mk #[]).size ≤ maxLen := by show 0 ≤ maxLen; decide
  unfold nameOf
  split
  · exact h0
  · split
    · exact h1 _
    · split
      · exact h1 _
      · split
        · exact h1 _
        · exact h1 _

theorem name_any (n : Int) (hn : 0 ≤ n ∧ n < 256) (W : World) : Calls Yba.prog 27 #[.int .u8 n] W fun e W' => e = .returned (.string (nameOf n)) ∧ W' = W := by
  unfold nameOf
  rcases (show n % 5 = 0 ∨ n % 5 = 1 ∨ n % 5 = 2 ∨ n % 5 = 3 ∨ n % 5 = 4 by omega) with h | h | h | h | h
  all_goals
    obtain ⟨ha, hb⟩ := hn
    rw [h]
    go_enter Yba.func27, Yba.ntmps27
    go_wp2
    go_ret
    exact ⟨rfl, rfl⟩

/-- The input: rows of three cells. -/
def OpsAt (w : World) (ao : Option Addr) (len : Nat) (O : Nat → Int) (K : Nat → Bool) (N : Nat → Int) : Prop :=
  ∀ i, i < len → ∃ b off, ao = some ⟨b, off, none⟩ ∧ w.cell? ⟨b, off + i * 3, none⟩ = some (.int .u8 (O i)) ∧ w.cell? ⟨b, off + i * 3 + 1, none⟩ = some (.bool (K i)) ∧ w.cell? ⟨b, off + i * 3 + 2, none⟩ = some (.int .u8 (N i)) ∧
    (0 ≤ O i ∧ O i < 256) ∧ (0 ≤ N i ∧ N i < 256)

theorem zero72 (w : World) : (zeroValue 72).run Yba.prog w = .ok (.agg #[.bool false, .string { data := #[] }, .map none]) w := by kernel_rfl

set_option maxRecDepth 100000 in
set_option maxHeartbeats 3200000 in
theorem build_any (ao : Option Addr) (len cap : Nat) (O : Nat → Int) (K : Nat → Bool) (N : Nat → Int) (w : World) (hlen : len ≤ 1024) (hc : Hid (OpsAt w ao len O K N)) :
    Calls Yba.prog 10 #[.slice ao len cap] w fun e w' => ∃ (M : List It) (ao' : Option Addr) (cap' : Nat), e = .returned (.tuple #[.pointer (some ⟨w.heap.size, 0, none⟩), .slice ao' M.length cap']) ∧
      M.length ≤ 1024 ∧ SetIs w.heap.size w' w.heap.size M 2048 ∧ ModelIs w' w.heap.size ao' cap' M ∧ Below w.heap.size w w' := by
  obtain ⟨i0, hi0, hz0, hz1, hz2⟩ := info_parts info52
  go_enter Yba.func10, Yba.ntmps10
  go_wp2
  go_loopw [5, 6] (fun v i wr => ∃ (k : Nat) (M : List It) (ao' : Option Addr) (cap' : Nat), k ≤ len ∧ i = .int .i64 k ∧ v = .slice ao' M.length cap' ∧ M.length ≤ k ∧ SetIs w.heap.size wr w.heap.size M (2 * k) ∧ ModelIs wr w.heap.size ao' cap' M ∧ Below w.heap.size w wr ∧ w.heap.size < wr.heap.size)
    (fun _ i _ => len - (intOf i).toNat)
  case atStart => exact ⟨0, [], none, 0, Nat.zero_le _, rfl, rfl, Nat.le_refl _, ⟨zE, none, heap_alloc_new w _, Nat.le_refl _, ⟨by simp, by simp, by simp⟩, .inl ⟨rfl, rfl, rfl⟩⟩, World.ownsRow_nil _ _ _ _, (Below.refl _ _).alloc (Nat.le_refl _) _, by simp⟩
  case round =>
    obtain ⟨k, M, ao', cap', hk, rfl, rfl, hMk, hset, hmod, hbel, hsz⟩ := hrel
    have HS : Hid (SetIs w.heap.size wr w.heap.size M (2 * k)) := hset
    have HM : Hid (ModelIs wr w.heap.size ao' cap' M) := hmod
    have HB : Hid (Below w.heap.size w wr) := hbel
    clear hset hmod hbel
    by_cases hlt : k < len
    · obtain ⟨b, off, rfl, c0, c1, c2, hO, hN⟩ := hc.out k hlt
      have lb : b < w.heap.size := World.block_lt_of_cell? w _ c0
      have c0' := (HB.out.cell (p := ⟨b, off + k * 3, none⟩) lb).trans c0
      have c1' := (HB.out.cell (p := ⟨b, off + k * 3 + 1, none⟩) lb).trans c1
      have c2' := (HB.out.cell (p := ⟨b, off + k * 3 + 2, none⟩) lb).trans c2
      clear c0 c1 c2
      generalize O k = o at c0' hO
      generalize K k = kk at c1'
      generalize N k = nn at c2' hN
      have hk0 : (0 : Int) ≤ (k : Int) := Int.natCast_nonneg _
      have hk1 : (k : Int) < (len : Int) := by omega
      obtain ⟨V, hV⟩ : ∃ V, V = ((wr.alloc (.cells #[.int .u8 o, .bool kk, .int .u8 nn] 74)).alloc (.cells #[.bool kk, .string (nameOf nn)] 52)).drew := ⟨_, rfl⟩
      have gV : wr.grownBy V none := by rw [hV]; exact (World.grownBy_alloc wr _ none).trans (grown_box _ _ none)
      have VS : Hid (SetIs w.heap.size V w.heap.size M (2 * k)) := HS.out.kept gV (fun g e => by cases e)
      have VM : Hid (ModelIs V w.heap.size ao' cap' M) := World.ownsRow.kept HM.out gV (by rcases h : (Value.slice ao' M.length cap').ownBlock with _ | q <;> simp)
      have VB : Hid (Below w.heap.size w V) := HB.out.grown gV (by omega) (fun k e => by cases e)
      have b7 : V.heap[wr.heap.size]? = some (.cells #[.int .u8 o, .bool kk, .int .u8 nn] 74 (0, 0)) := by
        rw [hV]; exact (Below.heap_alloc _ _ _ (by simp)).trans (heap_alloc_new wr _)
      have b8 : V.heap[wr.heap.size + 1]? = some (.cells #[.bool kk, .string (nameOf nn)] 52 (0, 0)) := by
        rw [hV]; have := heap_alloc_new (wr.alloc (.cells #[.int .u8 o, .bool kk, .int .u8 nn] 74)) (.cells #[.bool kk, .string (nameOf nn)] 52); rw [show (wr.alloc (.cells #[.int .u8 o, .bool kk, .int .u8 nn] 74)).heap.size = wr.heap.size + 1 by simp] at this; exact this
      have d0 : V.cell? ⟨wr.heap.size, 0, none⟩ = some (.int .u8 o) := cell_of_row _ _ 0 _ _ _ b7
      have d1 : V.cell? ⟨wr.heap.size + 1, 0, none⟩ = some (.bool kk) := cell_of_row _ _ 0 _ _ _ b8
      have d2 : V.cell? ⟨wr.heap.size + 1, 1, none⟩ = some (.string (nameOf nn)) := cell_of_row _ _ 1 _ _ _ b8
      have B8 : Hid (V.heap[wr.heap.size + 1]? = some (.cells #[.bool kk, .string (nameOf nn)] 52 (0, 0))) := b8
      have hVz : w.heap.size < V.heap.size := by have := gV.size; omega
      clear b7 b8 gV
      obtain ⟨ha, hb⟩ := hO
      go_wp2_with fail
      go_region_held3 (fun w' => w'.cell? ⟨wr.heap.size, 0, none⟩ = some (.int .u8 o) ∧ w'.cell? ⟨wr.heap.size, 1, none⟩ = some (.bool kk) ∧ w'.cell? ⟨wr.heap.size, 2, none⟩ = some (.int .u8 nn)) (go_keep) ((go_at_call 27; refine (name_any _ hN _).mono ?_; rintro e w' ⟨rfl, rfl⟩))
      all_goals
        rw [← hV]
        clear hV
        obtain ⟨sn, hsn⟩ : ∃ sn, sn = nameOf nn := ⟨_, rfl⟩
        have hss : sn.size ≤ maxLen := by rw [hsn]; exact nameOf_size nn
        rw [← hsn] at B8 d2 ⊢
        clear hsn
        have hne8 : wr.heap.size + 1 ≠ w.heap.size := by omega
        have hM1 : M.length ≤ 100000 := by omega
        have Fend : Hid (∀ W' (M' : List It) (ao2 : Option Addr) (cap2 : Nat), M'.length ≤ k + 1 → SetIs w.heap.size W' w.heap.size M' (2 * k + 2) → ModelIs W' w.heap.size ao2 cap2 M' → Below w.heap.size w W' → ∃ (k_1 : Nat) (M_1 : List It) (ao'_1 : Option Addr) (cap'_1 : Nat),
            k_1 ≤ len ∧ Value.int IntKind.i64 ((k : Int) + 1) = Value.int IntKind.i64 k_1 ∧ Value.slice ao2 M'.length cap2 = Value.slice ao'_1 M_1.length cap'_1 ∧ M_1.length ≤ k_1 ∧ SetIs w.heap.size W' w.heap.size M_1 (2 * k_1) ∧ ModelIs W' w.heap.size ao'_1 cap'_1 M_1 ∧ Below w.heap.size w W' ∧ w.heap.size < W'.heap.size) := fun W' M' ao2 cap2 f1 f2 f3 f4 => by
          refine ⟨k + 1, M', ao2, cap2, by omega, by simp, rfl, f1, f2.mono (by omega), f3, f4, ?_⟩
          obtain ⟨cs, hcs⟩ := f2.block
          exact (Array.getElem?_eq_some_iff.1 hcs).1
        have hmeas : len - (intOf (.int .i64 ((k : Int) + 1))).toNat < len - (intOf (.int .i64 (k : Int))).toNat := by simp [intOf]; omega
        rcases (show o % 2 = 0 ∨ o % 2 = 1 by omega) with h2 | h2
        · cases hz : eqI (kk, sn) (false, { data := #[] })
          · have hx : Hid ((kk, sn) ≠ zE) := (eqI_false _ _).1 hz
            cases hmem : memB M (kk, sn)
            · have HA : Hid (addI M (kk, sn) = M ++ [(kk, sn)]) := by show addI _ _ = _; unfold addI; rw [hmem]; rfl
              go_wp2_with (first
                | (go_at_call 28; refine (add_any w.heap.size w.heap.size (2 * k) M (kk, sn) hx.out hss V VS.out (by omega)).mono ?_; rintro e W2 ⟨rfl, s2, l2, k2⟩; (have S2 : Hid (SetIs w.heap.size W2 w.heap.size (addI M (kk, sn)) (2 * k + 2)) := s2); (have L2 : Hid (Below w.heap.size w W2) := VB.out.trans l2); (have M2 : Hid (ModelIs W2 w.heap.size ao' cap' M) := VM.out.keep k2 VS.out.block); (have B2 : Hid (W2.heap[wr.heap.size + 1]? = some (.cells #[.bool kk, .string sn] 52 (0, 0))) := k2 _ _ B8.out (by intro es c h; cases h) hne8); (have e1 : W2.cell? ⟨wr.heap.size + 1, 0, none⟩ = some (.bool kk) := cell_of_row _ _ 0 _ _ _ B2.out); (have e2 : W2.cell? ⟨wr.heap.size + 1, 1, none⟩ = some (.string sn) := cell_of_row _ _ 1 _ _ _ B2.out); clear s2 l2 k2)
                | (go_at_call 13; refine (in_any ao' M cap' kk sn hM1 W2 M2.out.row).mono ?_; rintro e W3 ⟨rfl, l3⟩; (have G3 : Hid (W2.grownBy W3 none) := below_grown l3 none); (have B3 : Hid (W3.heap[wr.heap.size + 1]? = some (.cells #[.bool kk, .string sn] 52 (0, 0))) := (G3.out.block _ (Array.getElem?_eq_some_iff.1 B2.out).1 (by simp)).trans B2.out); (have z1 : W3.cell? ⟨wr.heap.size + 1, 0, none⟩ = some (.bool kk) := cell_of_row _ _ 0 _ _ _ B3.out); (have z2 : W3.cell? ⟨wr.heap.size + 1, 1, none⟩ = some (.string sn) := cell_of_row _ _ 1 _ _ _ B3.out); (have S3 : Hid (SetIs w.heap.size W3 w.heap.size (addI M (kk, sn)) (2 * k + 2)) := S2.out.kept G3.out (fun g e => by cases e)); (have M3 : Hid (ModelIs W3 w.heap.size ao' cap' M) := World.ownsRow.kept M2.out G3.out (by rcases h : (Value.slice ao' M.length cap').ownBlock with _ | q <;> simp)); (have L3 : Hid (Below w.heap.size w W3) := L2.out.grown G3.out L2.out.size (fun k e => by cases e)); (have z3 : w.heap.size ≤ W3.heap.size := L3.out.size); clear l3)
                | (at_builtin; refine wpList_append_own _ rfl _ _ 45 rfl w.heap.size 52 i0 _ 2 24 Yba.underlying45 hi0 hz0 hz1 hz2 rfl (by decide) (.slice ao' M.length cap') M.length (itemCells M) rfl (World.ownsRow.alloc M3.out _) ⟨W3.heap.size, 0, none⟩ 1 1 [.bool kk, .string sn] rfl rfl (World.news_of_block (t := 52) (fr := (0, 0)) (heap_alloc_new W3 _)) (by simp [Value.oneCell']) (by unfold maxLen; omega) (by omega) (by simp; omega) ?_; intro v' W4 hown4 hgr4 _))
              have G4 : Hid ((W3.alloc (.cells #[.bool kk, .string sn] 52)).grownBy W4 (Value.slice ao' M.length cap').ownBlock) := hgr4
              have hA := HA.out
              have HO4 : W4.ownsRow w.heap.size 52 2 v' (addI M (kk, sn)).length (itemCells (addI M (kk, sn))) := by
                rw [hA, itemCells_snoc, List.length_append]
                exact hown4
              obtain ⟨ao2, cap2, hv2, hm2⟩ := model_of HO4
              have M4 : Hid (ModelIs W4 w.heap.size ao2 cap2 (addI M (kk, sn))) := hm2
              have own3 := ModelIs.own (World.ownsRow.alloc M3.out (.cells #[.bool kk, .string sn] 52))
              have S4 : Hid (SetIs w.heap.size W4 w.heap.size (addI M (kk, sn)) (2 * k + 2)) := (S3.out.kept (World.grownBy_alloc W3 (.cells #[.bool kk, .string sn] 52) none) (fun g e => by cases e)).kept hgr4 (fun g e => (own3 g e).2)
              have L4 : Hid (Below w.heap.size w W4) := (L3.out.alloc L3.out.size _).grown hgr4 (by have := L3.out.size; simp; omega) (fun g e => (own3 g e).1)
              have hle : Hid ((addI M (kk, sn)).length ≤ k + 1) := by show _ ≤ _; rw [hA]; simp; omega
              rw [hv2]
              clear hv2 hm2 hown4 hgr4 HO4 own3 hA
              go_wp2
              exact ⟨Fend.out _ _ _ _ hle.out S4.out M4.out L4.out, hmeas⟩
            · have HA : Hid (addI M (kk, sn) = M) := by show addI _ _ = _; unfold addI; rw [hmem]; rfl
              go_wp2_with (first
                | (go_at_call 28; refine (add_any w.heap.size w.heap.size (2 * k) M (kk, sn) hx.out hss V VS.out (by omega)).mono ?_; rintro e W2 ⟨rfl, s2, l2, k2⟩; (have S2 : Hid (SetIs w.heap.size W2 w.heap.size (addI M (kk, sn)) (2 * k + 2)) := s2); (have L2 : Hid (Below w.heap.size w W2) := VB.out.trans l2); (have M2 : Hid (ModelIs W2 w.heap.size ao' cap' M) := VM.out.keep k2 VS.out.block); (have B2 : Hid (W2.heap[wr.heap.size + 1]? = some (.cells #[.bool kk, .string sn] 52 (0, 0))) := k2 _ _ B8.out (by intro es c h; cases h) hne8); (have e1 : W2.cell? ⟨wr.heap.size + 1, 0, none⟩ = some (.bool kk) := cell_of_row _ _ 0 _ _ _ B2.out); (have e2 : W2.cell? ⟨wr.heap.size + 1, 1, none⟩ = some (.string sn) := cell_of_row _ _ 1 _ _ _ B2.out); clear s2 l2 k2)
                | (go_at_call 13; refine (in_any ao' M cap' kk sn hM1 W2 M2.out.row).mono ?_; rintro e W3 ⟨rfl, l3⟩; (have G3 : Hid (W2.grownBy W3 none) := below_grown l3 none); (have B3 : Hid (W3.heap[wr.heap.size + 1]? = some (.cells #[.bool kk, .string sn] 52 (0, 0))) := (G3.out.block _ (Array.getElem?_eq_some_iff.1 B2.out).1 (by simp)).trans B2.out); (have z1 : W3.cell? ⟨wr.heap.size + 1, 0, none⟩ = some (.bool kk) := cell_of_row _ _ 0 _ _ _ B3.out); (have z2 : W3.cell? ⟨wr.heap.size + 1, 1, none⟩ = some (.string sn) := cell_of_row _ _ 1 _ _ _ B3.out); (have S3 : Hid (SetIs w.heap.size W3 w.heap.size (addI M (kk, sn)) (2 * k + 2)) := S2.out.kept G3.out (fun g e => by cases e)); (have M3 : Hid (ModelIs W3 w.heap.size ao' cap' M) := World.ownsRow.kept M2.out G3.out (by rcases h : (Value.slice ao' M.length cap').ownBlock with _ | q <;> simp)); (have L3 : Hid (Below w.heap.size w W3) := L2.out.grown G3.out L2.out.size (fun k e => by cases e)); (have z3 : w.heap.size ≤ W3.heap.size := L3.out.size); clear l3))
              have S4 : SetIs w.heap.size W3 w.heap.size M (2 * k + 2) := by have h := S3.out; rw [HA.out] at h; exact h
              exact ⟨Fend.out _ _ _ _ (by omega) S4 M3.out L3.out, hmeas⟩
          · go_wp2_with fail
            exact ⟨Fend.out _ _ _ _ (by omega) (VS.out.mono (by omega)) VM.out VB.out, hmeas⟩
        · go_wp2_with (first
            | (go_at_call 14; refine (remove_any w.heap.size w.heap.size (2 * k) M (kk, sn) hss V VS.out).mono ?_; rintro e W2 ⟨rfl, s2, l2, k2⟩; (have S2 : Hid (SetIs w.heap.size W2 w.heap.size (dropI M (kk, sn)) (2 * k)) := s2); (have L2 : Hid (Below w.heap.size w W2) := VB.out.trans l2); (have M2 : Hid (ModelIs W2 w.heap.size ao' cap' M) := VM.out.keep k2 VS.out.block); (have B2 : Hid (W2.heap[wr.heap.size + 1]? = some (.cells #[.bool kk, .string sn] 52 (0, 0))) := k2 _ _ B8.out (by intro es c h; cases h) hne8); (have e1 : W2.cell? ⟨wr.heap.size + 1, 0, none⟩ = some (.bool kk) := cell_of_row _ _ 0 _ _ _ B2.out); (have e2 : W2.cell? ⟨wr.heap.size + 1, 1, none⟩ = some (.string sn) := cell_of_row _ _ 1 _ _ _ B2.out); clear s2 l2 k2)
            | (go_at_call 29; refine (drop_any ao' M cap' kk sn hM1 W2 M2.out.row).mono ?_; rintro e W3 ⟨ao3, cap3, rfl, m3, l3⟩; (have G3 : Hid (W2.grownBy W3 none) := below_grown l3 none); (have S3 : Hid (SetIs w.heap.size W3 w.heap.size (dropI M (kk, sn)) (2 * k)) := S2.out.kept G3.out (fun g e => by cases e)); (have M3 : Hid (ModelIs W3 w.heap.size ao3 cap3 (dropI M (kk, sn))) := m3.base_le L2.out.size); (have L3 : Hid (Below w.heap.size w W3) := L2.out.grown G3.out L2.out.size (fun k e => by cases e)); clear l3 m3))
          exact ⟨Fend.out _ _ _ _ (by have := dropI_le M (kk, sn); omega) (S3.out.mono (by omega)) M3.out L3.out, hmeas⟩
    · obtain rfl : k = len := by omega
      go_wp2
      refine bodyPost_ret (results_tmp2 rfl _ _ _) rfl ?_
      exact ⟨M, ao', cap', rfl, by omega, HS.out.mono (by omega), HM.out, HB.out⟩
end Go.Proofs.Ybulkafic
