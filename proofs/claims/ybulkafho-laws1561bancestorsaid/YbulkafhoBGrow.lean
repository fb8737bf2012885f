import Derived.Test.YbulkafhoBAhead
namespace Go.Proofs.Ybulkafho
open Go.RowKit
set_option linter.unusedVariables false

def LinksIn (W : World) (g n : Nat) (S D : Nat → Nat) (A : Nat → ByteArray) : Prop :=
  ∀ i, i < n → W.cell? ⟨g, i * 3, none⟩ = some (.int .u64 (S i)) ∧ W.cell? ⟨g, i * 3 + 1, none⟩ = some (.int .u8 (D i)) ∧ W.cell? ⟨g, i * 3 + 2, none⟩ = some (.string (A i))

theorem LinksIn.below {W W' : World} {g n : Nat} {S D : Nat → Nat} {A : Nat → ByteArray} (h : LinksIn W g n S D A) (hb : Below W.heap.size W W') : LinksIn W' g n S D A := fun i hi => by
  obtain ⟨a, b, c⟩ := h i hi
  have l := World.block_lt_of_cell? W _ a
  exact ⟨(hb.cell (p := ⟨g, i * 3, none⟩) l).trans a, (hb.cell (p := ⟨g, i * 3 + 1, none⟩) l).trans b, (hb.cell (p := ⟨g, i * 3 + 2, none⟩) l).trans c⟩

theorem containsFunc_any (bX bP g n cp : Nat) (addr : ByteArray) (ps pd : Nat) (S D : Nat → Nat) (A : Nat → ByteArray) (hn : n ≤ 1025) (hps : ps < 18446744073709551616)
    (hS : Hid (∀ i, i < n → S i < 18446744073709551616)) (hD : Hid (∀ i, i < n → D i ≤ 255)) (W : World) (ho : Hid (OwnerAt W bX bP addr ps pd)) (hc : Hid (LinksIn W g n S D A)) :
    Calls Yba.prog 19 #[.slice (some ⟨g, 0, none⟩) n cp, .func (.func 20) #[] #[.pointer (some ⟨bX, 0, none⟩)]] W
      fun e W' => e = .returned (.bool (anyHit addr ps pd S D A n)) ∧ Below W.heap.size W W' := by
  go_enter Yba.func19, Yba.ntmps19
  go_wp2_with (go_at_call 23; refine (index_any bX bP g n cp addr ps pd S D A hn hps hS hD _ ho hc).mono ?_; rintro e w2 ⟨r, rfl, hr, hb2⟩; have HR : Hid (decide (0 ≤ r) = anyHit addr ps pd S D A n) := hr; clear hr)
  go_ret
  exact ⟨ret_bool' HR.out, hb2⟩

set_option maxHeartbeats 400000 in
theorem ahead_any (bP g n cp : Nat) (addr : ByteArray) (ps pd : Nat) (S D : Nat → Nat) (A : Nat → ByteArray) (hn : n ≤ 1025) (hps : ps < 18446744073709551616)
    (hS : Hid (∀ i, i < n → S i < 18446744073709551616)) (hD : Hid (∀ i, i < n → D i ≤ 255)) (W : World)
    (q1 : W.cell? ⟨bP, 0, none⟩ = some (.string addr)) (q2 : W.cell? ⟨bP, 11, none⟩ = some (.int .u64 ps)) (q3 : W.cell? ⟨bP, 12, none⟩ = some (.int .u8 pd)) (hc : Hid (LinksIn W g n S D A)) :
    Calls Yba.prog 13 #[.pointer (some ⟨bP, 0, none⟩), .agg #[.int .u64 0, .string { data := #[] }, .string { data := #[] }, .string { data := #[] }, .int .u64 0, .int .u8 0, .slice none 0 0, .slice (some ⟨g, 0, none⟩) n cp]] W
      fun e W' => e = .returned (.bool (anyHit addr ps pd S D A n)) ∧ Below W.heap.size W W' := by
  have hb : ∀ o1 o2 : Obj, Below W.heap.size W ((W.alloc o1).alloc o2) := fun o1 o2 => ((Below.refl _ _).alloc (Nat.le_refl _) _).alloc (by simp) _
  have hO : Hid (∀ o2 : Obj, OwnerAt ((W.alloc (.cells #[.pointer (some ⟨bP, 0, none⟩)] 23)).alloc o2) W.heap.size bP addr ps pd) := fun o2 =>
    ⟨(World.grownBy_alloc _ _ none).cell (cell_of_row _ _ 0 _ _ _ (heap_alloc_new W _)) (by simp), ((hb _ _).cell (World.block_lt_of_cell? W _ q1)).trans q1, ((hb _ _).cell (World.block_lt_of_cell? W _ q2)).trans q2, ((hb _ _).cell (World.block_lt_of_cell? W _ q3)).trans q3⟩
  have HB := (show Hid (∀ o1 o2 : Obj, Below W.heap.size W ((W.alloc o1).alloc o2)) from hb)
  clear hb q1 q2 q3
  go_enter Yba.func13, Yba.ntmps13
  go_wp2_with (go_at_call 19; refine (containsFunc_any W.heap.size bP g n cp addr ps pd S D A hn hps hS hD _ (hO.out _) (hc.out.below (HB.out _ _))).mono ?_; rintro e w2 ⟨rfl, hb2⟩)
  go_ret
  exact ⟨rfl, (HB.out _ _).trans (hb2.mono (by simp; omega))⟩
end Go.Proofs.Ybulkafho
