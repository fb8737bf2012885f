import Derived.Test.YbulkafhoBBits
namespace Go.Proofs.Ybulkafho
open Go.RowKit
set_option linter.unusedVariables false
attribute [local go_sem ↓] Go.wp_at_zero Go.wp_at_succ

/-- Does the fact name the peer the holder of a region that is shallower and holds the peer's start? -/
def hit (addr : ByteArray) (ps pd s d : Nat) (a : ByteArray) : Bool := (a.toList == addr.toList) && (decide (d < pd) && cont s d ps)

/-- The peer and the box that leads to it. -/
structure OwnerAt (W : World) (bX bP : Nat) (addr : ByteArray) (ps pd : Nat) : Prop where
  box : W.cell? ⟨bX, 0, none⟩ = some (.pointer (some ⟨bP, 0, none⟩))
  adr : W.cell? ⟨bP, 0, none⟩ = some (.string addr)
  sta : W.cell? ⟨bP, 11, none⟩ = some (.int .u64 ps)
  dep : W.cell? ⟨bP, 12, none⟩ = some (.int .u8 pd)

theorem OwnerAt.below {W W' : World} {bX bP : Nat} {addr : ByteArray} {ps pd : Nat} (h : OwnerAt W bX bP addr ps pd) (hb : Below W.heap.size W W') : OwnerAt W' bX bP addr ps pd :=
  ⟨(hb.cell (p := ⟨bX, 0, none⟩) (World.block_lt_of_cell? W _ h.box)).trans h.box, (hb.cell (p := ⟨bP, 0, none⟩) (World.block_lt_of_cell? W _ h.adr)).trans h.adr,
    (hb.cell (p := ⟨bP, 11, none⟩) (World.block_lt_of_cell? W _ h.sta)).trans h.sta, (hb.cell (p := ⟨bP, 12, none⟩) (World.block_lt_of_cell? W _ h.dep)).trans h.dep⟩

set_option maxHeartbeats 1600000 in
theorem ahead1_any (bX bP : Nat) (addr a : ByteArray) (ps pd s d : Nat) (hs : s < 18446744073709551616) (hps : ps < 18446744073709551616) (hd : d ≤ 255) (W : World) (ho : OwnerAt W bX bP addr ps pd) :
    Calls Yba.prog 20 #[.agg #[.int .u64 s, .int .u8 d, .string a], .pointer (some ⟨bX, 0, none⟩)] W fun e W' => e = .returned (.bool (hit addr ps pd s d a)) ∧ Below W.heap.size W W' := by
  obtain ⟨h1, h2, h3, h4⟩ := ho
  have lX := World.block_lt_of_cell? W _ h1
  have lP := World.block_lt_of_cell? W _ h2
  cases he : (a.toList == addr.toList)
  · have hh : Hid (hit addr ps pd s d a = false) := by show hit addr ps pd s d a = false; unfold hit; rw [he]; rfl
    go_enter Yba.func20, Yba.ntmps20
    go_wp2_with fail
    go_quiet (fail)
    go_wp2
    go_ret
    exact ⟨ret_bool' hh.out.symm, below_drewN ((Below.refl _ _).alloc (Nat.le_refl _) _) _⟩
  · by_cases hlt : d < pd
    · have hh : Hid (hit addr ps pd s d a = cont s d ps) := by show hit addr ps pd s d a = cont s d ps; unfold hit; rw [he, decide_eq_true hlt]; rfl
      have hlt' : (d : Int) < (pd : Int) := by omega
      go_enter Yba.func20, Yba.ntmps20
      go_wp2_with fail
      go_region_held3 (fun w' => w'.cell? ⟨bX, 0, none⟩ = some (.pointer (some ⟨bP, 0, none⟩)) ∧ w'.cell? ⟨bP, 0, none⟩ = some (.string addr) ∧ w'.cell? ⟨bP, 11, none⟩ = some (.int .u64 ps) ∧ w'.cell? ⟨bP, 12, none⟩ = some (.int .u8 pd) ∧
          w'.cell? ⟨W.heap.size, 0, none⟩ = some (.int .u64 s) ∧ w'.cell? ⟨W.heap.size, 1, none⟩ = some (.int .u8 d) ∧ w'.cell? ⟨W.heap.size, 2, none⟩ = some (.string a))
        (first
          | go_keep
          | (go_split_ands
             refine ⟨?_, ?_, ?_, ?_, ?_, ?_, ?_⟩
             · exact (hb2.cell (by simp; omega)).trans (by assumption)
             · exact (hb2.cell (by simp; omega)).trans (by assumption)
             · exact (hb2.cell (by simp; omega)).trans (by assumption)
             · exact (hb2.cell (by simp; omega)).trans (by assumption)
             · exact (hb2.cell (by simp)).trans (by assumption)
             · exact (hb2.cell (by simp)).trans (by assumption)
             · exact (hb2.cell (by simp)).trans (by assumption)))
        ((go_at_call 21; refine (contains_any s d ps hs hps hd _).mono ?_; rintro e w2 ⟨rfl, hb2⟩))
      go_wp2
      go_ret
      refine ⟨ret_bool' hh.out.symm, ?_⟩
      exact (((Below.refl W.heap.size W).alloc (Nat.le_refl _) _).drew).trans (hb2.mono (B' := W.heap.size) (by simp))
    · have hh : Hid (hit addr ps pd s d a = false) := by show hit addr ps pd s d a = false; unfold hit; rw [he, decide_eq_false hlt]; rfl
      have hlt' : ¬ (d : Int) < (pd : Int) := by omega
      have hdd : decide ((d : Int) < (pd : Int)) = false := decide_eq_false hlt'
      go_enter Yba.func20, Yba.ntmps20
      go_wp2_with fail
      go_quiet (fail)
      go_wp2
      go_ret
      exact ⟨ret_bool' hh.out.symm, below_drewN ((Below.refl _ _).alloc (Nat.le_refl _) _) _⟩

/-- The cells of the first k links. -/
def linkCells (S D : Nat → Nat) (A : Nat → ByteArray) (k : Nat) : List Value := (List.range k).flatMap fun i => [.int .u64 (S i), .int .u8 (D i), .string (A i)]

theorem linkCells_succ (S D : Nat → Nat) (A : Nat → ByteArray) (k : Nat) : linkCells S D A (k + 1) = linkCells S D A k ++ [.int .u64 (S k), .int .u8 (D k), .string (A k)] := by
  simp [linkCells, List.range_succ]

theorem linkCells_length (S D : Nat → Nat) (A : Nat → ByteArray) (k : Nat) : (linkCells S D A k).length = k * 3 := by
  induction k with
  | zero => rfl
  | succ k ih => rw [linkCells_succ, List.length_append, ih]; simp; omega

theorem linkCells_at (S D : Nat → Nat) (A : Nat → ByteArray) (n i : Nat) (h : i < n) :
    (linkCells S D A n)[i * 3]? = some (.int .u64 (S i)) ∧ (linkCells S D A n)[i * 3 + 1]? = some (.int .u8 (D i)) ∧ (linkCells S D A n)[i * 3 + 2]? = some (.string (A i)) := by
  induction n with
  | zero => omega
  | succ n ih =>
    rw [linkCells_succ]
    have hl := linkCells_length S D A n
    by_cases hi : i < n
    · obtain ⟨a, b, c⟩ := ih hi
      rw [List.getElem?_append_left (by omega), List.getElem?_append_left (by omega), List.getElem?_append_left (by omega)]
      exact ⟨a, b, c⟩
    · obtain rfl : i = n := by omega
      rw [List.getElem?_append_right (by omega), List.getElem?_append_right (by omega), List.getElem?_append_right (by omega), hl]
      simp [show i * 3 + 1 - i * 3 = 1 by omega, show i * 3 + 2 - i * 3 = 2 by omega]

/-- Whether any of the first k facts hits. -/
def anyHit (addr : ByteArray) (ps pd : Nat) (S D : Nat → Nat) (A : Nat → ByteArray) (k : Nat) : Bool := (List.range k).any fun i => hit addr ps pd (S i) (D i) (A i)

theorem anyHit_succ (addr : ByteArray) (ps pd : Nat) (S D : Nat → Nat) (A : Nat → ByteArray) (k : Nat) : anyHit addr ps pd S D A (k + 1) = (anyHit addr ps pd S D A k || hit addr ps pd (S k) (D k) (A k)) := by
  simp [anyHit, List.range_succ]

theorem anyHit_of {addr : ByteArray} {ps pd : Nat} {S D : Nat → Nat} {A : Nat → ByteArray} {k n : Nat} (h : hit addr ps pd (S k) (D k) (A k) = true) (hk : k < n) : anyHit addr ps pd S D A n = true := by
  unfold anyHit
  rw [List.any_eq_true]
  exact ⟨k, List.mem_range.2 hk, h⟩

set_option maxHeartbeats 1600000 in
/-- slices.IndexFunc over the links: negative where none hits. -/
theorem index_any (bX bP g n cp : Nat) (addr : ByteArray) (ps pd : Nat) (S D : Nat → Nat) (A : Nat → ByteArray) (hn : n ≤ 1025) (hps : ps < 18446744073709551616)
    (hS : Hid (∀ i, i < n → S i < 18446744073709551616)) (hD : Hid (∀ i, i < n → D i ≤ 255)) (W : World) (ho : Hid (OwnerAt W bX bP addr ps pd)) (hc : Hid (∀ i, i < n → W.cell? ⟨g, i * 3, none⟩ = some (.int .u64 (S i)) ∧ W.cell? ⟨g, i * 3 + 1, none⟩ = some (.int .u8 (D i)) ∧ W.cell? ⟨g, i * 3 + 2, none⟩ = some (.string (A i)))) :
    Calls Yba.prog 23 #[.slice (some ⟨g, 0, none⟩) n cp, .func (.func 20) #[] #[.pointer (some ⟨bX, 0, none⟩)]] W
      fun e W' => ∃ r : Int, e = .returned (.int .i64 r) ∧ decide (0 ≤ r) = anyHit addr ps pd S D A n ∧ Below W.heap.size W W' := by
  go_enter Yba.func23, Yba.ntmps23
  go_wp2
  go_loopw [8] (fun i wr => ∃ k : Nat, k ≤ n ∧ i = .int .i64 k ∧ anyHit addr ps pd S D A k = false ∧ Below W.heap.size W wr) (fun i _ => n - (intOf i).toNat)
  case atStart => exact ⟨0, Nat.zero_le _, rfl, rfl, Below.refl _ _⟩
  case round =>
    obtain ⟨k, hk, rfl, hno, hbel⟩ := hrel
    have HNO : Hid (anyHit addr ps pd S D A k = false) := hno
    clear hno
    by_cases hlt : k < n
    · obtain ⟨c0, c1, c2⟩ := hc.out k hlt
      have lg := World.block_lt_of_cell? W _ c0
      have c0' := (hbel.cell (p := ⟨g, k * 3, none⟩) lg).trans c0
      have c1' := (hbel.cell (p := ⟨g, k * 3 + 1, none⟩) lg).trans c1
      have c2' := (hbel.cell (p := ⟨g, k * 3 + 2, none⟩) lg).trans c2
      have hk1 : (k : Int) < (n : Int) := by omega
      have hoo : Hid (OwnerAt wr bX bP addr ps pd) := ho.out.below hbel
      have HBE : Hid (Below W.heap.size W wr) := hbel
      have hsz := hbel.size
      clear c0 c1 c2 hbel
      cases hh : hit addr ps pd (S k) (D k) (A k)
      · go_wp2_with (go_at_call 20; refine (ahead1_any bX bP addr (A k) ps pd (S k) (D k) (hS.out k hlt) hps (hD.out k hlt) _ hoo.out).mono ?_; rintro e w2 ⟨rfl, hb2⟩; rw [hh])
        go_roundw
        case rel => exact ⟨k + 1, by omega, by go_num, by rw [anyHit_succ, HNO.out, hh]; rfl, HBE.out.trans (hb2.mono hsz)⟩
        case measure => simp [intOf]; omega
      · go_wp2_with (go_at_call 20; refine (ahead1_any bX bP addr (A k) ps pd (S k) (D k) (hS.out k hlt) hps (hD.out k hlt) _ hoo.out).mono ?_; rintro e w2 ⟨rfl, hb2⟩; rw [hh])
        go_ret
        exact ⟨_, rfl, by rw [anyHit_of hh hlt]; simp, HBE.out.trans (hb2.mono hsz)⟩
    · go_wp2
      go_ret
      obtain rfl : k = n := by omega
      exact ⟨_, rfl, by rw [HNO.out]; rfl, hbel⟩
end Go.Proofs.Ybulkafho
