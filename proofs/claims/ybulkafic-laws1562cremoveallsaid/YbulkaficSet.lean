import Derived.Test.YbulkaficIn
namespace Go.Proofs.Ybulkafic
open Go.RowKit Go.Maps
set_option linter.unusedVariables false

theorem eqI_iff (x y : It) : eqI x y = true ↔ x = y := by
  unfold eqI
  obtain ⟨a, s⟩ := x
  obtain ⟨b, t⟩ := y
  rw [ByteArray.toList_eq, ByteArray.toList_eq]
  simp
  intro _
  constructor
  · intro h
    exact ByteArray.ext h
  · rintro rfl; rfl
theorem eqI_false (x y : It) : eqI x y = false ↔ x ≠ y := by
  rw [← Bool.not_eq_true, eqI_iff]

theorem memB_iff (L : List It) (x : It) : memB L x = true ↔ x ∈ L := by
  unfold memB
  rw [List.any_eq_true]
  constructor
  · rintro ⟨y, hy, he⟩
    rw [(eqI_iff y x).1 he] at hy
    exact hy
  · intro h
    exact ⟨x, h, (eqI_iff x x).2 rfl⟩
theorem memB_false (L : List It) (x : It) : memB L x = false ↔ x ∉ L := by
  rw [← Bool.not_eq_true, memB_iff]

/-- The zero item, as the walk writes it. -/
def zE : It := (false, { data := #[] })

structure Good (M : List It) : Prop where
  nodup : M.Nodup
  zero : zE ∉ M
  size : ∀ x ∈ M, x.2.size ≤ maxLen

def addI (M : List It) (x : It) : List It := if memB M x then M else M ++ [x]

theorem mem_dropI {M : List It} {x y : It} : y ∈ dropI M x ↔ y ∈ M ∧ y ≠ x := by
  unfold dropI
  rw [List.mem_filter]
  constructor
  · rintro ⟨h1, h2⟩
    exact ⟨h1, fun e => by rw [(eqI_iff y x).2 e] at h2; cases h2⟩
  · rintro ⟨h1, h2⟩
    exact ⟨h1, by rw [(eqI_false y x).2 h2]; rfl⟩
theorem mem_addI {M : List It} {x y : It} : y ∈ addI M x ↔ y ∈ M ∨ y = x := by
  unfold addI
  split
  · rename_i h
    have := (memB_iff M x).1 h
    exact ⟨.inl, fun h => h.elim id (fun e => e ▸ this)⟩
  · simp

theorem Good.add {M : List It} (h : Good M) {x : It} (hx : x ≠ zE) (hs : x.2.size ≤ maxLen) : Good (addI M x) := by
  refine ⟨?_, fun hz => ?_, fun y hy => ?_⟩
  · unfold addI
    split
    · exact h.nodup
    · rename_i hm
      have hn := (memB_false M x).1 (by simpa using hm)
      exact List.nodup_append.2 ⟨h.nodup, by simp, fun a ha b hb => by simp at hb; subst hb; exact fun e => hn (e ▸ ha)⟩
  · rcases mem_addI.1 hz with h1 | h1
    · exact h.zero h1
    · exact hx h1.symm
  · rcases mem_addI.1 hy with h1 | h1
    · exact h.size y h1
    · rw [h1]; exact hs
theorem Good.drop {M : List It} (h : Good M) (x : It) : Good (dropI M x) :=
  ⟨h.nodup.filter _, fun hz => h.zero (mem_dropI.1 hz).1, fun y hy => h.size y (mem_dropI.1 hy).1⟩

theorem length_dropI {M : List It} (h : M.Nodup) (x : It) : (dropI M x).length + (if memB M x then 1 else 0) = M.length := by
  induction M with
  | nil => rfl
  | cons y M ih =>
    obtain ⟨h1, h2⟩ := List.nodup_cons.1 h
    have ih' := ih h2
    by_cases e : y = x
    · subst e
      have e1 : dropI (y :: M) y = dropI M y := by unfold dropI; rw [List.filter_cons, (eqI_iff y y).2 rfl]; rfl
      have e2 : memB (y :: M) y = true := (memB_iff _ _).2 (by simp)
      have e3 : memB M y = false := (memB_false _ _).2 h1
      rw [e1, e2]
      rw [e3] at ih'
      simp at ih' ⊢
      omega
    · have e1 : dropI (y :: M) x = y :: dropI M x := by unfold dropI; rw [List.filter_cons, (eqI_false y x).2 e]; rfl
      have e2 : memB (y :: M) x = memB M x := by unfold memB; rw [List.any_cons, (eqI_false y x).2 e]; rfl
      rw [e1, e2]
      simp at ih' ⊢
      omega

/-- The map holds just the items of the list. -/
structure MapIs (D : DataW Unit) (M : List It) : Prop where
  has : ∀ x : It, x.2.size ≤ maxLen → Maps.has D (klOf x) = memB M x
  size : Maps.size D = M.length

theorem isKey (x : It) (h : x.2.size ≤ maxLen) : WideAt.IsKeyLit (klOf x) := law.key (keyOf_enc x h)

theorem MapIs.put {D : DataW Unit} {M : List It} (h : MapIs D M) (ht : Tidy D) (x : It) (hs : x.2.size ≤ maxLen) (d : DataW Unit) : MapIs (D.put (klOf x) d) (addI M x) := by
  refine ⟨fun y hy => ?_, ?_⟩
  · by_cases e : y = x
    · subst e
      rw [has_put_same ht.isMap (isKey y hy), eq_comm, memB_iff, mem_addI]
      exact .inr rfl
    · rw [has_put_other (fun he => e (klOf_inj y x hy hs he)), h.has y hy, Bool.eq_iff_iff, memB_iff, memB_iff, mem_addI]
      exact ⟨.inl, fun h => h.elim id (fun h' => absurd h' e)⟩
  · rw [size_put ht, h.has x hs, h.size]
    unfold addI
    split <;> simp_all

theorem MapIs.del {D : DataW Unit} {M : List It} (h : MapIs D M) (ht : Tidy D) (hn : M.Nodup) (x : It) (hs : x.2.size ≤ maxLen) : MapIs (D.del (klOf x)) (dropI M x) := by
  refine ⟨fun y hy => ?_, ?_⟩
  · by_cases e : y = x
    · subst e
      rw [has_del_same, eq_comm, memB_false, mem_dropI]
      exact fun h => h.2 rfl
    · rw [has_del_other (fun he => e (klOf_inj y x hy hs he)), h.has y hy, Bool.eq_iff_iff, memB_iff, memB_iff, mem_dropI]
      exact ⟨fun h => ⟨h, e⟩, fun h => h.1⟩
  · have h1 := size_del (k := klOf x) ht
    have h2 := length_dropI hn x
    rw [h.has x hs, h.size] at h1
    omega

theorem MapIs.empty : MapIs (.map []) [] := ⟨fun _ _ => rfl, rfl⟩

/-- The set in memory. -/
def SetIs (B : Nat) (W : World) (bs : Nat) (M : List It) (n : Nat) : Prop :=
  ∃ (one : It) (mp : Option Nat), W.heap[bs]? = some (.cells #[.bool one.1, .string one.2, .map mp] 72 (0, 0)) ∧ B ≤ bs ∧ Good M ∧
    ((M = [] ∧ one = zE ∧ mp = none) ∨ (M = [one] ∧ mp = none) ∨
      (2 ≤ M.length ∧ one = zE ∧ ∃ r D, mp = some r ∧ B ≤ r ∧ W.ownsMap Yba.prog 52 (plainElem Yba.prog 4) r n D ∧ MapIs D M))

/-- What is no map, and not the set's own block, lies as it lay. -/
def Keep (bs : Nat) (W W' : World) : Prop := ∀ k o, W.heap[k]? = some o → (∀ es c, o ≠ .map es c) → k ≠ bs → W'.heap[k]? = some o

theorem Keep.trans {bs : Nat} {A B C : World} (h : Keep bs A B) (k : Keep bs B C) : Keep bs A C := fun i o hi ho hb => k i o (h i o hi ho hb) ho hb
theorem Keep.alloc (bs : Nat) (W : World) (o : Obj) : Keep bs W (W.alloc o) := fun k o' hk _ _ => (Below.heap_alloc W o k (Array.getElem?_eq_some_iff.1 hk).1).trans hk
theorem Keep.setCell (bs : Nat) (W : World) (i : Nat) (u : Value) : Keep bs W (W.setCell ⟨bs, i, none⟩ u) := fun k o' hk _ hb => (Below.heap_setCell W _ u k hb).trans hk
theorem Keep.turned {bs r : Nat} {W W' : World} (h : W.mapTurned W' r) : Keep bs W W' := fun k o hk ho _ => by
  have hne : k ≠ r := fun e => by
    obtain ⟨es, c, _, _, hb, _⟩ := h
    subst e
    rw [hb] at hk
    cases hk
    exact ho es c rfl
  exact (h.grown.block k (Array.getElem?_eq_some_iff.1 hk).1 (fun e => hne (by cases e; rfl))).trans hk
theorem Keep.drewN {bs : Nat} {A B : World} (h : Keep bs A B) (n : Nat) : Keep bs A (B.drewN n) := h

theorem heap_set {W : World} {b : Nat} {cs : Array Value} {t : TypeId} {fr : Nat × Nat} (h : W.heap[b]? = some (.cells cs t fr)) (i : Nat) (u : Value) :
    (W.setCell ⟨b, i, none⟩ u).heap[b]? = some (.cells (cs.setIfInBounds i u) t fr) := by
  obtain ⟨hlt, hk⟩ := Array.getElem?_eq_some_iff.1 h
  show (W.heap.modify b _)[b]? = _
  rw [Array.getElem?_eq_getElem (by rw [Array.size_modify]; exact hlt), Array.getElem_modify_self, hk]
  rfl
theorem free_of {W : World} {b : Nat} {cs : Array Value} {t : TypeId} (h : W.heap[b]? = some (.cells cs t (0, 0))) (i : Nat) : W.frozen? ⟨b, i, none⟩ = false := by
  simp [World.frozen?, h]

theorem n70 (w : World) (a : Option Nat) : (binOp .neq 70 (.map a) (.map none)).run Yba.prog w = .ok (.bool (!a.isNone)) w := run_neq_map_nil w _ _ _ a Yba.underlying70
theorem e70 (w : World) (a : Option Nat) : (binOp .eql 70 (.map a) (.map none)).run Yba.prog w = .ok (.bool a.isNone) w := run_eql_map_nil w _ _ _ a Yba.underlying70
end Go.Proofs.Ybulkafic
