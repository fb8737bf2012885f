import Derived.Test.YbulkaficAdd
namespace Go.Proofs.Ybulkafic
open Go.RowKit Go.Maps
set_option linter.unusedVariables false
attribute [local go_sem ↓] eql52 neq52
attribute [local go_sem ↓] Go.wp_at_zero Go.wp_at_succ

set_option maxHeartbeats 1600000 in
/-- s.remove(it) on a set without a map. -/
theorem remove_one (B bs n : Nat) (x one : It) (W : World) (hb : W.heap[bs]? = some (.cells #[.bool one.1, .string one.2, .map none] 72 (0, 0))) (hBs : B ≤ bs) :
    Calls Yba.prog 14 #[.pointer (some ⟨bs, 0, none⟩), .agg #[.bool x.1, .string x.2]] W fun e W' => ∃ o : It, e = .returned (.tuple #[]) ∧ (x = one → o = zE) ∧ (x ≠ one → o = one) ∧
      W'.heap[bs]? = some (.cells #[.bool o.1, .string o.2, .map none] 72 (0, 0)) ∧ Below B W W' ∧ Keep bs W W' ∧ W.grownBy W' (some bs) := by
  have q0 : W.cell? ⟨bs, 0, none⟩ = some (.bool one.1) := cell_of_row _ _ 0 _ _ _ hb
  have q1 : W.cell? ⟨bs, 1, none⟩ = some (.string one.2) := cell_of_row _ _ 1 _ _ _ hb
  have q2 : W.cell? ⟨bs, 2, none⟩ = some (.map none) := cell_of_row _ _ 2 _ _ _ hb
  have f0 := free_of hb 0
  have f1 := free_of hb 1
  have lb : bs < W.heap.size := (Array.getElem?_eq_some_iff.1 hb).1
  have hBW : B ≤ W.heap.size := by omega
  have qe := e70
  have HB : Hid (W.heap[bs]? = some (.cells #[.bool one.1, .string one.2, .map none] 72 (0, 0))) := hb
  have hV : Hid (∀ o nq, ((W.alloc o).drewN nq).heap[bs]? = some (.cells #[.bool one.1, .string one.2, .map none] 72 (0, 0))) := fun o nq => (Below.heap_alloc W _ _ lb).trans hb
  clear hb
  cases he : eqI (x.1, x.2) (one.1, one.2)
  · have he' : Hid (x ≠ one) := (eqI_false x one).1 he
    go_enter Yba.func14, Yba.ntmps14
    go_wp2_with fail
    go_quiet (fail)
    go_wp2
    refine bodyPost_ret (results_none rfl _ _ _) rfl ?_
    exact ⟨one, rfl, fun h => absurd h he'.out, fun _ => rfl, hV.out _ _, below_drewN ((Below.refl B W).alloc hBW _) _, Keep.alloc bs W _, ⟨rfl, rfl, rfl, by show _ ≤ (W.alloc _).heap.size; simp, fun k hk _ => Below.heap_alloc W _ k hk⟩⟩
  · have he' : Hid (x = one) := (eqI_iff x one).1 he
    go_enter Yba.func14, Yba.ntmps14
    go_wp2_with fail
    go_quiet (fail)
    go_wp2
    refine bodyPost_ret (results_none rfl _ _ _) rfl ?_
    obtain ⟨r1, r2, r3⟩ := put_one (W := W) zE (hV.out _ nq) hBs (below_drewN ((Below.refl B W).alloc hBW _) nq) (Keep.alloc bs W _)
    refine ⟨zE, rfl, fun _ => rfl, fun h => absurd he'.out h, r1, r2, r3, ⟨rfl, rfl, rfl, r2.size, fun k hk hne => ?_⟩⟩
    have hkb : k ≠ bs := fun e => hne (by rw [e])
    exact ((Below.heap_setCell _ _ _ k hkb).trans (Below.heap_setCell _ _ _ k hkb)).trans (Below.heap_alloc W _ k hk)

theorem step_delete {ops : Array Oper} {o : Oper} {a : Act} {w : World} {K : Act → World → Prop} {Q : Exit → Act → World → Prop} {E : Prop} (hgd : o.guard = none) (m x : Operand)
    (ho : o.op = .call { callee := .builtin .delete, args := #[m, x], argTypes := #[70, 52] }) (vm vx : Value) (hm : a.eval m = vm) (hx : a.eval x = vx) (w2 : World)
    (hrun : ∀ ty, (Builtin.delete_ #[70, 52] ty #[vm, vx]).run Yba.prog w = .ok (.tuple #[]) w2) (h : K (a.put o.dst (.tuple #[])) w2) :
    if Region.wanted o (yielded ops a.tmps) = true then Oper.wp Yba.prog o a w K Q else E := by
  have hw : Region.wanted o (yielded ops a.tmps) = true := by simp [Region.wanted, hgd]
  rw [if_pos hw]
  unfold Oper.wp execOp
  simp only [ho, resolve, invoke, builtin, Sem.run_bind, Sem.run_pure, Result.andThen_ok, List.map_toArray, List.map_cons, List.map_nil, hm, hx, hrun]
  exact h

theorem elem_inv (v : Value) (y : DataW Unit × List MemPlace) (h : plainElem Yba.prog 4 v = some y) : ∃ c : Bool, v = .bool c := by
  cases v with
  | bool c => exact ⟨c, rfl⟩
  | _ => simp [plainElem, Yba.underlying4] at h

/-- The step of a range over a map of items. -/
theorem next_items {w : World} {ops : Array Oper} {rest : List Oper} {o : Oper} {act : Act} {Q : Exit → Act → World → Prop} (hg : o.guard = none) (it : Operand) (hop : o.op = Op.next it false) (b r n : Nat) (D : DataW Unit) (left : Lit → Bool) (cnt : Nat)
    (hit : act.eval it = .pointer (some ⟨r, 0, none⟩)) (h : w.ranges Yba.prog 52 (plainElem Yba.prog 4) b r n D left cnt)
    (hDone : Hid (cnt = 0 ∧ ∀ kl, left kl = false) → wpList Yba.prog ops Q rest (act.put o.dst (.tuple #[.bool false])) w)
    (hMore : ∀ (k : Bool) (s : ByteArray) (c : Bool) (w' : World), Hid (∃ cnt', s.size ≤ maxLen ∧ left (klOf (k, s)) = true ∧ w'.ranges Yba.prog 52 (plainElem Yba.prog 4) b r n D (fun z => left z && !z.sameKey (klOf (k, s))) cnt' ∧ cnt' < cnt ∧ w.grownBy w' (some r) ∧ w'.heap.size = w.heap.size) →
      (Instr.entry (.pointer (some ⟨r, 0, none⟩))).run Yba.prog w' = .ok (.tuple #[.agg #[.bool k, .string s], .bool c]) w' → wpList Yba.prog ops Q rest (act.put o.dst (.tuple #[.bool true, .agg #[.bool k, .string s], .bool c])) w') :
    wpList Yba.prog ops Q (o :: rest) act w :=
  wpList_next_ranges w hg it hop 52 law (plainElem Yba.prog 4) enc Value.bool (fun key kl h => by obtain ⟨y, hy, _⟩ := keyOf_inv key kl h; exact ⟨y, hy⟩) elem_inv b r n D left cnt hit h (fun h0 h1 => hDone ⟨h0, h1⟩)
    (fun y c kl yy w' cnt' hkey hlk hv hat hrg hlt hgr hsz hen => by
      obtain ⟨y', hy, hys, rfl⟩ := keyOf_inv _ _ hkey
      obtain rfl : y = y' := by
        obtain ⟨a, s⟩ := y
        obtain ⟨b, t⟩ := y'
        unfold enc at hy
        simp at hy
        exact Prod.ext hy.1 hy.2
      exact hMore y.1 y.2 c w' ⟨cnt', hys, hlk, hrg, hlt, hgr, hsz⟩ hen)

theorem grown_box (W : World) (o : Obj) (row : Option Nat) : W.grownBy (W.alloc o).drew row := ⟨rfl, rfl, rfl, by show _ ≤ (W.alloc _).heap.size; simp, fun k hk _ => Below.heap_alloc W _ k hk⟩

theorem grown_set (W : World) (b i : Nat) (v : Value) : W.grownBy (W.setCell ⟨b, i, none⟩ v) (some b) :=
  ⟨rfl, rfl, rfl, by show _ ≤ (W.heap.modify b _).size; rw [Array.size_modify]; exact Nat.le_refl _, fun k _ hk => Below.heap_setCell _ _ _ k (fun e => hk (by rw [e]))⟩

set_option maxRecDepth 100000 in
set_option maxHeartbeats 3200000 in
/-- s.remove(it) on a set with a map: 'MS' says what is known of the map. -/
theorem remove_map (B bs r n : Nat) (D : DataW Unit) (M : List It) (x : It) (hs : x.2.size ≤ maxLen) (W : World) (hb : W.heap[bs]? = some (.cells #[.bool zE.1, .string zE.2, .map (some r)] 72 (0, 0))) (hBs : B ≤ bs) (hG : Good M)
    (hM2 : 2 ≤ M.length) (hBr : B ≤ r) (MS : World → DataW Unit → Prop) (hMo : Hid (∀ V D, MS V D → V.ownsMap Yba.prog 52 (plainElem Yba.prog 4) r n D))
    (hMk : Hid (∀ V V' D row, MS V D → V.grownBy V' row → (∀ k, row = some k → k = bs ∨ W.heap.size ≤ k) → MS V' D))
    (hMd : Hid (∀ V D, MS V D → ∃ w2, (∀ ty, (Builtin.delete_ #[70, 52] ty #[.map (some r), .agg #[.bool x.1, .string x.2]]).run Yba.prog V = .ok (.tuple #[]) w2) ∧ MS w2 (D.del (klOf x)) ∧ V.mapTurned w2 r))
    (hms : Hid (MS W D)) (hm : MapIs D M) :
    Calls Yba.prog 14 #[.pointer (some ⟨bs, 0, none⟩), .agg #[.bool x.1, .string x.2]] W fun e W' => ∃ (one : It) (mp : Option Nat), e = .returned (.tuple #[]) ∧
      W'.heap[bs]? = some (.cells #[.bool one.1, .string one.2, .map mp] 72 (0, 0)) ∧ ((dropI M x = [one] ∧ mp = none) ∨ (2 ≤ (dropI M x).length ∧ one = zE ∧ mp = some r)) ∧ MS W' (D.del (klOf x)) ∧ Below B W W' ∧ Keep bs W W' := by
  have q2 : W.cell? ⟨bs, 2, none⟩ = some (.map (some r)) := cell_of_row _ _ 2 _ _ _ hb
  have lb : bs < W.heap.size := (Array.getElem?_eq_some_iff.1 hb).1
  have hBW : B ≤ W.heap.size := by omega
  have qe := e70
  have hms1 : MS (W.alloc (.cells #[.bool x.1, .string x.2] 52)).drew D := hMk.out _ _ _ none hms.out (grown_box W _ none) (fun k e => by cases e)
  obtain ⟨w2, hrun, hms2, hturn⟩ := hMd.out _ _ hms1
  have hown2 := hMo.out _ _ hms2
  have k2 : Keep (bs + 1) W w2 := (show Keep (bs + 1) W (W.alloc (.cells #[.bool x.1, .string x.2] 52)).drew from Keep.alloc (bs + 1) W _).trans (Keep.turned hturn)
  have hb2 : w2.heap[bs]? = some (.cells #[.bool zE.1, .string zE.2, .map (some r)] 72 (0, 0)) := k2 bs _ hb (by intro es c h; cases h) (by omega)
  have hbx : w2.heap[W.heap.size]? = some (.cells #[.bool x.1, .string x.2] 52 (0, 0)) := (Keep.turned (bs := bs) hturn) _ _ (heap_alloc_new W _) (by intro es c h; cases h) (by omega)
  have x0 : w2.cell? ⟨W.heap.size, 0, none⟩ = some (.bool x.1) := cell_of_row _ _ 0 _ _ _ hbx
  have x1 : w2.cell? ⟨W.heap.size, 1, none⟩ = some (.string x.2) := cell_of_row _ _ 1 _ _ _ hbx
  have hK2 : Hid (Keep bs W w2) := (show Keep bs W (W.alloc (.cells #[.bool x.1, .string x.2] 52)).drew from Keep.alloc bs W _).trans (Keep.turned hturn)
  have hB2 : Hid (Below B W w2) := (((Below.refl B W).alloc hBW _).drew).grown hturn.grown (by simp; omega) (fun k e => by cases e; exact hBr)
  have hsz2 : W.heap.size + 1 ≤ w2.heap.size := by have := hturn.grown.size; simpa using this
  have hm2 : MapIs (D.del (klOf x)) (dropI M x) := hm.del ((hMo.out _ _ hms.out).tidy law) hG.nodup x hs
  have hlen : 1 ≤ (dropI M x).length := by have := length_dropI hG.nodup x; split at this <;> omega
  have p2 : w2.cell? ⟨bs, 2, none⟩ = some (.map (some r)) := cell_of_row _ _ 2 _ _ _ hb2
  have HB2 : Hid (w2.heap[bs]? = some (.cells #[.bool zE.1, .string zE.2, .map (some r)] 72 (0, 0))) := hb2
  have HMS2 : Hid (MS w2 (D.del (klOf x))) := hms2
  have HOW : Hid (w2.ownsMap Yba.prog 52 (plainElem Yba.prog 4) r n (D.del (klOf x))) := hown2
  have HRUN : Hid (∀ ty, (Builtin.delete_ #[70, 52] ty #[.map (some r), .agg #[.bool x.1, .string x.2]]).run Yba.prog (W.alloc (.cells #[.bool x.1, .string x.2] 52)).drew = .ok (.tuple #[]) w2) := hrun
  have hsize : Maps.size (D.del (klOf x)) = (dropI M x).length := hm2.size
  have HSZ : Hid (Maps.size (D.del (klOf x)) = (dropI M x).length) := hsize
  have HM2 : Hid (MapIs (D.del (klOf x)) (dropI M x)) := hm2
  clear hms1 hrun hms2 hturn hown2 k2 hb2 hm2 hm hsize hb hbx
  go_enter Yba.func14, Yba.ntmps14
  go_wp2_with fail
  go_region_held3 (fun w' => w'.cell? ⟨bs, 2, none⟩ = some (.map (some r)) ∧ w'.cell? ⟨W.heap.size, 0, none⟩ = some (.bool x.1) ∧ w'.cell? ⟨W.heap.size, 1, none⟩ = some (.string x.2)) (first | go_keep | exact ⟨p2, x0, x1⟩) ((refine step_delete (by rfl) _ _ (by rfl) _ _ (by rfl) (by rfl) w2 HRUN.out ?_))
  by_cases hone : (dropI M x).length = 1
  · have hsz : Hid (Maps.size (D.del (klOf x)) = 1) := by rw [← hone]; exact HSZ.out
    obtain ⟨l, hl⟩ : ∃ l, dropI M x = [l] := List.length_eq_one_iff.1 hone
    have HL := (show Hid (dropI M x = [l]) from hl)
    clear hl hone
    go_wp2_with (first
      | (at_len; refine wpList_len_own _ rfl _ 70 rfl 52 4 Yba.underlying70 (plainElem Yba.prog 4) r n (D.del (klOf x)) rfl HOW.out ?_; rw [hsz.out])
      | (at_range; refine wpList_range_own _ rfl _ 70 rfl 52 4 law Yba.underlying70 (plainElem Yba.prog 4) r n (D.del (klOf x)) rfl HOW.out ?_; intro w3 hrg3 hg3 hs3))
    go_frame
    have hms3 : MS w3 (D.del (klOf x)) := hMk.out _ _ _ none HMS2.out hg3 (fun k e => by cases e)
    have hb3 : w3.heap[bs]? = some (.cells #[.bool zE.1, .string zE.2, .map (some r)] 72 (0, 0)) := (hg3.block bs (by omega) (by simp)).trans HB2.out
    have hK3 : Keep bs W w3 := hK2.out.trans (fun k o hk ho hb => (hg3.block k (Array.getElem?_eq_some_iff.1 hk).1 (by simp)).trans hk)
    have hB3 : Below B W w3 := hB2.out.grown hg3 (by omega) (fun k e => by cases e)
    rw [hsz.out] at hrg3
    go_loopw [4] (fun _ wr => ∃ (left : Lit → Bool) (cnt : Nat) (o : It), wr.ranges Yba.prog 52 (plainElem Yba.prog 4) r w2.heap.size n (D.del (klOf x)) left cnt ∧ (∀ kl, left kl = true → Maps.has (D.del (klOf x)) kl = true) ∧ ((cnt = 1 ∧ o = zE) ∨ (cnt = 0 ∧ o = l)) ∧
        wr.heap[bs]? = some (.cells #[.bool o.1, .string o.2, .map (some r)] 72 (0, 0)) ∧ MS wr (D.del (klOf x)) ∧ Below B W wr ∧ Keep bs W wr ∧ w2.heap.size < wr.heap.size)
      (fun _ wr => wr.rangeLeft r w2.heap.size)
    case atStart => exact ⟨_, 1, zE, hrg3, fun kl h => h, .inl ⟨rfl, rfl⟩, hb3, hms3, hB3, hK3, by omega⟩
    case round =>
      clear hms3 hb3 hK3 hB3 hrg3 hg3 hs3 p2 x0 x1
      obtain ⟨left, cnt, o, hrg, hlf, hco, hbo, hmsr, hBr', hKr, hszr⟩ := hrel
      have HRG : Hid (wr.ranges Yba.prog 52 (plainElem Yba.prog 4) r w2.heap.size n (D.del (klOf x)) left cnt) := hrg
      have HLF : Hid (∀ kl, left kl = true → Maps.has (D.del (klOf x)) kl = true) := hlf
      have HCO : Hid ((cnt = 1 ∧ o = zE) ∨ (cnt = 0 ∧ o = l)) := hco
      have HBO : Hid (wr.heap[bs]? = some (.cells #[.bool o.1, .string o.2, .map (some r)] 72 (0, 0))) := hbo
      have HMR : Hid (MS wr (D.del (klOf x)) ∧ Below B W wr ∧ Keep bs W wr) := ⟨hmsr, hBr', hKr⟩
      have u0 : wr.cell? ⟨bs, 0, none⟩ = some (.bool o.1) := cell_of_row _ _ 0 _ _ _ hbo
      have u1 : wr.cell? ⟨bs, 1, none⟩ = some (.string o.2) := cell_of_row _ _ 1 _ _ _ hbo
      have u2 : wr.cell? ⟨bs, 2, none⟩ = some (.map (some r)) := cell_of_row _ _ 2 _ _ _ hbo
      have g0 := free_of hbo 0
      have g1 := free_of hbo 1
      have g2 := free_of hbo 2
      clear hrg hlf hco hbo hmsr hBr' hKr
      have lbr : bs < wr.heap.size := (Array.getElem?_eq_some_iff.1 HBO.out).1
      have hbr : some bs ≠ some w2.heap.size := by simp; omega
      go_wp2_with (at_next; refine next_items rfl _ rfl r w2.heap.size n (D.del (klOf x)) left cnt rfl HRG.out (fun HDN => ?_) (fun yk ys c w4 H4 hen => ?_); rotate_left; (have V0 : Hid (w4.heap[bs]? = some (.cells #[.bool o.1, .string o.2, .map (some r)] 72 (0, 0))) := ((H4.out.choose_spec.2.2.2.2.1).block bs lbr hbr).trans HBO.out); (have v0 : w4.cell? ⟨bs, 0, none⟩ = some (.bool o.1) := cell_of_row _ _ 0 _ _ _ V0.out); (have v1 : w4.cell? ⟨bs, 1, none⟩ = some (.string o.2) := cell_of_row _ _ 1 _ _ _ V0.out); (have v3 : w4.frozen? ⟨bs, 0, none⟩ = false := free_of V0.out 0); (have v4 : w4.frozen? ⟨bs, 1, none⟩ = false := free_of V0.out 1); (have lb4 : bs < w4.heap.size := (Array.getElem?_eq_some_iff.1 V0.out).1); rotate_left)
      · go_end0
        have e : o = l := by
          have h1 := HDN.out.1
          rcases HCO.out with ⟨h2, _⟩ | ⟨_, h⟩
          · omega
          · exact h
        obtain ⟨m1, m2, m3⟩ := HMR.out
        refine ⟨o, none, rfl, ?_, .inl ⟨by rw [e]; exact HL.out, rfl⟩, hMk.out _ _ _ _ m1 (grown_set _ bs 2 _) (fun k e => by cases e; exact .inl rfl), m2.setCell (p := ⟨bs, 2, none⟩) hBs _, m3.trans (Keep.setCell bs _ 2 _)⟩
        rw [heap_set HBO.out 2 _]
        rfl
      · obtain ⟨cnt', hys, hlk, hrg, hlt, hgr, hsz'⟩ := H4.out
        obtain ⟨m1, m2, m3⟩ := HMR.out
        have hrb : r ≠ bs := fun e => by
          obtain ⟨es, c, h, _⟩ := HOW.out
          rw [e, HB2.out] at h
          cases h
        have hl' : (yk, ys) = l := by
          have h1 := HLF.out _ hlk
          rw [HM2.out.has _ hys, HL.out, memB_iff] at h1
          simpa using h1
        have hcnt : cnt = 1 ∧ cnt' = 0 := by
          rcases HCO.out with ⟨h2, _⟩ | ⟨h2, _⟩ <;> omega
        have gE : ∀ ob, w4.grownBy (((w4.setCell ⟨bs, 0, none⟩ (.bool yk)).setCell ⟨bs, 1, none⟩ (.string ys)).alloc ob) (some bs) := fun ob => ((grown_set w4 bs 0 _).trans (grown_set _ bs 1 _)).trans (World.grownBy_alloc _ _ _)
        have hrgE := hrg.kept (gE (.cells #[.bool yk, .string ys] 52)) (by simpa using hrb) (by simp; omega)
        have b4 : Below B W w4 := m2.grown hgr (by omega) (fun k e => by cases e; omega)
        have k4 : Keep bs W w4 := fun k ob hk ho hb => by
          have hkl := (Array.getElem?_eq_some_iff.1 hk).1
          have h5 := m3 k ob hk ho hb
          exact (hgr.block k (Array.getElem?_eq_some_iff.1 h5).1 (by simp; omega)).trans h5
        obtain ⟨z1, z2, z3⟩ := put_one (W := W) (yk, ys) V0.out hBs b4 k4
        refine ⟨⟨_, cnt', (yk, ys), hrgE, fun kl h => HLF.out kl (by simp at h; exact h.1), .inr ⟨hcnt.2, hl'⟩, ?_, ?_, z2.alloc ?_ _, z3.trans (Keep.alloc bs _ _), ?_⟩, ?_⟩
        · exact (Below.heap_alloc _ _ _ (Array.getElem?_eq_some_iff.1 z1).1).trans z1
        · exact hMk.out _ _ _ _ (hMk.out _ _ _ _ m1 hgr (fun k e => by cases e; exact .inr (by omega))) (gE _) (fun k e => by cases e; exact .inl rfl)
        · have h6 := z2.size
          omega
        · have h6 := (gE (.cells #[.bool yk, .string ys] 52)).size
          omega
        · have h7 := hrgE.left_eq
          have h8 := HRG.out.left_eq
          omega
  · have hsz : Hid (Maps.size (D.del (klOf x)) = (dropI M x).length) := HSZ.out
    obtain ⟨m, hmm⟩ : ∃ m, m = (dropI M x).length := ⟨_, rfl⟩
    have hm2 : 2 ≤ m := by omega
    have hmI : ((m : Int) == 1) = false := by simp; omega
    rw [← hmm] at hsz
    have HM := (show Hid (m = (dropI M x).length) from hmm)
    clear hmm hone
    go_wp2_with (at_len; refine wpList_len_own _ rfl _ 70 rfl 52 4 Yba.underlying70 (plainElem Yba.prog 4) r n (D.del (klOf x)) rfl HOW.out ?_; rw [hsz.out])
    go_end0
    exact ⟨zE, some r, rfl, HB2.out, .inr ⟨by rw [← HM.out]; exact hm2, rfl, rfl⟩, HMS2.out, hB2.out, hK2.out⟩

/-- s.remove(it). -/
theorem remove_any (B bs n : Nat) (M : List It) (x : It) (hs : x.2.size ≤ maxLen) (W : World) (h : SetIs B W bs M n) :
    Calls Yba.prog 14 #[.pointer (some ⟨bs, 0, none⟩), .agg #[.bool x.1, .string x.2]] W fun e W' => e = .returned (.tuple #[]) ∧ SetIs B W' bs (dropI M x) n ∧ Below B W W' ∧ Keep bs W W' := by
  obtain ⟨one, mp, hb, hBs, hG, hh⟩ := h
  have hd := hG.drop x
  rcases hh with ⟨rfl, rfl, rfl⟩ | ⟨rfl, rfl⟩ | ⟨h2, rfl, r, D, rfl, hBr, hown, hm⟩
  · refine (remove_one B bs n x zE W hb hBs).mono ?_
    rintro e W' ⟨o, he, h1, h2, h3, h4, h5, _⟩
    have ho : o = zE := by
      by_cases e : x = zE
      · exact h1 e
      · exact h2 e
    exact ⟨he, ⟨o, none, h3, hBs, hd, .inl ⟨rfl, ho, rfl⟩⟩, h4, h5⟩
  · refine (remove_one B bs n x one W hb hBs).mono ?_
    rintro e W' ⟨o, he, h1, h2, h3, h4, h5, _⟩
    by_cases ex : x = one
    · have e1 : dropI [one] x = [] := by unfold dropI; rw [List.filter_cons, (eqI_iff one x).2 ex.symm]; rfl
      rw [e1] at hd ⊢
      exact ⟨he, ⟨o, none, h3, hBs, hd, .inl ⟨rfl, h1 ex, rfl⟩⟩, h4, h5⟩
    · have e1 : dropI [one] x = [one] := by unfold dropI; rw [List.filter_cons, (eqI_false one x).2 (Ne.symm ex)]; rfl
      rw [e1] at hd ⊢
      have ho := h2 ex
      subst ho
      exact ⟨he, ⟨o, none, h3, hBs, hd, .inr (.inl ⟨rfl, rfl⟩)⟩, h4, h5⟩
  · have hrb : r ≠ bs := fun e => by
      obtain ⟨es, c, h, _⟩ := hown
      rw [e, hb] at h
      cases h
    have lr := hown.lt
    refine (remove_map B bs r n D M x hs W hb hBs hG h2 hBr (fun V D => V.ownsMap Yba.prog 52 (plainElem Yba.prog 4) r n D) (fun _ _ h => h)
      (fun V V' D row h hg hr => h.kept hg (fun e => by rcases hr r e.symm with h | h <;> omega))
      (fun V D h => ?_) hown hm).mono ?_
    · obtain ⟨w2, hrun, ho2, ht⟩ := h.drop law Yba.underlying70 (keyOf_enc x hs) 0
      exact ⟨w2, fun ty => by have := hrun; unfold enc at this; exact this, ho2, ht⟩
    · rintro e W' ⟨one, mp, he, hb', hc, hms, hB, hK⟩
      refine ⟨he, ⟨one, mp, hb', hBs, hd, ?_⟩, hB, hK⟩
      rcases hc with ⟨h1, h3⟩ | ⟨h1, h3, h4⟩
      · exact .inr (.inl ⟨h1, h3⟩)
      · exact .inr (.inr ⟨h1, h3, r, _, h4, hBr, hms, hm.del (hown.tidy law) hG.nodup x hs⟩)
end Go.Proofs.Ybulkafic
