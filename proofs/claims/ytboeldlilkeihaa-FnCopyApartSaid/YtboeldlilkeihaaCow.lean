/- A node copied where it is shared. -/
import Derived.Test.YtboeldlilkeihaaCopy
import Derived.Test.YtboeldlilkeihaaLst
import Derived.Deep.DeepCutAuto
import Derived.Test.YtboeldlilkeihaaHeap
set_option linter.unusedSimpArgs false
set_option linter.unusedVariables false
/- The contract of a node's 'copy': the same entries in a new node with a list of its own. -/
namespace Go
open Go.RowKit Go.Bx
section
variable (w : World) (p q q' : Nat) (ic c : Int) (rc : Nat → R)
@[go_sem] theorem World.setCell_list_tt : (w.putN p ⟨ic, true, c, q, rc⟩).setCell ⟨p, 259, none⟩ (.slice (some ⟨q', 0, none⟩) 64 64) = w.putN p ⟨ic, true, c, q', rc⟩ := by
  refine World.setCell_putN _ _ _ _ _ _ fun k hk => ?_
  match k, hk with
  | 0, _ => rfl
  | 1, _ => rfl
  | 2, _ => rfl
  | k + 3, hk => simp only [ndCell]; repeat' split
                 all_goals first | rfl | omega
@[go_sem] theorem World.setCell_list_tf : (w.putN p ⟨ic, true, c, q, rc⟩).setCell ⟨p, 260, none⟩ (.slice none 0 0) = w.putN p ⟨ic, true, c, q, rc⟩ := by
  refine World.setCell_putN _ _ _ _ _ _ fun k hk => ?_
  match k, hk with
  | 0, _ => rfl
  | 1, _ => rfl
  | 2, _ => rfl
  | k + 3, hk => simp only [ndCell]; repeat' split
                 all_goals first | rfl | omega
@[go_sem] theorem World.setCell_list_ft : (w.putN p ⟨ic, false, c, q, rc⟩).setCell ⟨p, 259, none⟩ (.slice none 0 0) = w.putN p ⟨ic, false, c, q, rc⟩ := by
  refine World.setCell_putN _ _ _ _ _ _ fun k hk => ?_
  match k, hk with
  | 0, _ => rfl
  | 1, _ => rfl
  | 2, _ => rfl
  | k + 3, hk => simp only [ndCell]; repeat' split
                 all_goals first | rfl | omega
@[go_sem] theorem World.setCell_list_ff : (w.putN p ⟨ic, false, c, q, rc⟩).setCell ⟨p, 260, none⟩ (.slice (some ⟨q', 0, none⟩) 64 64) = w.putN p ⟨ic, false, c, q', rc⟩ := by
  refine World.setCell_putN _ _ _ _ _ _ fun k hk => ?_
  match k, hk with
  | 0, _ => rfl
  | 1, _ => rfl
  | 2, _ => rfl
  | k + 3, hk => simp only [ndCell]; repeat' split
                 all_goals first | rfl | omega
end
end Go
namespace Go.Proofs.Ytboeldlilkeihaa
open Go.RowKit Go.Bx
end Go.Proofs.Ytboeldlilkeihaa
namespace Go
open Go.RowKit Go.Bx Go.Proofs.Ytboeldlilkeihaa
theorem ListAt.cell {w : World} {q : Nat} {T : TypeId} {f : Nat → Value} (h : ListAt w q T f) {i : Nat} (hi : i < 64) : w.cell? ⟨q, i, none⟩ = some (f i) := by
  have hl := h.lt
  rw [← h.self]; exact World.cell_putL _ _ _ _ _ hl hi
end Go
namespace Go.Proofs.Ytboeldlilkeihaa
open Go.RowKit Go.Bx
theorem size_node : (Try.prog.info? 110).map (·.size) = some 261 := by kernel_rfl
theorem ndCells_one (N : Nd) : (ndCells N).all (·.oneCell') = true := by
  rw [Array.all_eq_true]
  intro i hi
  rw [size_ndCells] at hi
  have := ndCells_get N i hi
  rw [Array.getElem?_eq_getElem (by rw [size_ndCells]; exact hi)] at this
  rw [Option.some.inj this]
  exact ndCell_one N i
set_option maxRecDepth 100000 in
set_option maxHeartbeats 3200000 in
theorem copyNode_t (w : World) (t p q : Nat) (ic icL : Int) (n : Nat) (E : Ent) (ht0 : w.cell? ⟨t, 0, none⟩ = some (.int .u64 ic)) (hN : NodeAt w p ⟨icL, true, n, q, fun i => (E i).1⟩) (hL : ListAt w q (elT true) (fE E)) (hf : Fit true (fE E)) (hpq : p ≠ q) (h64 : n ≤ 64) :
    Calls Try.prog 87 #[.pointer (some ⟨t, 0, none⟩), .pointer (some ⟨p, 0, none⟩)] w fun e w' => ∃ p' q', e = .returned (.pointer (some ⟨p', 0, none⟩)) ∧ w.heap.size ≤ p' ∧ w.heap.size ≤ q' ∧ p' ≠ q' ∧
      NodeAt w' p' ⟨icL, true, n, q', fun i => (E i).1⟩ ∧ ListAt w' q' (elT true) (mv2 (zeroE true) (fE E) 0 0 n) ∧ Mix.Ex w w' := by
  have n64 : (n : Int) ≤ 64 := by omega
  obtain ⟨g, hg⟩ := hf
  have HG := Lib.hid hg
  go_enter Try.func87, Try.ntmps87
  go_wp2_with fail
  refine (leaf_c _ _ _ hN).mono ?_
  rintro e w1 ⟨rfl, rfl⟩
  go_wp2_with fail
  refine (newNode_c _ t ic true ht0).mono ?_
  rintro e w1 ⟨p', q', rfl, hN', hL', hpq', hp', hq', hx1⟩
  have hN1 := hN.ex hx1
  have hL1 := hL.ex hx1
  have hpl := hN.lt
  have hql := hL.lt
  have d1 : p ≠ p' := by omega
  have d2 : p ≠ q' := by omega
  have d3 : q ≠ p' := by omega
  have d4 : q ≠ q' := by omega
  have d5 : q' ≠ p' := hpq'.symm
  have hN' : NodeAt w1 p' ⟨ic, true, 0, q', fun _ => R0⟩ := hN'
  obtain ⟨w2, rfl, hp2, hq2⟩ := hN'.opn2 hL'
  have hN2 : NodeAt w2 p ⟨icL, true, n, q, fun i => (E i).1⟩ := hN1.of_block (by
    simp only [World.putN, World.putL]
    rw [Array.getElem?_setIfInBounds_ne d2.symm, Array.getElem?_setIfInBounds_ne d1.symm])
  have hL2 : ListAt w2 q (elT true) (fE E) := hL1.of_block (by
    simp only [World.putN, World.putL]
    rw [Array.getElem?_setIfInBounds_ne d4.symm, Array.getElem?_setIfInBounds_ne d3.symm])
  have c2 := hN2.cell2
  dsimp only at c2
  clear hN' hL' hg
  go_wp2_with fail
  (refine Mix.wp_region_dr (by kernel_rfl) (by kernel_rfl) ?_; (repeat (go_big_quiet_step (fail))); refine wpQuiet_nil ?_; intro nq)
  have hNr : NodeAt (((w2.putN p' ⟨ic, true, 0, q', fun _ => R0⟩).putL q' (elT true) (zeroE true)).drewN nq) p ⟨icL, true, n, q, fun i => (E i).1⟩ := hN1.drewN nq
  have hNw : NodeAt (((w2.putN p' ⟨ic, true, 0, q', fun _ => R0⟩).putL q' (elT true) (zeroE true)).drewN nq) p' ⟨ic, true, 0, q', fun _ => R0⟩ := ((NodeAt.put _ hp2).putL_other d5).drewN nq
  have hset : (((w2.putN p' ⟨ic, true, 0, q', fun _ => R0⟩).putL q' (elT true) (zeroE true)).drewN nq).setRow p' (ndCells ⟨icL, true, n, q, fun i => (E i).1⟩) = ((w2.putN p' ⟨icL, true, n, q, fun i => (E i).1⟩).putL q' (elT true) (zeroE true)).drewN nq := by
    have e : ((w2.putN p' ⟨ic, true, 0, q', fun _ => R0⟩).putL q' (elT true) (zeroE true)) = (w2.putL q' (elT true) (zeroE true)).putN p' ⟨ic, true, 0, q', fun _ => R0⟩ := (World.putN_putL _ _ _ _ _ _ d5).symm
    show (((w2.putN p' ⟨ic, true, 0, q', fun _ => R0⟩).putL q' (elT true) (zeroE true)).setRow p' _).drewN nq = _
    rw [e, World.setRow_putN _ _ _ _ _ rfl, World.putN_putL _ _ _ _ _ _ d5]
  obtain ⟨C, hC⟩ : ∃ C, ndCells ⟨icL, true, n, q, fun i => (E i).1⟩ = C := ⟨_, rfl⟩
  have s1 : (Try.prog.info? 110).map (·.size) = some C.size := by rw [← hC, size_ndCells]; exact size_node
  have s2 : C.all (·.oneCell') = true := by rw [← hC]; exact ndCells_one _
  obtain ⟨C', hC'⟩ : ∃ C', ndCells ⟨ic, true, 0, q', fun _ => R0⟩ = C' := ⟨_, rfl⟩
  have s3 : C'.size = C.size := by rw [← hC, ← hC', size_ndCells, size_ndCells]
  obtain ⟨w3, hw3⟩ : ∃ w3, ((w2.putN p' ⟨ic, true, 0, q', fun _ => R0⟩).putL q' (elT true) (zeroE true)).drewN nq = w3 := ⟨_, rfl⟩
  rw [hw3] at hNr hNw hset ⊢
  have g1 : w3.heap[p]? = some (.cells C 110 (0, 0)) := by rw [← hC]; exact hNr
  have g2 : w3.heap[p']? = some (.cells C' 110 (0, 0)) := by rw [← hC']; exact hNw
  rw [hC] at hset
  have HSET := Lib.hid hset
  clear hset hC hC' hNr hNw hw3
  go_upto_region 4 with (first
    | (refine wpList_load_row (o := ⟨some 23, _, _, _, _, _⟩) rfl 110 (.tmp 22) rfl p rfl _ C _ _ g1 Try.underlying110 rfl s1 ?_)
    | (refine wpList_store_row (o := ⟨none, .store 110 _ _, _, _, _, _⟩) rfl 110 (.tmp 24) (.tmp 23) rfl p' C rfl rfl _ C' g2 s1 s3 s2 ?_))
  rw [HSET.out]
  clear HSET g1 g2 s1 s2 s3
  go_wp2_with fail
  refine (leaf_c _ p' ⟨icL, true, n, q', fun i => (E i).1⟩ (((NodeAt.put _ hp2).putL_other d5).drewN _)).mono ?_
  rintro e w4 ⟨rfl, rfl⟩
  go_wp2_with fail
  have HI1 : ∀ m, Calls Try.prog 76 #[.pointer (some ⟨p', 0, none⟩)] ((((w2.putN p' ⟨icL, true, n, q', fun i => (E i).1⟩).putL q' (elT true) (zeroE true))).drewN m) fun e w' => e = .returned (.slice (some ⟨q', 0, none⟩) 64 64) ∧ w' = ((((w2.putN p' ⟨icL, true, n, q', fun i => (E i).1⟩).putL q' (elT true) (zeroE true))).drewN m) := fun m =>
    items_c _ p' ⟨icL, true, n, q', fun i => (E i).1⟩ (((NodeAt.put _ hp2).putL_other d5).drewN m) rfl
  have HI2 : ∀ m, Calls Try.prog 76 #[.pointer (some ⟨p, 0, none⟩)] ((((w2.putN p' ⟨icL, true, n, q', fun i => (E i).1⟩).putL q' (elT true) (zeroE true))).drewN m) fun e w' => e = .returned (.slice (some ⟨q, 0, none⟩) 64 64) ∧ w' = ((((w2.putN p' ⟨icL, true, n, q', fun i => (E i).1⟩).putL q' (elT true) (zeroE true))).drewN m) := fun m =>
    items_c _ p ⟨icL, true, n, q, fun i => (E i).1⟩ (((hN2.putN_other d1.symm).putL_other d2.symm).drewN m) rfl
  (refine Mix.wp_region_drw 14 [0] (by kernel_rfl) (by kernel_rfl) ?_; simp only [List.take_succ_cons, List.take_zero, List.drop_succ_cons, List.drop_zero]; (repeat (go_big_quiet_step ((go_at_call 76; first | (with_reducible exact Mix.calls_q (HI1 _) ⟨_, rfl⟩) | (with_reducible exact Mix.calls_q (HI2 _) ⟨_, rfl⟩))))); refine wpQuiet_nil ?_)

  have hcp : ∀ m, (Builtin.copy_ #[43, 43] 3 #[.slice (some ⟨q', 0, none⟩) n 64, .slice (some ⟨q, 0, none⟩) n 64]).run Try.prog (((w2.putN p' ⟨icL, true, n, q', fun i => (E i).1⟩).putL q' (elT true) (zeroE true)).drewN m) = .ok (goInt n) (((w2.putN p' ⟨icL, true, n, q', fun i => (E i).1⟩).putL q' (elT true) (mv2 (zeroE true) (fE E) 0 0 n)).drewN m) := fun m => copyL_run ((w2.putN p' ⟨icL, true, n, q', fun i => (E i).1⟩).drewN m) true q' q (elT true) (zeroE true) (fE E) 3 0 n 64 0 n 64 n (by simp; exact hq2) (Nat.min_self n) (by omega) (by omega) (fun i => by rw [HG.out]; rfl) (fun j hj => by
    rw [World.cell_putL_other _ _ _ _ _ _ _ d4]
    show (w2.putN p' ⟨icL, true, n, q', fun i => (E i).1⟩).cell? ⟨q, j, none⟩ = _
    rw [World.cell_putN_other _ _ _ _ _ _ d3]
    exact hL2.cell hj)
  refine Mix.wpTl_copy (.tmp 41) (.tmp 48) 43 43 rfl (.slice (some ⟨q', 0, none⟩) n 64) (.slice (some ⟨q, 0, none⟩) n 64) _ _ rfl rfl hcp trivial ?_
  (simp only [Act.put, List.setIfInBounds_toArray, List.set_cons_zero, List.set_cons_succ, List.take_succ_cons, List.take_zero, List.drop_succ_cons, List.drop_zero])
  (refine wpQuiet_nil ?_; intro nq)
  go_wp2_with fail
  go_ret
  refine ⟨p', q', rfl, hp', hq', hpq', ?_, ?_, ?_⟩
  · exact (((NodeAt.put _ hp2).putL_other d5).drewN _).drewN _
  · exact ((ListAt.put _ _ (by simp; exact hq2)).drewN _).drewN _
  · have hx2 := (hx1.putN hp' ⟨icL, true, n, q', fun i => (E i).1⟩).putL hq' (elT true) (mv2 (zeroE true) (fE E) 0 0 n)
    rw [World.putN_putL _ _ _ _ _ _ d5, World.putN_putN, World.putL_putL] at hx2
    exact (hx2.drewN _).drewN _
set_option maxRecDepth 100000 in
set_option maxHeartbeats 3200000 in
theorem copyNode_f (w : World) (t p q : Nat) (ic icL : Int) (n : Nat) (E : Ent) (ht0 : w.cell? ⟨t, 0, none⟩ = some (.int .u64 ic)) (hN : NodeAt w p ⟨icL, false, n, q, fun i => (E i).1⟩) (hL : ListAt w q (elT false) (fE E)) (hf : Fit false (fE E)) (hpq : p ≠ q) (h64 : n ≤ 64) :
    Calls Try.prog 87 #[.pointer (some ⟨t, 0, none⟩), .pointer (some ⟨p, 0, none⟩)] w fun e w' => ∃ p' q', e = .returned (.pointer (some ⟨p', 0, none⟩)) ∧ w.heap.size ≤ p' ∧ w.heap.size ≤ q' ∧ p' ≠ q' ∧
      NodeAt w' p' ⟨icL, false, n, q', fun i => (E i).1⟩ ∧ ListAt w' q' (elT false) (mv2 (zeroE false) (fE E) 0 0 n) ∧ Mix.Ex w w' := by
  have n64 : (n : Int) ≤ 64 := by omega
  obtain ⟨g, hg⟩ := hf
  have HG := Lib.hid hg
  go_enter Try.func87, Try.ntmps87
  go_wp2_with fail
  refine (leaf_c _ _ _ hN).mono ?_
  rintro e w1 ⟨rfl, rfl⟩
  go_wp2_with fail
  refine (newNode_c _ t ic false ht0).mono ?_
  rintro e w1 ⟨p', q', rfl, hN', hL', hpq', hp', hq', hx1⟩
  have hN1 := hN.ex hx1
  have hL1 := hL.ex hx1
  have hpl := hN.lt
  have hql := hL.lt
  have d1 : p ≠ p' := by omega
  have d2 : p ≠ q' := by omega
  have d3 : q ≠ p' := by omega
  have d4 : q ≠ q' := by omega
  have d5 : q' ≠ p' := hpq'.symm
  have hN' : NodeAt w1 p' ⟨ic, false, 0, q', fun _ => R0⟩ := hN'
  obtain ⟨w2, rfl, hp2, hq2⟩ := hN'.opn2 hL'
  have hN2 : NodeAt w2 p ⟨icL, false, n, q, fun i => (E i).1⟩ := hN1.of_block (by
    simp only [World.putN, World.putL]
    rw [Array.getElem?_setIfInBounds_ne d2.symm, Array.getElem?_setIfInBounds_ne d1.symm])
  have hL2 : ListAt w2 q (elT false) (fE E) := hL1.of_block (by
    simp only [World.putN, World.putL]
    rw [Array.getElem?_setIfInBounds_ne d4.symm, Array.getElem?_setIfInBounds_ne d3.symm])
  have c2 := hN2.cell2
  dsimp only at c2
  clear hN' hL' hg
  go_wp2_with fail
  (refine Mix.wp_region_dr (by kernel_rfl) (by kernel_rfl) ?_; (repeat (go_big_quiet_step (fail))); refine wpQuiet_nil ?_; intro nq)
  have hNr : NodeAt (((w2.putN p' ⟨ic, false, 0, q', fun _ => R0⟩).putL q' (elT false) (zeroE false)).drewN nq) p ⟨icL, false, n, q, fun i => (E i).1⟩ := hN1.drewN nq
  have hNw : NodeAt (((w2.putN p' ⟨ic, false, 0, q', fun _ => R0⟩).putL q' (elT false) (zeroE false)).drewN nq) p' ⟨ic, false, 0, q', fun _ => R0⟩ := ((NodeAt.put _ hp2).putL_other d5).drewN nq
  have hset : (((w2.putN p' ⟨ic, false, 0, q', fun _ => R0⟩).putL q' (elT false) (zeroE false)).drewN nq).setRow p' (ndCells ⟨icL, false, n, q, fun i => (E i).1⟩) = ((w2.putN p' ⟨icL, false, n, q, fun i => (E i).1⟩).putL q' (elT false) (zeroE false)).drewN nq := by
    have e : ((w2.putN p' ⟨ic, false, 0, q', fun _ => R0⟩).putL q' (elT false) (zeroE false)) = (w2.putL q' (elT false) (zeroE false)).putN p' ⟨ic, false, 0, q', fun _ => R0⟩ := (World.putN_putL _ _ _ _ _ _ d5).symm
    show (((w2.putN p' ⟨ic, false, 0, q', fun _ => R0⟩).putL q' (elT false) (zeroE false)).setRow p' _).drewN nq = _
    rw [e, World.setRow_putN _ _ _ _ _ rfl, World.putN_putL _ _ _ _ _ _ d5]
  obtain ⟨C, hC⟩ : ∃ C, ndCells ⟨icL, false, n, q, fun i => (E i).1⟩ = C := ⟨_, rfl⟩
  have s1 : (Try.prog.info? 110).map (·.size) = some C.size := by rw [← hC, size_ndCells]; exact size_node
  have s2 : C.all (·.oneCell') = true := by rw [← hC]; exact ndCells_one _
  obtain ⟨C', hC'⟩ : ∃ C', ndCells ⟨ic, false, 0, q', fun _ => R0⟩ = C' := ⟨_, rfl⟩
  have s3 : C'.size = C.size := by rw [← hC, ← hC', size_ndCells, size_ndCells]
  obtain ⟨w3, hw3⟩ : ∃ w3, ((w2.putN p' ⟨ic, false, 0, q', fun _ => R0⟩).putL q' (elT false) (zeroE false)).drewN nq = w3 := ⟨_, rfl⟩
  rw [hw3] at hNr hNw hset ⊢
  have g1 : w3.heap[p]? = some (.cells C 110 (0, 0)) := by rw [← hC]; exact hNr
  have g2 : w3.heap[p']? = some (.cells C' 110 (0, 0)) := by rw [← hC']; exact hNw
  rw [hC] at hset
  have HSET := Lib.hid hset
  clear hset hC hC' hNr hNw hw3
  go_upto_region 4 with (first
    | (refine wpList_load_row (o := ⟨some 23, _, _, _, _, _⟩) rfl 110 (.tmp 22) rfl p rfl _ C _ _ g1 Try.underlying110 rfl s1 ?_)
    | (refine wpList_store_row (o := ⟨none, .store 110 _ _, _, _, _, _⟩) rfl 110 (.tmp 24) (.tmp 23) rfl p' C rfl rfl _ C' g2 s1 s3 s2 ?_))
  rw [HSET.out]
  clear HSET g1 g2 s1 s2 s3
  go_wp2_with fail
  refine (leaf_c _ p' ⟨icL, false, n, q', fun i => (E i).1⟩ (((NodeAt.put _ hp2).putL_other d5).drewN _)).mono ?_
  rintro e w4 ⟨rfl, rfl⟩
  go_wp2_with fail
  have HI1 : ∀ m, Calls Try.prog 63 #[.pointer (some ⟨p', 0, none⟩)] ((((w2.putN p' ⟨icL, false, n, q', fun i => (E i).1⟩).putL q' (elT false) (zeroE false))).drewN m) fun e w' => e = .returned (.slice (some ⟨q', 0, none⟩) 64 64) ∧ w' = ((((w2.putN p' ⟨icL, false, n, q', fun i => (E i).1⟩).putL q' (elT false) (zeroE false))).drewN m) := fun m =>
    children_c _ p' ⟨icL, false, n, q', fun i => (E i).1⟩ (((NodeAt.put _ hp2).putL_other d5).drewN m) rfl
  have HI2 : ∀ m, Calls Try.prog 63 #[.pointer (some ⟨p, 0, none⟩)] ((((w2.putN p' ⟨icL, false, n, q', fun i => (E i).1⟩).putL q' (elT false) (zeroE false))).drewN m) fun e w' => e = .returned (.slice (some ⟨q, 0, none⟩) 64 64) ∧ w' = ((((w2.putN p' ⟨icL, false, n, q', fun i => (E i).1⟩).putL q' (elT false) (zeroE false))).drewN m) := fun m =>
    children_c _ p ⟨icL, false, n, q, fun i => (E i).1⟩ (((hN2.putN_other d1.symm).putL_other d2.symm).drewN m) rfl
  (refine Mix.wp_region_drw 14 [0] (by kernel_rfl) (by kernel_rfl) ?_; simp only [List.take_succ_cons, List.take_zero, List.drop_succ_cons, List.drop_zero]; (repeat (go_big_quiet_step ((go_at_call 63; first | (with_reducible exact Mix.calls_q (HI1 _) ⟨_, rfl⟩) | (with_reducible exact Mix.calls_q (HI2 _) ⟨_, rfl⟩))))); refine wpQuiet_nil ?_)

  have hcp : ∀ m, (Builtin.copy_ #[105, 105] 3 #[.slice (some ⟨q', 0, none⟩) n 64, .slice (some ⟨q, 0, none⟩) n 64]).run Try.prog (((w2.putN p' ⟨icL, false, n, q', fun i => (E i).1⟩).putL q' (elT false) (zeroE false)).drewN m) = .ok (goInt n) (((w2.putN p' ⟨icL, false, n, q', fun i => (E i).1⟩).putL q' (elT false) (mv2 (zeroE false) (fE E) 0 0 n)).drewN m) := fun m => copyL_run ((w2.putN p' ⟨icL, false, n, q', fun i => (E i).1⟩).drewN m) false q' q (elT false) (zeroE false) (fE E) 3 0 n 64 0 n 64 n (by simp; exact hq2) (Nat.min_self n) (by omega) (by omega) (fun i => by rw [HG.out]; rfl) (fun j hj => by
    rw [World.cell_putL_other _ _ _ _ _ _ _ d4]
    show (w2.putN p' ⟨icL, false, n, q', fun i => (E i).1⟩).cell? ⟨q, j, none⟩ = _
    rw [World.cell_putN_other _ _ _ _ _ _ d3]
    exact hL2.cell hj)
  refine Mix.wpTl_copy (.tmp 56) (.tmp 63) 105 105 rfl (.slice (some ⟨q', 0, none⟩) n 64) (.slice (some ⟨q, 0, none⟩) n 64) _ _ rfl rfl hcp trivial ?_
  (simp only [Act.put, List.setIfInBounds_toArray, List.set_cons_zero, List.set_cons_succ, List.take_succ_cons, List.take_zero, List.drop_succ_cons, List.drop_zero])
  (refine wpQuiet_nil ?_; intro nq)
  go_wp2_with fail
  go_ret
  refine ⟨p', q', rfl, hp', hq', hpq', ?_, ?_, ?_⟩
  · exact (((NodeAt.put _ hp2).putL_other d5).drewN _).drewN _
  · exact ((ListAt.put _ _ (by simp; exact hq2)).drewN _).drewN _
  · have hx2 := (hx1.putN hp' ⟨icL, false, n, q', fun i => (E i).1⟩).putL hq' (elT false) (mv2 (zeroE false) (fE E) 0 0 n)
    rw [World.putN_putL _ _ _ _ _ _ d5, World.putN_putN, World.putL_putL] at hx2
    exact (hx2.drewN _).drewN _
end Go.Proofs.Ytboeldlilkeihaa
/- The contract of 'cow': what a pointer leads to may be written behind it. -/
namespace Go.Proofs.Ytboeldlilkeihaa
open Go.RowKit Go.Bx
theorem copyNode_c (w : World) (t p q : Nat) (ic icL : Int) (b : Bool) (n : Nat) (E : Ent) (ht0 : w.cell? ⟨t, 0, none⟩ = some (.int .u64 ic)) (hN : NodeAt w p ⟨icL, b, n, q, fun i => (E i).1⟩) (hL : ListAt w q (elT b) (fE E)) (hf : Fit b (fE E)) (hpq : p ≠ q) (h64 : n ≤ 64) :
    Calls Try.prog 87 #[.pointer (some ⟨t, 0, none⟩), .pointer (some ⟨p, 0, none⟩)] w fun e w' => ∃ p' q', e = .returned (.pointer (some ⟨p', 0, none⟩)) ∧ w.heap.size ≤ p' ∧ w.heap.size ≤ q' ∧ p' ≠ q' ∧
      NodeAt w' p' ⟨icL, b, n, q', fun i => (E i).1⟩ ∧ ListAt w' q' (elT b) (mv2 (zeroE b) (fE E) 0 0 n) ∧ Mix.Ex w w' := by
  cases b
  · exact copyNode_f w t p q ic icL n E ht0 hN hL hf hpq h64
  · exact copyNode_t w t p q ic icL n E ht0 hN hL hf hpq h64
/-- What a slot leads to is the tree's own behind 'cow'. -/
def CowPost (c : Int) (Z : Nat → Prop) (w : World) (a : Addr) (h : Nat) (t : Nde (El h)) (s : Nat → Prop) (e : Ending) (w' : World) : Prop :=
  e = .returned (.tuple #[]) ∧ ∃ (w1 : World) (p q : Nat) (ic : Int) (X : Nat → R × An h) (s' : Nat → Prop) (d : Nat), Mix.Ex w w1 ∧ OwnN c Z w1 h p q ic t X s' ∧ Grew w s s' ∧ w' = (w1.setCell a (.pointer (some ⟨p, 0, none⟩))).drewN d
theorem zeroE_zE (b : Bool) (i : Nat) : zeroE b i = (if b then .int .i64 0 else .pointer none) := rfl
/-- The copy of a node is a node of the tree's own. -/
theorem own_copy {c : Int} {Z : Nat → Prop} {w w1 : World} {h p q p' q' : Nat} {ic : Int} {t : Nde (El h)} {X : Nat → R × An h} {s : Nat → Prop} (hx : Mix.Ex w w1) (hn : NodeX w h p q ic t.n X) (hE : t.E = mp An.t X) (he : ∀ e ∈ lst t.n X, ElAt c Z w h e.2.v e.2.t e.2.s)
    (ho : OwnedC c Z ic w s p q t.n X ∨ FrozenC c Z s p q ic t.n X) (hp' : w.heap.size ≤ p') (hq' : w.heap.size ≤ q') (hpq : p' ≠ q') (hN : NodeAt w1 p' ⟨ic, leafB h, t.n, q', fun i => (mp An.v X i).1⟩) (hL : ListAt w1 q' (elT (leafB h)) (mv2 (zeroE (leafB h)) (fE (mp An.v X)) 0 0 t.n)) :
    ∃ X' s', OwnN c Z w1 h p' q' ic t X' s' ∧ Grew w s s' := by
  obtain ⟨X', hX'⟩ : ∃ X' : Nat → R × An h, X' = fun i => if i < t.n then X i else ((X i).1, ⟨zeroE (leafB h) i, (X i).2.t, fun _ => False⟩) := ⟨_, rfl⟩
  have e1 : ∀ i, (X' i).1 = (X i).1 := fun i => by rw [hX']; dsimp only; split <;> rfl
  have e2 : fE (mp An.v X') = mv2 (zeroE (leafB h)) (fE (mp An.v X)) 0 0 t.n := by
    funext i
    rw [hX']
    unfold fE mp mv2
    dsimp only
    by_cases hi : i < t.n
    · rw [if_pos hi, if_pos (by omega)]; simp
    · rw [if_neg hi, if_neg (by omega)]
  have e3 : mp An.t X' = mp An.t X := by
    funext i
    rw [hX']
    unfold mp
    dsimp only
    split <;> rfl
  have e4 : lst t.n X' = lst t.n X := lst_congr fun i hi => by rw [hX']; exact if_pos hi
  have hlt : ∀ e ∈ lst t.n X, ∀ b, e.2.s b → b < w.heap.size := fun e hm b hb => (he e hm).lt hb
  have hfit : Fit (leafB h) (fE (mp An.v X')) := by
    rw [e2]
    have h0 := hn.fit
    revert h0
    generalize fE (mp An.v X) = f
    generalize leafB h = b
    intro h0
    cases b
    · obtain ⟨g, rfl⟩ := h0
      exact ⟨fun i => if 0 ≤ i ∧ i < 0 + t.n then g (0 + (i - 0)) else none, by
        funext i
        simp only [mv2]
        by_cases hi : 0 ≤ i ∧ i < 0 + t.n
        · rw [if_pos hi, if_pos hi]
        · rw [if_neg hi, if_neg hi]; rfl⟩
    · obtain ⟨g, rfl⟩ := h0
      exact ⟨fun i => if 0 ≤ i ∧ i < 0 + t.n then g (0 + (i - 0)) else 0, by
        funext i
        simp only [mv2]
        by_cases hi : 0 ≤ i ∧ i < 0 + t.n
        · rw [if_pos hi, if_pos hi]
        · rw [if_neg hi, if_neg hi]; rfl⟩
  have hsep : (lst t.n X').Pairwise Sep := by
    rw [e4]
    rcases ho with ho | ho
    · exact ho.sep
    · exact List.Pairwise.imp_of_mem (fun {a b} ha _ _ k h1 => (ho.sub a ha k h1).elim) (List.pairwise_of_forall (R := fun _ _ => True) (fun _ _ => trivial))
  have hicc : ic = c ∨ ∃ k, Z k := by
    rcases ho with ho | ho
    · exact ho.icc
    · exact .inr ⟨p, ho.zp⟩
  refine ⟨X', fun b => b = p' ∨ b = q' ∨ ∃ e ∈ lst t.n X, e.2.s b, ⟨⟨?_, ?_, hfit, hpq, hn.n64⟩, by rw [hE, e3], ?_, ⟨.inl rfl, .inr (.inl rfl), ?_, ?_, hsep, hicc⟩⟩, ?_⟩
  · have : (fun i => (X' i).1) = fun i => (mp An.v X i).1 := funext e1
    rw [this]; exact hN
  · rw [e2]; exact hL
  · rw [e4]
    exact fun e hm => (he e hm).frame (S := fun _ => False) (fun _ h => h.elim) (Chg.ex hx) (fun _ h => h.elim)
  · rintro b (rfl | rfl | ⟨e, hm, hb⟩)
    · exact hN.lt
    · exact hL.lt
    · exact Nat.lt_of_lt_of_le (hlt e hm b hb) hx.below.size
  · rw [e4]
    intro e hm b hb
    have := hlt e hm b hb
    exact ⟨.inr (.inr ⟨e, hm, hb⟩), by omega, by omega⟩
  · rintro b (rfl | rfl | ⟨e, hm, hb⟩)
    · exact .inr hp'
    · exact .inr hq'
    · rcases ho with ho | ho
      · exact .inl (ho.sub e hm b hb).1
      · exact (ho.sub e hm b hb).elim
set_option maxRecDepth 100000 in
set_option maxHeartbeats 1600000 in
theorem cow_c (c : Int) (Z : Nat → Prop) (w : World) (t ab ao h : Nat) (v : Value) (x : Nde (El h)) (s : Nat → Prop) (ht0 : w.cell? ⟨t, 0, none⟩ = some (.int .u64 c)) (ha : w.cell? ⟨ab, ao, none⟩ = some v) (hfr : w.frozen? ⟨ab, ao, none⟩ = false) (hE : ElAt c Z w (h + 1) v x s) :
    Calls Try.prog 80 #[.pointer (some ⟨t, 0, none⟩), .pointer (some ⟨ab, ao, none⟩)] w fun e w' => CowPost c Z w ⟨ab, ao, none⟩ h x s e w' := by
  obtain ⟨p, q, ic, X, rfl, hn, hXE, he, ho⟩ := hE
  have c0 := hn.nd.cell0
  dsimp only at c0
  have hal := World.block_lt_of_cell? w _ ha
  dsimp only at hal
  by_cases hic : ic = c
  · have ho' : OwnedC c Z ic w s p q x.n X := by
      rcases ho with ho | ho
      · exact ho
      · exact (ho.ne hic).elim
    have hb : (ic != c) = false := by simp [hic]
    go_enter Try.func80, Try.ntmps80
    go_wp2_with fail
    (refine Mix.wp_region_dr (by kernel_rfl) (by kernel_rfl) ?_; (repeat (go_big_quiet_step (fail))); refine wpQuiet_nil ?_; intro nq)
    go_wp2_with fail
    go_end0
    exact ⟨rfl, w, p, q, ic, X, s, _, Mix.Ex.refl _, ⟨hn, hXE, he, ho'⟩, Grew.refl _ _, by rw [World.setCell_self ha]⟩
  · have hb : (ic != c) = true := by simp [hic]
    have hcp := fun m => copyNode_c (w.drewN m) t p q c ic (leafB h) x.n (mp An.v X) ht0 (hn.nd.drewN m) (hn.ls.drewN m) hn.fit hn.pq hn.n64
    go_enter Try.func80, Try.ntmps80
    go_wp2_with fail
    (refine Mix.wp_region_dr (by kernel_rfl) (by kernel_rfl) ?_; (repeat (go_big_quiet_step (fail))); refine wpQuiet_nil ?_; intro nq)
    go_wp2_with fail
    refine (hcp _).mono ?_
    rintro e w1 ⟨p', q', rfl, hp', hq', hpq', hN, hL, hx⟩
    have hx := ((Mix.Ex.refl w).drewN _).trans hx
    obtain ⟨X', s', hO, hg⟩ := own_copy hx hn hXE he ho hp' hq' hpq' hN hL
    have ha1 := hx.cell ha
    have hf1 : w1.frozen? ⟨ab, ao, none⟩ = false := by
      obtain ⟨y, rfl⟩ := hx
      rw [World.frozen?_ext _ _ _ _ _ hal]; exact hfr
    clear hcp hN hL hn he ho c0 hXE ha hfr
    go_wp2_with fail
    go_end0
    exact ⟨rfl, w1, p', q', ic, X', s', 0, hx, hO, hg, rfl⟩
end Go.Proofs.Ytboeldlilkeihaa
