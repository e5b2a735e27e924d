/- The contract of 'newNode': an empty node with its list. -/
import Derived.Test.YtenokcfpmfoekaaNewA
set_option linter.unusedSimpArgs false
set_option linter.unusedVariables false
namespace Go.Proofs.Ytenokcfpmfoekaa
open Go.RowKit Go.Bx
attribute [local go_sem ↓] make_int make_ptr
theorem cells_leaf (ic : Int) (g : Nat) : (((Try.zeroCells83.setIfInBounds 0 (Value.int .u64 ic)).setIfInBounds 1 (Value.int .i8 1)).setIfInBounds 259 (Value.slice (some ⟨g, 0, none⟩) 64 64)) = ndCells (newNd ic true g) := by kernel_rfl
theorem cells_branch (ic : Int) (g : Nat) : (((Try.zeroCells83.setIfInBounds 0 (Value.int .u64 ic)).setIfInBounds 1 (Value.int .i8 2)).setIfInBounds 260 (Value.slice (some ⟨g, 0, none⟩) 64 64)) = ndCells (newNd ic false g) := by kernel_rfl
theorem ListAt.alloc_new (w : World) (T : TypeId) (f : Nat → Value) {q : Nat} (hq : w.heap.size = q) : ListAt (w.alloc (.cells (lsCells f) T)) q T f := by
  subst hq; exact heap_alloc_new w _
theorem NodeAt.alloc_new (w : World) (N : Nd) {p : Nat} (hp : w.heap.size = p) : NodeAt (w.alloc (.cells (ndCells N) 83)) p N := by
  subst hp; exact heap_alloc_new w _
set_option maxRecDepth 100000 in
set_option maxHeartbeats 400000 in
theorem newNode_t (w : World) (t : Nat) (ic : Int) (ht : w.cell? ⟨t, 0, none⟩ = some (.int .u64 ic)) :
    Calls Try.prog 66 #[.pointer (some ⟨t, 0, none⟩), .bool true] w fun e w' => ∃ p q, e = .returned (.pointer (some ⟨p, 0, none⟩)) ∧ NodeAt w' p (newNd ic true q) ∧ ListAt w' q (elT true) (zeroE true) ∧ p ≠ q ∧ w.heap.size ≤ p ∧ w.heap.size ≤ q ∧ Mix.Ex w w' := by
  go_enter Try.func66, Try.ntmps66
  go_wp2_with fail
  have htl := World.block_lt_of_cell? w _ ht
  dsimp only at htl
  (refine Mix.wp_region_new 4 [1, 1] (by kernel_rfl) (by kernel_rfl) ?_; simp only [List.take_succ_cons, List.take_zero, List.drop_succ_cons, List.drop_zero])
  (repeat (go_big_quiet_step (fail))); refine wpQuiet_nil ?_
  refine Mix.wpTl_dr (fun n K hK => ?_)
  go_simp
  refine ⟨_, ⟨n, rfl⟩, (Mix.Ex.refl _).alloc _, hK _ _ ((Mix.Ex.refl _).alloc _) ?_⟩
  (clear hK K; simp only [Act.put, List.setIfInBounds_toArray, List.set_cons_zero, List.set_cons_succ, List.take_succ_cons, List.take_zero, List.drop_succ_cons, List.drop_zero])
  (repeat (go_big_quiet_step (fail))); refine wpQuiet_nil ?_
  refine Mix.wpTl_dr (fun n K hK => ?_)
  go_simp
  rw [cells_leaf]
  have hx : Mix.Ex w ((w.alloc (.cells (lsCells (zeroE true)) 3)).alloc (.cells (ndCells (newNd ic true w.heap.size)) 83)) := ((Mix.Ex.refl _).alloc _).alloc _
  refine ⟨_, ⟨n, rfl⟩, hx, hK _ _ hx ?_⟩
  (clear hK K; simp only [Act.put, List.setIfInBounds_toArray, List.set_cons_zero, List.set_cons_succ, List.take_succ_cons, List.take_zero, List.drop_succ_cons, List.drop_zero])
  (repeat (go_big_quiet_step (fail)))
  (refine wpQuiet_nil ?_; intro nq)
  go_wp2_with fail
  go_ret
  refine ⟨w.heap.size + 1, w.heap.size, rfl, ?_, ?_, by omega, by omega, by omega, hx.drewN _⟩
  · exact (NodeAt.alloc_new _ _ (by simp)).drewN _
  · exact ((ListAt.alloc_new w _ _ rfl).ex ((Mix.Ex.refl _).alloc _)).drewN _

set_option maxRecDepth 100000 in
set_option maxHeartbeats 400000 in
theorem newNode_f (w : World) (t : Nat) (ic : Int) (ht : w.cell? ⟨t, 0, none⟩ = some (.int .u64 ic)) :
    Calls Try.prog 66 #[.pointer (some ⟨t, 0, none⟩), .bool false] w fun e w' => ∃ p q, e = .returned (.pointer (some ⟨p, 0, none⟩)) ∧ NodeAt w' p (newNd ic false q) ∧ ListAt w' q (elT false) (zeroE false) ∧ p ≠ q ∧ w.heap.size ≤ p ∧ w.heap.size ≤ q ∧ Mix.Ex w w' := by
  go_enter Try.func66, Try.ntmps66
  go_wp2_with fail
  have htl := World.block_lt_of_cell? w _ ht
  dsimp only at htl
  (refine Mix.wp_region_new 4 [1, 1] (by kernel_rfl) (by kernel_rfl) ?_; simp only [List.take_succ_cons, List.take_zero, List.drop_succ_cons, List.drop_zero])
  (repeat (go_big_quiet_step (fail))); refine wpQuiet_nil ?_
  refine Mix.wpTl_dr (fun n K hK => ?_)
  go_simp
  refine ⟨_, ⟨n, rfl⟩, (Mix.Ex.refl _).alloc _, hK _ _ ((Mix.Ex.refl _).alloc _) ?_⟩
  (clear hK K; simp only [Act.put, List.setIfInBounds_toArray, List.set_cons_zero, List.set_cons_succ, List.take_succ_cons, List.take_zero, List.drop_succ_cons, List.drop_zero])
  (repeat (go_big_quiet_step (fail))); refine wpQuiet_nil ?_
  refine Mix.wpTl_dr (fun n K hK => ?_)
  go_simp
  rw [cells_branch]
  have hx : Mix.Ex w ((w.alloc (.cells (lsCells (zeroE false)) 68)).alloc (.cells (ndCells (newNd ic false w.heap.size)) 83)) := ((Mix.Ex.refl _).alloc _).alloc _
  refine ⟨_, ⟨n, rfl⟩, hx, hK _ _ hx ?_⟩
  (clear hK K; simp only [Act.put, List.setIfInBounds_toArray, List.set_cons_zero, List.set_cons_succ, List.take_succ_cons, List.take_zero, List.drop_succ_cons, List.drop_zero])
  (repeat (go_big_quiet_step (fail)))
  (refine wpQuiet_nil ?_; intro nq)
  go_wp2_with fail
  go_ret
  refine ⟨w.heap.size + 1, w.heap.size, rfl, ?_, ?_, by omega, by omega, by omega, hx.drewN _⟩
  · exact (NodeAt.alloc_new _ _ (by simp)).drewN _
  · exact ((ListAt.alloc_new w _ _ rfl).ex ((Mix.Ex.refl _).alloc _)).drewN _

theorem newNode_c (w : World) (t : Nat) (ic : Int) (b : Bool) (ht : w.cell? ⟨t, 0, none⟩ = some (.int .u64 ic)) :
    Calls Try.prog 66 #[.pointer (some ⟨t, 0, none⟩), .bool b] w fun e w' => ∃ p q, e = .returned (.pointer (some ⟨p, 0, none⟩)) ∧ NodeAt w' p (newNd ic b q) ∧ ListAt w' q (elT b) (zeroE b) ∧ p ≠ q ∧ w.heap.size ≤ p ∧ w.heap.size ≤ q ∧ Mix.Ex w w' := by
  cases b
  · exact newNode_f w t ic ht
  · exact newNode_t w t ic ht
end Go.Proofs.Ytenokcfpmfoekaa
