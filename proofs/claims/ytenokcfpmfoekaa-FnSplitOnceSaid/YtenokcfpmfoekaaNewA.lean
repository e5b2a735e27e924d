/- What the operations of 'newNode' yield. -/
import Derived.Test.YtenokcfpmfoekaaNodeB
import Derived.Test.YtenokcfpmfoekaaRowk
import Derived.Laws.MakeOwn
import Derived.KernelRfl
set_option linter.unusedSimpArgs false
set_option linter.unusedVariables false
namespace Go.Proofs.Ytenokcfpmfoekaa
open Go.RowKit Go.Bx

/-- What a new list holds. -/
def zeroE (b : Bool) : Nat → Value := fun _ => if b then .int .i64 0 else .pointer none
def newNd (ic : Int) (b : Bool) (q : Nat) : Nd := ⟨ic, b, 0, q, fun _ => R0⟩
theorem info_int : (Try.prog.info? 3).map (fun i => (i.zero, i.size, i.bytes)) = some (some (.int .i64 0), 1, 8) := by kernel_rfl
theorem info_ptr : (Try.prog.info? 68).map (fun i => (i.zero, i.size, i.bytes)) = some (some (.pointer none), 1, 8) := by kernel_rfl
theorem made_int : madeCells (Value.int .i64 0).cells 64 = lsCells (zeroE true) := by kernel_rfl
theorem made_ptr : madeCells (Value.pointer none).cells 64 = lsCells (zeroE false) := by kernel_rfl
theorem make_int (w : World) : (Instr.makeSlice 40 (.int .i64 64) (.int .i64 64)).run Try.prog w = .ok (.slice (some ⟨w.heap.size, 0, none⟩) 64 64) (w.alloc (.cells (lsCells (zeroE true)) 3)) := by
  obtain ⟨i0, hi0, hz0, hz1, hz2⟩ := info_parts info_int
  rw [run_make w _ _ i0 _ Try.underlying40 hi0 hz0 _ _ 64 64 (by omega) (by omega) (by rw [hz2]; omega) (by omega), hz1]
  rw [show (64 : Int).toNat = 64 from rfl, Nat.mul_one, made_int]
theorem make_ptr (w : World) : (Instr.makeSlice 81 (.int .i64 64) (.int .i64 64)).run Try.prog w = .ok (.slice (some ⟨w.heap.size, 0, none⟩) 64 64) (w.alloc (.cells (lsCells (zeroE false)) 68)) := by
  obtain ⟨i0, hi0, hz0, hz1, hz2⟩ := info_parts info_ptr
  rw [run_make w _ _ i0 _ Try.underlying81 hi0 hz0 _ _ 64 64 (by omega) (by omega) (by rw [hz2]; omega) (by omega), hz1]
  rw [show (64 : Int).toNat = 64 from rfl, Nat.mul_one, made_ptr]
theorem build_leaf (ic : Int) (g : Nat) (w : World) : (Instr.build 83 #[(0, .int .u64 ic), (1, .int .i8 1), (4, .slice (some ⟨g, 0, none⟩) 64 64)]).run Try.prog w = .ok (.agg (ndCells (newNd ic true g))) w := by kernel_rfl
theorem build_branch (ic : Int) (g : Nat) (w : World) : (Instr.build 83 #[(0, .int .u64 ic), (1, .int .i8 2), (5, .slice (some ⟨g, 0, none⟩) 64 64)]).run Try.prog w = .ok (.agg (ndCells (newNd ic false g))) w := by kernel_rfl
theorem box_node (N : Nd) (w : World) : (Instr.box 83 (.agg (ndCells N))).run Try.prog w = .ok (.pointer (some ⟨w.heap.size, 0, none⟩)) (w.alloc (.cells (ndCells N) 83)) := by kernel_rfl
end Go.Proofs.Ytenokcfpmfoekaa
