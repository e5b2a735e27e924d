/- The contracts of 'sortByAxis' and of 'issorted'. -/
import Derived.Test.YtenokcfpmfoekaaSort
set_option linter.unusedSimpArgs false
set_option linter.unusedVariables false
namespace Go.Proofs.Ytenokcfpmfoekaa
open Go.RowKit Go.Bx
set_option maxRecDepth 100000 in
set_option maxHeartbeats 800000 in
theorem sortByAxis_c (w : World) (p : Nat) (N : Nd) (a : Nat) (rev mx : Bool) (ha : a ≤ 1) (hp : p < w.heap.size) (hq : N.q < w.heap.size) (hpq : p ≠ N.q)
    (n : Nat) (E : Ent) (d : Nat) (hn : N.cnt = n) (h64 : n ≤ 64) (hf : Fit N.leaf (fE E)) :
    Calls Try.prog 61 #[.pointer (some ⟨p, 0, none⟩), .int .i64 a, .bool rev, .bool mx] ((w.putE p N (elT N.leaf) E).drewN d)
      fun e w' => e = .returned (.tuple #[]) ∧ ∃ d, w' = (w.putE p N (elT N.leaf) (qs (keyK a rev mx) n E 0 n)).drewN d := by
  have hc := (NodeAt.putE w p N (elT N.leaf) E hp hpq.symm).cell2
  have e : (ndE N E).cnt = n := hn
  rw [e] at hc
  clear e
  have hQ := qsort_c w p N a rev mx ha hp hq hpq n 0 n n E d (by omega) (Nat.le_refl _) (by omega) hf
  have z : ((0 : Nat) : Int) = 0 := rfl
  rw [z] at hQ
  clear z
  go_enter Try.func61, Try.ntmps61
  go_wp2_with fail
  refine hQ.mono ?_
  rintro e w1 ⟨rfl, d1, rfl⟩
  go_wp2_with fail
  go_end0
  exact ⟨rfl, _, rfl⟩
end Go.Proofs.Ytenokcfpmfoekaa
