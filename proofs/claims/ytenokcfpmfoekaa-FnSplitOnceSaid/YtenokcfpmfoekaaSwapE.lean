/- A node's entries as one list of pairs: swap on it. -/
import Derived.Test.YtenokcfpmfoekaaNodeB
set_option linter.unusedSimpArgs false
set_option linter.unusedVariables false
namespace Go
namespace Bx
/-- The entries of a node: a box and what stands in the list. -/
abbrev Ent := Nat → R × Value
def ndE (N : Nd) (E : Ent) : Nd := { N with rc := fun i => (E i).1 }
def fE (E : Ent) : Nat → Value := fun i => (E i).2
theorem swapF_fst (E : Ent) (i j : Nat) : swapF (fun k => (E k).1) i j = fun k => (swapF E i j k).1 := by
  funext k; simp only [swapF]; split <;> (try split) <;> rfl
theorem swapF_snd (E : Ent) (i j : Nat) : swapF (fE E) i j = fE (swapF E i j) := by
  funext k; simp only [swapF, fE]; split <;> (try split) <;> rfl
end Bx
open Go.Bx
def World.putE (w : World) (p : Nat) (N : Nd) (T : TypeId) (E : Ent) : World := (w.putN p (ndE N E)).putL N.q T (fE E)
theorem World.putE_put (w : World) (p : Nat) (N : Nd) (T : TypeId) (E F : Ent) (h : N.q ≠ p) : ((w.putE p N T E).putN p (ndE N F)).putL N.q T (fE F) = w.putE p N T F := by
  unfold World.putE
  rw [World.putN_putL _ _ _ _ _ _ h, World.putN_putN, World.putL_putL]
theorem NodeAt.putE (w : World) (p : Nat) (N : Nd) (T : TypeId) (E : Ent) (hp : p < w.heap.size) (h : N.q ≠ p) : NodeAt (w.putE p N T E) p (ndE N E) := (NodeAt.put _ hp).putL_other h
theorem ListAt.putE (w : World) (p : Nat) (N : Nd) (T : TypeId) (E : Ent) (hq : N.q < w.heap.size) : ListAt (w.putE p N T E) N.q T (fE E) := ListAt.put _ _ (by simp; exact hq)
theorem putE_self {w : World} {p : Nat} {N : Nd} {T : TypeId} {f : Nat → Value} (h : NodeAt w p N) (k : ListAt w N.q T f) : w.putE p N T (fun i => (N.rc i, f i)) = w := by
  show (w.putN p N).putL N.q T f = w
  rw [h.self, k.self]
end Go
namespace Go.Proofs.Ytenokcfpmfoekaa
open Go.RowKit Go.Bx
theorem swapE_c (w : World) (p : Nat) (N : Nd) (E : Ent) (i j d : Nat) (hp : p < w.heap.size) (hq : N.q < w.heap.size) (hpq : p ≠ N.q) (hf : Fit N.leaf (fE E)) (hi : i < 64) (hj : j < 64) :
    Calls Try.prog 69 #[.pointer (some ⟨p, 0, none⟩), .int .i64 i, .int .i64 j] ((w.putE p N (elT N.leaf) E).drewN d) fun e w' => e = .returned (.tuple #[]) ∧ ∃ d, w' = (w.putE p N (elT N.leaf) (swapF E i j)).drewN d := by
  refine (swap_c _ p (ndE N E) (fE E) i j ((NodeAt.putE w p N (elT N.leaf) E hp hpq.symm).drewN d) ((ListAt.putE w p N (elT N.leaf) E hq).drewN d) hf hpq hi hj).mono ?_
  rintro e w' ⟨rfl, n, rfl⟩
  refine ⟨rfl, d + n, ?_⟩
  have e1 : ({ ndE N E with rc := swapF (ndE N E).rc i j } : Nd) = ndE N (swapF E i j) := by
    unfold ndE; dsimp only; rw [swapF_fst]
  rw [e1, swapF_snd]
  show ((((w.putE p N (elT N.leaf) E).putN p (ndE N (swapF E i j))).putL N.q (elT N.leaf) (fE (swapF E i j))).drewN d).drewN n = _
  rw [World.putE_put _ _ _ _ _ _ hpq.symm, World.drewN_drewN]
theorem Fit.swapE {b : Bool} {E : Ent} (h : Fit b (fE E)) (i j : Nat) : Fit b (fE (swapF E i j)) := by rw [← swapF_snd]; exact h.swap i j
end Go.Proofs.Ytenokcfpmfoekaa
