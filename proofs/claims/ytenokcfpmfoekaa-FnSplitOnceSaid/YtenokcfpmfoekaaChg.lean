/- What a call may have changed: old blocks of a set, new blocks. No program in sight. -/
import Derived.Test.YtenokcfpmfoekaaSwapE
set_option linter.unusedSimpArgs false
set_option linter.unusedVariables false
namespace Go
open Go.RowKit Go.Bx
/-- w' is w but for the blocks of S and new blocks. -/
structure Chg (S : Nat → Prop) (w w' : World) : Prop where
  os : w'.os = w.os
  tape : w'.tape = w.tape
  output : w'.output = w.output
  size : w.heap.size ≤ w'.heap.size
  block : ∀ k, k < w.heap.size → ¬ S k → w'.heap[k]? = w.heap[k]?
namespace Chg
variable {S T : Nat → Prop} {a b c : World}
theorem refl (S : Nat → Prop) (w : World) : Chg S w w := ⟨rfl, rfl, rfl, Nat.le_refl _, fun _ _ _ => rfl⟩
theorem trans (h : Chg S a b) (k : Chg S b c) : Chg S a c :=
  ⟨k.os.trans h.os, k.tape.trans h.tape, k.output.trans h.output, Nat.le_trans h.size k.size, fun i hi hs => (k.block i (Nat.lt_of_lt_of_le hi h.size) hs).trans (h.block i hi hs)⟩
/-- A second step may change new blocks of the first at will. -/
theorem trans' (h : Chg S a b) (k : Chg T b c) (hT : ∀ i, i < a.heap.size → T i → S i) : Chg S a c :=
  ⟨k.os.trans h.os, k.tape.trans h.tape, k.output.trans h.output, Nat.le_trans h.size k.size, fun i hi hs => (k.block i (Nat.lt_of_lt_of_le hi h.size) (fun t => hs (hT i hi t))).trans (h.block i hi hs)⟩
theorem mono (h : Chg S a b) (k : ∀ i, S i → T i) : Chg T a b := ⟨h.os, h.tape, h.output, h.size, fun i hi hs => h.block i hi (fun s => hs (k i s))⟩
theorem ex (h : Mix.Ex a b) : Chg S a b := by
  obtain ⟨x, rfl⟩ := h
  exact ⟨rfl, rfl, rfl, by simp, fun k hk _ => World.heap_ext a x k hk⟩
theorem drewN (h : Chg S a b) (n : Nat) : Chg S a (b.drewN n) := ⟨h.os, h.tape, h.output, h.size, h.block⟩
theorem putN (h : Chg S a b) {p : Nat} (hp : S p ∨ a.heap.size ≤ p) (N : Nd) : Chg S a (b.putN p N) :=
  h.trans' (T := fun i => i = p) ⟨rfl, rfl, rfl, by simp, fun k _ hk => by simp only [World.putN]; rw [Array.getElem?_setIfInBounds_ne (fun e => hk e.symm)]⟩ (fun i hi e => by rcases hp with h | h; exact e ▸ h; omega)
theorem putL (h : Chg S a b) {q : Nat} (hq : S q ∨ a.heap.size ≤ q) (T : TypeId) (f : Nat → Value) : Chg S a (b.putL q T f) :=
  h.trans' (T := fun i => i = q) ⟨rfl, rfl, rfl, by simp, fun k _ hk => by simp only [World.putL]; rw [Array.getElem?_setIfInBounds_ne (fun e => hk e.symm)]⟩ (fun i hi e => by rcases hq with h | h; exact e ▸ h; omega)
theorem node (h : Chg S a b) {p : Nat} {N : Nd} (hN : NodeAt a p N) (hp : ¬ S p) : NodeAt b p N := hN.of_block (h.block p hN.lt hp)
theorem list (h : Chg S a b) {q : Nat} {T : TypeId} {f : Nat → Value} (hL : ListAt a q T f) (hq : ¬ S q) : ListAt b q T f := hL.of_block (h.block q hL.lt hq)
theorem cell (h : Chg S a b) {x : Addr} {v : Value} (hc : a.cell? x = some v) (hx : ¬ S x.block) : b.cell? x = some v := by
  rw [World.cell?_of_block (h.block x.block (World.block_lt_of_cell? a x hc) hx)]; exact hc
theorem toEx (h : Chg S a b) (hS : ∀ i, i < a.heap.size → ¬ S i) : Mix.Ex a b := .of_below ⟨h.os, h.tape, h.output, h.size, fun k hk => h.block k hk (hS k hk)⟩
end Chg
end Go
