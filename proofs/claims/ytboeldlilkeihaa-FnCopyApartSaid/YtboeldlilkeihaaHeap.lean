/- What a change leaves as it was; a tree in memory. -/
import Derived.Test.YtboeldlilkeihaaNode
import Derived.Test.YtboeldlilkeihaaPln
set_option linter.unusedSimpArgs false
set_option linter.unusedVariables false
/- What a call may have changed: old blocks of a set, new blocks. No program in sight. -/
namespace Go
open Go.RowKit Go.Bx
/-- w' is w but for the blocks of S and new blocks. -/
structure Chg (S : Nat → Prop) (w w' : World) : Prop where
  os : w'.os = w.os
  tape : w'.tape = w.tape
  output : w'.output = w.output
  size : w.heap.size ≤ w'.heap.size
  block : ∀ k, k < w.heap.size → ¬ S k → w'.heap[k]? = w.heap[k]?
namespace Chg
variable {S T : Nat → Prop} {a b c : World}
theorem refl (S : Nat → Prop) (w : World) : Chg S w w := ⟨rfl, rfl, rfl, Nat.le_refl _, fun _ _ _ => rfl⟩
theorem trans (h : Chg S a b) (k : Chg S b c) : Chg S a c :=
  ⟨k.os.trans h.os, k.tape.trans h.tape, k.output.trans h.output, Nat.le_trans h.size k.size, fun i hi hs => (k.block i (Nat.lt_of_lt_of_le hi h.size) hs).trans (h.block i hi hs)⟩
/-- A second step may change new blocks of the first at will. -/
theorem trans' (h : Chg S a b) (k : Chg T b c) (hT : ∀ i, i < a.heap.size → T i → S i) : Chg S a c :=
  ⟨k.os.trans h.os, k.tape.trans h.tape, k.output.trans h.output, Nat.le_trans h.size k.size, fun i hi hs => (k.block i (Nat.lt_of_lt_of_le hi h.size) (fun t => hs (hT i hi t))).trans (h.block i hi hs)⟩
theorem mono (h : Chg S a b) (k : ∀ i, S i → T i) : Chg T a b := ⟨h.os, h.tape, h.output, h.size, fun i hi hs => h.block i hi (fun s => hs (k i s))⟩
theorem ex (h : Mix.Ex a b) : Chg S a b := by
  obtain ⟨x, rfl⟩ := h
  exact ⟨rfl, rfl, rfl, by simp, fun k hk _ => World.heap_ext a x k hk⟩
theorem drewN (h : Chg S a b) (n : Nat) : Chg S a (b.drewN n) := ⟨h.os, h.tape, h.output, h.size, h.block⟩
theorem putN (h : Chg S a b) {p : Nat} (hp : S p ∨ a.heap.size ≤ p) (N : Nd) : Chg S a (b.putN p N) :=
  h.trans' (T := fun i => i = p) ⟨rfl, rfl, rfl, by simp, fun k _ hk => by simp only [World.putN]; rw [Array.getElem?_setIfInBounds_ne (fun e => hk e.symm)]⟩ (fun i hi e => by rcases hp with h | h; exact e ▸ h; omega)
theorem putL (h : Chg S a b) {q : Nat} (hq : S q ∨ a.heap.size ≤ q) (T : TypeId) (f : Nat → Value) : Chg S a (b.putL q T f) :=
  h.trans' (T := fun i => i = q) ⟨rfl, rfl, rfl, by simp, fun k _ hk => by simp only [World.putL]; rw [Array.getElem?_setIfInBounds_ne (fun e => hk e.symm)]⟩ (fun i hi e => by rcases hq with h | h; exact e ▸ h; omega)
theorem node (h : Chg S a b) {p : Nat} {N : Nd} (hN : NodeAt a p N) (hp : ¬ S p) : NodeAt b p N := hN.of_block (h.block p hN.lt hp)
theorem list (h : Chg S a b) {q : Nat} {T : TypeId} {f : Nat → Value} (hL : ListAt a q T f) (hq : ¬ S q) : ListAt b q T f := hL.of_block (h.block q hL.lt hq)
theorem cell (h : Chg S a b) {x : Addr} {v : Value} (hc : a.cell? x = some v) (hx : ¬ S x.block) : b.cell? x = some v := by
  rw [World.cell?_of_block (h.block x.block (World.block_lt_of_cell? a x hc) hx)]; exact hc
theorem toEx (h : Chg S a b) (hS : ∀ i, i < a.heap.size → ¬ S i) : Mix.Ex a b := .of_below ⟨h.os, h.tape, h.output, h.size, fun k hk => h.block k hk (hS k hk)⟩
end Chg
end Go
/- How a tree lies in memory: its own nodes, and nodes that it shares. -/
namespace Go.Proofs.Ytboeldlilkeihaa
open Go.RowKit Go.Bx
/-- What stands beside a box: the value in memory, what it means, the blocks that are its own. -/
structure An (h : Nat) where
  v : Value
  t : El h
  s : Nat → Prop
def leafB : Nat → Bool
  | 0 => true
  | _ + 1 => false
def Sep {h : Nat} (a b : R × An h) : Prop := ∀ k, a.2.s k → ¬ b.2.s k
theorem Sep.symm {h : Nat} {a b : R × An h} (k : Sep a b) : Sep b a := fun i h1 h2 => k i h2 h1
/-- A node's two blocks. -/
structure NodeX (w : World) (h p q : Nat) (ic : Int) (n : Nat) (X : Nat → R × An h) : Prop where
  nd : NodeAt w p ⟨ic, leafB h, n, q, fun i => (X i).1⟩
  ls : ListAt w q (elT (leafB h)) (fE (mp An.v X))
  fit : Fit (leafB h) (fE (mp An.v X))
  pq : p ≠ q
  n64 : n ≤ 64
/-- The node's blocks are its own, and so are its children's, each apart from the others. -/
structure OwnedC (c : Int) (Z : Nat → Prop) (ic : Int) (w : World) {h : Nat} (s : Nat → Prop) (p q n : Nat) (X : Nat → R × An h) : Prop where
  sp : s p
  sq : s q
  slt : ∀ b, s b → b < w.heap.size
  sub : ∀ e ∈ lst n X, ∀ b, e.2.s b → s b ∧ b ≠ p ∧ b ≠ q
  sep : (lst n X).Pairwise Sep
  icc : ic = c ∨ ∃ k, Z k
/-- The node is shared. -/
structure FrozenC (c : Int) (Z : Nat → Prop) {h : Nat} (s : Nat → Prop) (p q : Nat) (ic : Int) (n : Nat) (X : Nat → R × An h) : Prop where
  ne : ic ≠ c
  zp : Z p
  zq : Z q
  s0 : ∀ b, ¬ s b
  sub : ∀ e ∈ lst n X, ∀ b, ¬ e.2.s b
/-- The value v is the entry x; its own blocks are s. c: the tree's number; Z: the blocks that are shared. -/
def ElAt (c : Int) (Z : Nat → Prop) (w : World) : (h : Nat) → Value → El h → (Nat → Prop) → Prop
  | 0, v, x, s => v = .int .i64 x ∧ ∀ b, ¬ s b
  | h + 1, v, t, s => ∃ (p q : Nat) (ic : Int) (X : Nat → R × An h), v = .pointer (some ⟨p, 0, none⟩) ∧ NodeX w h p q ic t.n X ∧ t.E = mp An.t X ∧ (∀ e ∈ lst t.n X, ElAt c Z w h e.2.v e.2.t e.2.s) ∧ (OwnedC c Z ic w s p q t.n X ∨ FrozenC c Z s p q ic t.n X)
/-- A node that the tree may write. -/
structure OwnN (c : Int) (Z : Nat → Prop) (w : World) (h p q : Nat) (ic : Int) (t : Nde (El h)) (X : Nat → R × An h) (s : Nat → Prop) : Prop where
  nx : NodeX w h p q ic t.n X
  tE : t.E = mp An.t X
  el : ∀ e ∈ lst t.n X, ElAt c Z w h e.2.v e.2.t e.2.s
  ow : OwnedC c Z ic w s p q t.n X
theorem NodeX.frame {w w' : World} {h p q : Nat} {ic : Int} {n : Nat} {X : Nat → R × An h} {S : Nat → Prop} (k : NodeX w h p q ic n X) (hc : Chg S w w') (hp : ¬ S p) (hq : ¬ S q) : NodeX w' h p q ic n X :=
  ⟨hc.node k.nd hp, hc.list k.ls hq, k.fit, k.pq, k.n64⟩
theorem ElAt.frame {c : Int} {Z : Nat → Prop} {w w' : World} {S : Nat → Prop} (hS : ∀ b, S b → ¬ Z b) (hc : Chg S w w') : ∀ {h : Nat} {v : Value} {t : El h} {s : Nat → Prop}, ElAt c Z w h v t s → (∀ b, S b → ¬ s b) → ElAt c Z w' h v t s
  | 0, _, _, _, k, _ => k
  | h + 1, v, t, s, ⟨p, q, ic, X, hv, hn, hE, he, ho⟩, hs => by
    rcases ho with ho | ho
    · exact ⟨p, q, ic, X, hv, hn.frame hc (fun k => hs p k ho.sp) (fun k => hs q k ho.sq), hE, fun e hm => ElAt.frame hS hc (he e hm) (fun b hb hb' => hs b hb (ho.sub e hm b hb').1), .inl ⟨ho.sp, ho.sq, fun b hb => Nat.lt_of_lt_of_le (ho.slt b hb) hc.size, ho.sub, ho.sep, ho.icc⟩⟩
    · exact ⟨p, q, ic, X, hv, hn.frame hc (fun k => hS p k ho.zp) (fun k => hS q k ho.zq), hE, fun e hm => ElAt.frame hS hc (he e hm) (fun b hb hb' => ho.sub e hm b hb'), .inr ho⟩
theorem ElAt.lt {c : Int} {Z : Nat → Prop} {w : World} {h : Nat} {v : Value} {t : El h} {s : Nat → Prop} (k : ElAt c Z w h v t s) {b : Nat} (hb : s b) : b < w.heap.size := by
  cases h with
  | zero => exact (k.2 b hb).elim
  | succ h =>
    obtain ⟨p, q, ic, X, hv, hn, hE, he, ho⟩ := k
    rcases ho with ho | ho
    · exact ho.slt b hb
    · exact (ho.s0 b hb).elim
theorem OwnN.toEl {c : Int} {Z : Nat → Prop} {w : World} {h p q : Nat} {ic : Int} {t : Nde (El h)} {X : Nat → R × An h} {s : Nat → Prop} (k : OwnN c Z w h p q ic t X s) : ElAt c Z w (h + 1) (.pointer (some ⟨p, 0, none⟩)) t s :=
  ⟨p, q, ic, X, rfl, k.nx, k.tE, k.el, .inl k.ow⟩
theorem OwnN.frame {c : Int} {Z : Nat → Prop} {w w' : World} {h p q : Nat} {ic : Int} {t : Nde (El h)} {X : Nat → R × An h} {s S : Nat → Prop} (k : OwnN c Z w h p q ic t X s) (hS : ∀ b, S b → ¬ Z b) (hc : Chg S w w') (hs : ∀ b, S b → ¬ s b) : OwnN c Z w' h p q ic t X s :=
  ⟨k.nx.frame hc (fun x => hs p x k.ow.sp) (fun x => hs q x k.ow.sq), k.tE, fun e hm => (k.el e hm).frame hS hc (fun b hb hb' => hs b hb (k.ow.sub e hm b hb').1), ⟨k.ow.sp, k.ow.sq, fun b hb => Nat.lt_of_lt_of_le (k.ow.slt b hb) hc.size, k.ow.sub, k.ow.sep, k.ow.icc⟩⟩
/-- What the tree's own blocks may become: some of the old ones, and new ones. -/
def Grew (w : World) (s s' : Nat → Prop) : Prop := ∀ b, s' b → s b ∨ w.heap.size ≤ b
theorem Grew.refl (w : World) (s : Nat → Prop) : Grew w s s := fun _ h => .inl h
theorem Grew.trans {w w' : World} {s s' s'' : Nat → Prop} (h : Grew w s s') (k : Grew w' s' s'') (hw : w.heap.size ≤ w'.heap.size) : Grew w s s'' := fun b hb => by
  rcases k b hb with h1 | h1
  · exact h b h1
  · exact .inr (Nat.le_trans hw h1)
theorem Chg.of_false {S : Nat → Prop} {w w' : World} (h : Mix.Ex w w') : Chg S w w' := Chg.ex h
theorem pw_perm {h : Nat} {L M : List (R × An h)} (hp : L.Perm M) : L.Pairwise Sep ↔ M.Pairwise Sep := hp.pairwise_iff Sep.symm
theorem lst_mp {α β : Type} (f : α → β) (n : Nat) (E : Nat → R × α) : lst n (mp f E) = (lst n E).map (fun e => (e.1, f e.2)) := by
  unfold lst mp; rw [List.map_map]; rfl
end Go.Proofs.Ytboeldlilkeihaa
