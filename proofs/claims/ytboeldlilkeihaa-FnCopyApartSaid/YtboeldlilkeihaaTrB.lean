/- The tree's own block: its number, how many items, the box, the root, the number's source; read and written as a whole. -/
import Derived.Test.YtboeldlilkeihaaHeap
set_option linter.unusedSimpArgs false
set_option linter.unusedVariables false
namespace Go
open Go.RowKit Go.Bx Go.Proofs.Ytboeldlilkeihaa
def trCells (c cnt : Int) (r : R) (rt cw : Value) : Array Value := #[.int .u64 c, .int .i64 cnt, .int .i64 r.x0, .int .i64 r.y0, .int .i64 r.x1, .int .i64 r.y1, rt, .int .i64 0, cw]
def World.putT (w : World) (p : Nat) (c cnt : Int) (r : R) (rt cw : Value) : World := { w with heap := w.heap.setIfInBounds p (.cells (trCells c cnt r rt cw) 95 (0, 0)) }
section
variable (w : World) (p q b o i : Nat) (c cnt c' cnt' : Int) (r r' : R) (rt cw rt' cw' : Value) (s : Option Nat) (v : Value) (N : Nd) (T : TypeId) (f : Nat → Value)
theorem World.heap_putT (b : Nat) (h : p < w.heap.size) : (w.putT p c cnt r rt cw).heap[b]? = if p = b then some (.cells (trCells c cnt r rt cw) 95 (0, 0)) else w.heap[b]? := by
  simp only [World.putT, Array.getElem?_setIfInBounds]
  by_cases hb : p = b
  · subst hb; simp [h]
  · simp [hb]
@[simp, go_sem] theorem World.size_putT : (w.putT p c cnt r rt cw).heap.size = w.heap.size := by simp [World.putT]
@[go_sem] theorem World.putT_drewN (n : Nat) : (w.drewN n).putT p c cnt r rt cw = (w.putT p c cnt r rt cw).drewN n := rfl
@[go_sem] theorem World.putT_drew : w.drew.putT p c cnt r rt cw = (w.putT p c cnt r rt cw).drew := rfl
@[go_sem] theorem World.putT_putT : (w.putT p c cnt r rt cw).putT p c' cnt' r' rt' cw' = w.putT p c' cnt' r' rt' cw' := by simp [World.putT]
theorem World.cell_putT (h : p < w.heap.size) : (w.putT p c cnt r rt cw).cell? ⟨p, o, none⟩ = (trCells c cnt r rt cw)[o]? := by
  unfold World.cell?; rw [World.heap_putT _ _ _ _ _ _ _ _ h]; simp only [if_true]; rfl
@[go_sem] theorem World.cell_putT0 (h : p < w.heap.size) : (w.putT p c cnt r rt cw).cell? ⟨p, 0, none⟩ = some (.int .u64 c) := World.cell_putT _ _ _ _ _ _ _ _ h
@[go_sem] theorem World.cell_putT1 (h : p < w.heap.size) : (w.putT p c cnt r rt cw).cell? ⟨p, 1, none⟩ = some (.int .i64 cnt) := World.cell_putT _ _ _ _ _ _ _ _ h
@[go_sem] theorem World.cell_putT2 (h : p < w.heap.size) : (w.putT p c cnt r rt cw).cell? ⟨p, 2, none⟩ = some (.int .i64 r.x0) := World.cell_putT _ _ _ _ _ _ _ _ h
@[go_sem] theorem World.cell_putT3 (h : p < w.heap.size) : (w.putT p c cnt r rt cw).cell? ⟨p, 3, none⟩ = some (.int .i64 r.y0) := World.cell_putT _ _ _ _ _ _ _ _ h
@[go_sem] theorem World.cell_putT4 (h : p < w.heap.size) : (w.putT p c cnt r rt cw).cell? ⟨p, 4, none⟩ = some (.int .i64 r.x1) := World.cell_putT _ _ _ _ _ _ _ _ h
@[go_sem] theorem World.cell_putT5 (h : p < w.heap.size) : (w.putT p c cnt r rt cw).cell? ⟨p, 5, none⟩ = some (.int .i64 r.y1) := World.cell_putT _ _ _ _ _ _ _ _ h
@[go_sem] theorem World.cell_putT6 (h : p < w.heap.size) : (w.putT p c cnt r rt cw).cell? ⟨p, 6, none⟩ = some rt := World.cell_putT _ _ _ _ _ _ _ _ h
@[go_sem] theorem World.cell_putT7 (h : p < w.heap.size) : (w.putT p c cnt r rt cw).cell? ⟨p, 7, none⟩ = some (.int .i64 0) := World.cell_putT _ _ _ _ _ _ _ _ h
@[go_sem] theorem World.cell_putT8 (h : p < w.heap.size) : (w.putT p c cnt r rt cw).cell? ⟨p, 8, none⟩ = some cw := World.cell_putT _ _ _ _ _ _ _ _ h
@[go_sem] theorem World.cell_putT_other (hb : b ≠ p) : (w.putT p c cnt r rt cw).cell? ⟨b, o, s⟩ = w.cell? ⟨b, o, s⟩ := by
  unfold World.cell? World.putT
  dsimp only
  rw [Array.getElem?_setIfInBounds_ne (Ne.symm hb)]
@[go_sem] theorem World.frozen_putT (h : p < w.heap.size) : (w.putT p c cnt r rt cw).frozen? ⟨p, o, s⟩ = false := by
  unfold World.frozen?; rw [World.heap_putT _ _ _ _ _ _ _ _ h]; simp
@[go_sem] theorem World.frozen_putT_other (hb : b ≠ p) : (w.putT p c cnt r rt cw).frozen? ⟨b, o, s⟩ = w.frozen? ⟨b, o, s⟩ := by
  unfold World.frozen? World.putT
  dsimp only
  rw [Array.getElem?_setIfInBounds_ne (Ne.symm hb)]
@[go_sem] theorem World.setCell_putT_other (hb : b ≠ p) : (w.putT p c cnt r rt cw).setCell ⟨b, o, s⟩ v = (w.setCell ⟨b, o, s⟩ v).putT p c cnt r rt cw := by
  simp only [World.putT, World.setCell]
  rw [World.modify_set_ne _ _ _ _ _ hb]
theorem World.setCell_putT (h : (trCells c cnt r rt cw).setIfInBounds o v = trCells c' cnt' r' rt' cw') : (w.putT p c cnt r rt cw).setCell ⟨p, o, none⟩ v = w.putT p c' cnt' r' rt' cw' := by
  simp only [World.putT, World.setCell]
  rw [World.modify_set]
  simp only [Option.isSome_none, Bool.false_eq_true, if_false]
  rw [h]
@[go_sem] theorem World.setCell_putT0 : (w.putT p c cnt r rt cw).setCell ⟨p, 0, none⟩ (.int .u64 c') = w.putT p c' cnt r rt cw := World.setCell_putT _ _ _ _ _ _ _ _ _ _ _ _ _ _ rfl
@[go_sem] theorem World.setCell_putT1 : (w.putT p c cnt r rt cw).setCell ⟨p, 1, none⟩ (.int .i64 cnt') = w.putT p c cnt' r rt cw := World.setCell_putT _ _ _ _ _ _ _ _ _ _ _ _ _ _ rfl
@[go_sem] theorem World.setCell_putT2 (x : Int) : (w.putT p c cnt r rt cw).setCell ⟨p, 2, none⟩ (.int .i64 x) = w.putT p c cnt ⟨x, r.y0, r.x1, r.y1⟩ rt cw := World.setCell_putT _ _ _ _ _ _ _ _ _ _ _ _ _ _ rfl
@[go_sem] theorem World.setCell_putT3 (x : Int) : (w.putT p c cnt r rt cw).setCell ⟨p, 3, none⟩ (.int .i64 x) = w.putT p c cnt ⟨r.x0, x, r.x1, r.y1⟩ rt cw := World.setCell_putT _ _ _ _ _ _ _ _ _ _ _ _ _ _ rfl
@[go_sem] theorem World.setCell_putT4 (x : Int) : (w.putT p c cnt r rt cw).setCell ⟨p, 4, none⟩ (.int .i64 x) = w.putT p c cnt ⟨r.x0, r.y0, x, r.y1⟩ rt cw := World.setCell_putT _ _ _ _ _ _ _ _ _ _ _ _ _ _ rfl
@[go_sem] theorem World.setCell_putT5 (x : Int) : (w.putT p c cnt r rt cw).setCell ⟨p, 5, none⟩ (.int .i64 x) = w.putT p c cnt ⟨r.x0, r.y0, r.x1, x⟩ rt cw := World.setCell_putT _ _ _ _ _ _ _ _ _ _ _ _ _ _ rfl
@[go_sem] theorem World.setCell_putT6 : (w.putT p c cnt r rt cw).setCell ⟨p, 6, none⟩ v = w.putT p c cnt r v cw := World.setCell_putT _ _ _ _ _ _ _ _ _ _ _ _ _ _ rfl
@[go_sem] theorem World.setCell_putT8 : (w.putT p c cnt r rt cw).setCell ⟨p, 8, none⟩ v = w.putT p c cnt r rt v := World.setCell_putT _ _ _ _ _ _ _ _ _ _ _ _ _ _ rfl
theorem setRect_putT : setRect (w.putT p c cnt r rt cw) p 2 r' = w.putT p c cnt r' rt cw := by
  unfold setRect
  rw [World.setCell_putT2, World.setCell_putT3, World.setCell_putT4, World.setCell_putT5]
/-- A tree's block lies there. -/
def TreeAt (w : World) (p : Nat) (c cnt : Int) (r : R) (rt cw : Value) : Prop := w.heap[p]? = some (.cells (trCells c cnt r rt cw) 95 (0, 0))
end
section
variable {w w' : World} {p : Nat} {c cnt c' cnt' : Int} {r r' : R} {rt cw rt' cw' : Value}
theorem TreeAt.lt (h : TreeAt w p c cnt r rt cw) : p < w.heap.size := (Array.getElem?_eq_some_iff.1 h).1
theorem TreeAt.self (h : TreeAt w p c cnt r rt cw) : w.putT p c cnt r rt cw = w := by
  unfold World.putT; rw [set_self _ _ _ h]
theorem TreeAt.put (c cnt : Int) (r : R) (rt cw : Value) (h : p < w.heap.size) : TreeAt (w.putT p c cnt r rt cw) p c cnt r rt cw := by unfold TreeAt; rw [World.heap_putT _ _ _ _ _ _ _ _ h, if_pos rfl]
theorem TreeAt.of_block (h : TreeAt w p c cnt r rt cw) (hb : w'.heap[p]? = w.heap[p]?) : TreeAt w' p c cnt r rt cw := by unfold TreeAt; rw [hb]; exact h
theorem TreeAt.drewN (h : TreeAt w p c cnt r rt cw) (n : Nat) : TreeAt (w.drewN n) p c cnt r rt cw := h
theorem TreeAt.chg {S : Nat → Prop} (h : TreeAt w p c cnt r rt cw) (hc : Chg S w w') (hp : ¬ S p) : TreeAt w' p c cnt r rt cw := h.of_block (hc.block p h.lt hp)
theorem TreeAt.ex (h : TreeAt w p c cnt r rt cw) (hx : Mix.Ex w w') : TreeAt w' p c cnt r rt cw := h.chg (S := fun _ => False) (Chg.ex hx) (fun h => h)
theorem TreeAt.setRoot (h : TreeAt w p c cnt r rt cw) (v : Value) : TreeAt (w.setCell ⟨p, 6, none⟩ v) p c cnt r v cw := by
  have hl := h.lt
  have e : w.setCell ⟨p, 6, none⟩ v = w.putT p c cnt r v cw := by
    conv => lhs; rw [← h.self]
    exact World.setCell_putT6 _ _ _ _ _ _ _ _
  rw [e]; exact TreeAt.put _ _ _ _ _ hl
theorem TreeAt.setR (h : TreeAt w p c cnt r rt cw) (r' : R) : TreeAt (setRect w p 2 r') p c cnt r' rt cw := by
  have hl := h.lt
  have e : setRect w p 2 r' = w.putT p c cnt r' rt cw := by
    conv => lhs; rw [← h.self]
    exact setRect_putT _ _ _ _ _ _ _ _
  rw [e]; exact TreeAt.put _ _ _ _ _ hl
theorem TreeAt.frz (h : TreeAt w p c cnt r rt cw) (o : Nat) : w.frozen? ⟨p, o, none⟩ = false := by
  have hl := h.lt
  rw [← h.self]; exact World.frozen_putT _ _ _ _ _ _ _ _ _ hl
theorem TreeAt.cell0 (h : TreeAt w p c cnt r rt cw) : w.cell? ⟨p, 0, none⟩ = some (.int .u64 c) := by have := h.lt; rw [← h.self]; exact World.cell_putT0 _ _ _ _ _ _ _ this
theorem TreeAt.cell1 (h : TreeAt w p c cnt r rt cw) : w.cell? ⟨p, 1, none⟩ = some (.int .i64 cnt) := by have := h.lt; rw [← h.self]; exact World.cell_putT1 _ _ _ _ _ _ _ this
theorem TreeAt.cell6 (h : TreeAt w p c cnt r rt cw) : w.cell? ⟨p, 6, none⟩ = some rt := by have := h.lt; rw [← h.self]; exact World.cell_putT6 _ _ _ _ _ _ _ this
theorem TreeAt.cell7 (h : TreeAt w p c cnt r rt cw) : w.cell? ⟨p, 7, none⟩ = some (.int .i64 0) := by have := h.lt; rw [← h.self]; exact World.cell_putT7 _ _ _ _ _ _ _ this
theorem TreeAt.cell8 (h : TreeAt w p c cnt r rt cw) : w.cell? ⟨p, 8, none⟩ = some cw := by have := h.lt; rw [← h.self]; exact World.cell_putT8 _ _ _ _ _ _ _ this
theorem TreeAt.rect (h : TreeAt w p c cnt r rt cw) : RectAt w p 2 r := by
  have := h.lt; rw [← h.self]
  exact ⟨World.cell_putT2 _ _ _ _ _ _ _ this, World.cell_putT3 _ _ _ _ _ _ _ this, World.cell_putT4 _ _ _ _ _ _ _ this, World.cell_putT5 _ _ _ _ _ _ _ this⟩
theorem TreeAt.opn (h : TreeAt w p c cnt r rt cw) : ∃ w0 : World, w = w0.putT p c cnt r rt cw ∧ p < w0.heap.size ∧ w0 = w := ⟨w, h.self.symm, h.lt, rfl⟩
theorem Chg.putT {S : Nat → Prop} {a b : World} (h : Chg S a b) (hp : S p ∨ a.heap.size ≤ p) : Chg S a (b.putT p c cnt r rt cw) :=
  h.trans' (T := fun i => i = p) ⟨rfl, rfl, rfl, by simp, fun k _ hk => by simp only [World.putT]; rw [Array.getElem?_setIfInBounds_ne (fun e => hk e.symm)]⟩ (fun i hi e => by rcases hp with h | h; exact e ▸ h; omega)
theorem Chg.setR {S : Nat → Prop} {a b : World} (h : Chg S a b) {k o : Nat} (hp : S k ∨ a.heap.size ≤ k) (r : R) : Chg S a (setRect b k o r) := by
  unfold setRect
  have e : ∀ (b : World) (o : Nat) (v : Value), Chg S a b → Chg S a (b.setCell ⟨k, o, none⟩ v) := fun b o v hb =>
    hb.trans' (T := fun i => i = k) ⟨rfl, rfl, rfl, by simp, fun j _ hj => by simp only [World.setCell]; rw [Array.getElem?_modify, if_neg (fun e => hj e.symm)]⟩ (fun i hi e => by rcases hp with h | h; exact e ▸ h; omega)
  exact e _ _ _ (e _ _ _ (e _ _ _ (e _ _ _ h)))
end
end Go
namespace Go.Proofs.Ytboeldlilkeihaa
open Go.RowKit Go.Bx
/-- What the root's cell holds is the root; the blocks of its own are s. -/
def RootAt (c : Int) (Z : Nat → Prop) (w : World) (rt : Value) (s : Nat → Prop) : Option (Σ h, Nde (El h)) → Prop
  | none => rt = .pointer none ∧ ∀ b, ¬ s b
  | some q => ElAt c Z w (q.1 + 1) rt q.2 s
/-- A tree in memory. -/
structure TreeM (c : Int) (Z : Nat → Prop) (w : World) (p : Nat) (T : Tre) (cw : Value) (s : Nat → Prop) : Prop where
  at_ : ∃ rt, TreeAt w p c T.cnt T.rect rt cw ∧ RootAt c Z w rt s T.root
  ps : ¬ s p
  pZ : ¬ Z p
  sZ : ∀ k, s k → ¬ Z k
  zlt : ∀ k, Z k → k < w.heap.size
theorem RootAt.frame {c : Int} {Z : Nat → Prop} {w w' : World} {S : Nat → Prop} (hS : ∀ b, S b → ¬ Z b) (hc : Chg S w w') {rt : Value} {s : Nat → Prop} : ∀ {o : Option (Σ h, Nde (El h))}, RootAt c Z w rt s o → (∀ b, S b → ¬ s b) → RootAt c Z w' rt s o
  | none, h, _ => h
  | some _, h, k => ElAt.frame hS hc h k
theorem RootAt.lt {c : Int} {Z : Nat → Prop} {w : World} {rt : Value} {s : Nat → Prop} : ∀ {o : Option (Σ h, Nde (El h))}, RootAt c Z w rt s o → ∀ {b}, s b → b < w.heap.size
  | none, h, b, hb => (h.2 b hb).elim
  | some _, h, b, hb => ElAt.lt h hb
theorem TreeM.frame {c : Int} {Z : Nat → Prop} {w w' : World} {p : Nat} {T : Tre} {cw : Value} {s S : Nat → Prop} (h : TreeM c Z w p T cw s) (hc : Chg S w w') (hS : ∀ b, S b → ¬ Z b) (hs : ∀ b, S b → ¬ s b) (hp : ¬ S p) : TreeM c Z w' p T cw s := by
  obtain ⟨⟨rt, h1, h2⟩, h3, h4, h5, h6⟩ := h
  exact ⟨⟨rt, h1.chg hc hp, h2.frame hS hc hs⟩, h3, h4, h5, fun k hk => Nat.lt_of_lt_of_le (h6 k hk) hc.size⟩
theorem TreeM.lt {c : Int} {Z : Nat → Prop} {w : World} {p : Nat} {T : Tre} {cw : Value} {s : Nat → Prop} (h : TreeM c Z w p T cw s) : p < w.heap.size := by
  obtain ⟨⟨rt, h1, h2⟩, h3, h4, h5, h6⟩ := h
  exact h1.lt
theorem TreeM.slt {c : Int} {Z : Nat → Prop} {w : World} {p : Nat} {T : Tre} {cw : Value} {s : Nat → Prop} (h : TreeM c Z w p T cw s) {b : Nat} (hb : s b) : b < w.heap.size := by
  obtain ⟨⟨rt, h1, h2⟩, h3, h4, h5, h6⟩ := h
  exact h2.lt hb
end Go.Proofs.Ytboeldlilkeihaa
