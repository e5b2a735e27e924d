/- A node in memory. -/
import Derived.Test.YtboeldlilkeihaaRect
import Derived.Test.YtboeldlilkeihaaPln
import Derived.Lib.Hide
set_option linter.unusedSimpArgs false
set_option linter.unusedVariables false
/- A node of the tree in memory: its own block and the block of its list, read and written as a whole. -/
namespace Go
open Go.Bx Go.RowKit

/-- What a node's own block holds: the tree's number, whether it is a leaf, how many entries, the block of its list, the boxes. -/
structure Bx.Nd where
  icow : Int
  leaf : Bool
  cnt : Int
  q : Nat
  rc : Nat → R

namespace Bx
def kindOf (b : Bool) : Int := if b then 1 else 2
def listOf (b : Bool) (q : Nat) : Value := if b then .slice (some ⟨q, 0, none⟩) 64 64 else .slice none 0 0
def ndCell (N : Nd) : Nat → Value
  | 0 => .int .u64 N.icow
  | 1 => .int .i8 (kindOf N.leaf)
  | 2 => .int .i16 N.cnt
  | i + 3 => if i < 256 then .int .i64 (rcell (N.rc (i / 4)) (i % 4)) else if i = 256 then listOf N.leaf N.q else listOf (!N.leaf) N.q
def ndCells (N : Nd) : Array Value := Array.ofFn (n := 261) fun i => ndCell N i
def lsCells (f : Nat → Value) : Array Value := Array.ofFn (n := 64) fun i => f i
def Nd.setX0 (N : Nd) (i : Nat) (v : Int) : Nd := { N with rc := upd N.rc i { N.rc i with x0 := v } }
def Nd.setY0 (N : Nd) (i : Nat) (v : Int) : Nd := { N with rc := upd N.rc i { N.rc i with y0 := v } }
def Nd.setX1 (N : Nd) (i : Nat) (v : Int) : Nd := { N with rc := upd N.rc i { N.rc i with x1 := v } }
def Nd.setY1 (N : Nd) (i : Nat) (v : Int) : Nd := { N with rc := upd N.rc i { N.rc i with y1 := v } }
def Nd.setR (N : Nd) (i : Nat) (r : R) : Nd := { N with rc := upd N.rc i r }
def Nd.setCnt (N : Nd) (c : Int) : Nd := { N with cnt := c }
@[go_sem] theorem Nd.set4 (N : Nd) (i : Nat) (a b c d : Int) : (((N.setX0 i a).setY0 i b).setX1 i c).setY1 i d = N.setR i ⟨a, b, c, d⟩ := by
  simp only [Nd.setX0, Nd.setY0, Nd.setX1, Nd.setY1, Nd.setR, Nd.mk.injEq, true_and]
  funext k
  by_cases h : k = i <;> simp [upd, h]
theorem ndCells_get (N : Nd) (i : Nat) (h : i < 261) : (ndCells N)[i]? = some (ndCell N i) := by
  simp [ndCells, h]
theorem size_ndCells (N : Nd) : (ndCells N).size = 261 := by simp [ndCells]
theorem lsCells_get (f : Nat → Value) (i : Nat) (h : i < 64) : (lsCells f)[i]? = some (f i) := by simp [lsCells, h]
theorem size_lsCells (f : Nat → Value) : (lsCells f).size = 64 := by simp [lsCells]
theorem ndCell_rc (N : Nd) (i j : Nat) (h : i < 64) (hj : j < 4) : ndCell N (3 + i * 4 + j) = .int .i64 (rcell (N.rc i) j) := by
  rw [show 3 + i * 4 + j = (i * 4 + j) + 3 by omega]
  simp only [ndCell]
  rw [if_pos (by omega), show (i * 4 + j) / 4 = i by omega, show (i * 4 + j) % 4 = j by omega]
theorem ndCells_set (N M : Nd) (o : Nat) (v : Value) (h : ∀ k, k < 261 → ndCell M k = if k = o then v else ndCell N k) : (ndCells N).setIfInBounds o v = ndCells M := by
  apply Array.ext_getElem?
  intro k
  rw [Array.getElem?_setIfInBounds, size_ndCells]
  by_cases hk : k < 261
  · rw [ndCells_get _ _ hk, ndCells_get _ _ hk, h k hk]
    by_cases ho : o = k
    · subst ho; simp [hk]
    · rw [if_neg ho, if_neg (fun h => ho h.symm)]
  · rw [Array.getElem?_eq_none (by rw [size_ndCells]; omega), Array.getElem?_eq_none (by rw [size_ndCells]; omega)]
    split
    · rw [if_neg (by omega)]
    · rfl
theorem lsCells_set (f : Nat → Value) (o : Nat) (v : Value) : (lsCells f).setIfInBounds o v = lsCells (upd f o v) := by
  apply Array.ext_getElem?
  intro k
  rw [Array.getElem?_setIfInBounds, size_lsCells]
  by_cases hk : k < 64
  · rw [lsCells_get _ _ hk, lsCells_get _ _ hk]
    by_cases ho : o = k
    · subst ho; simp [hk, upd]
    · rw [if_neg ho, upd_other _ _ _ _ (fun h => ho h.symm)]
  · rw [Array.getElem?_eq_none (by rw [size_lsCells]; omega), Array.getElem?_eq_none (by rw [size_lsCells]; omega)]
    split
    · rw [if_neg (by omega)]
    · rfl
theorem ndCell_setR (N : Nd) (i j : Nat) (r : R) (v : Int) (hi : i < 64) (hj : j < 4) (h : ∀ k, k < 4 → rcell r k = if k = j then v else rcell (N.rc i) k) :
    ∀ k, k < 261 → ndCell { N with rc := upd N.rc i r } k = if k = 3 + i * 4 + j then .int .i64 v else ndCell N k := by
  intro k hk
  match k, hk with
  | 0, _ => rw [if_neg (by omega)]; rfl
  | 1, _ => rw [if_neg (by omega)]; rfl
  | 2, _ => rw [if_neg (by omega)]; rfl
  | k + 3, hk =>
    by_cases h1 : k < 256
    · simp only [ndCell, h1, if_true]
      by_cases h2 : k / 4 = i
      · rw [h2, upd_same, h _ (Nat.mod_lt _ (by omega))]
        by_cases h3 : k % 4 = j
        · rw [if_pos h3, if_pos (by omega)]
        · rw [if_neg h3, if_neg (by omega)]
      · rw [upd_other _ _ _ _ h2, if_neg (by omega)]
    · rw [if_neg (by omega)]
      simp only [ndCell, h1, if_false]
end Bx

/-- A node's block written as a whole; a list's block written as a whole. -/
def World.putN (w : World) (p : Nat) (N : Nd) : World := { w with heap := w.heap.setIfInBounds p (.cells (ndCells N) 110 (0, 0)) }
def World.putL (w : World) (q : Nat) (T : TypeId) (f : Nat → Value) : World := { w with heap := w.heap.setIfInBounds q (.cells (lsCells f) T (0, 0)) }

section
variable (w : World) (p q b o i : Nat) (N M : Nd) (T : TypeId) (f g : Nat → Value) (s : Option Nat) (v : Value)
theorem World.heap_putN (b : Nat) (h : p < w.heap.size) : (w.putN p N).heap[b]? = if p = b then some (.cells (ndCells N) 110 (0, 0)) else w.heap[b]? := by
  simp only [World.putN, Array.getElem?_setIfInBounds]
  by_cases hb : p = b
  · subst hb; simp [h]
  · simp [hb]
theorem World.heap_putL (b : Nat) (h : q < w.heap.size) : (w.putL q T f).heap[b]? = if q = b then some (.cells (lsCells f) T (0, 0)) else w.heap[b]? := by
  simp only [World.putL, Array.getElem?_setIfInBounds]
  by_cases hb : q = b
  · subst hb; simp [h]
  · simp [hb]
@[simp, go_sem] theorem World.size_putN : (w.putN p N).heap.size = w.heap.size := by simp [World.putN]
@[simp, go_sem] theorem World.size_putL : (w.putL q T f).heap.size = w.heap.size := by simp [World.putL]
@[go_sem] theorem World.putN_drewN (n : Nat) : (w.drewN n).putN p N = (w.putN p N).drewN n := rfl
@[go_sem] theorem World.putL_drewN (n : Nat) : (w.drewN n).putL q T f = (w.putL q T f).drewN n := rfl
@[go_sem] theorem World.putN_drew : w.drew.putN p N = (w.putN p N).drew := rfl
@[go_sem] theorem World.putL_drew : w.drew.putL q T f = (w.putL q T f).drew := rfl
@[go_sem] theorem World.putN_putN : (w.putN p N).putN p M = w.putN p M := by simp [World.putN]
@[go_sem] theorem World.putL_putL : (w.putL q T f).putL q T g = w.putL q T g := by simp [World.putL]
theorem World.set_comm (x y : Obj) (h : p ≠ q) : (w.heap.setIfInBounds p x).setIfInBounds q y = (w.heap.setIfInBounds q y).setIfInBounds p x := Array.setIfInBounds_comm _ _ h
@[go_sem] theorem World.putN_putL (h : q ≠ p) : (w.putL q T f).putN p N = (w.putN p N).putL q T f := by
  simp only [World.putN, World.putL]; rw [Array.setIfInBounds_comm _ _ h]
@[go_sem] theorem World.putN_putN3 (h : q ≠ p) (L : Nd) : ((w.putN p N).putN q L).putN p M = (w.putN p M).putN q L := by
  simp only [World.putN]; rw [Array.setIfInBounds_comm _ _ h]; simp
@[go_sem] theorem World.putL_putL3 (h : p ≠ q) (U : TypeId) (k : Nat → Value) : ((w.putL q T f).putL p U k).putL q T g = (w.putL q T g).putL p U k := by
  simp only [World.putL]; rw [Array.setIfInBounds_comm _ _ h]; simp
theorem World.cell_putN (h : p < w.heap.size) (ho : o < 261) : (w.putN p N).cell? ⟨p, o, none⟩ = some (ndCell N o) := by
  unfold World.cell?; rw [World.heap_putN _ _ _ _ h]; simp only [if_true]
  exact ndCells_get N o ho
@[go_sem] theorem World.cell_putN0 (h : p < w.heap.size) : (w.putN p N).cell? ⟨p, 0, none⟩ = some (.int .u64 N.icow) := World.cell_putN _ _ _ _ h (by omega)
@[go_sem] theorem World.cell_putN1 (h : p < w.heap.size) : (w.putN p N).cell? ⟨p, 1, none⟩ = some (.int .i8 (kindOf N.leaf)) := World.cell_putN _ _ _ _ h (by omega)
@[go_sem] theorem World.cell_putN2 (h : p < w.heap.size) : (w.putN p N).cell? ⟨p, 2, none⟩ = some (.int .i16 N.cnt) := World.cell_putN _ _ _ _ h (by omega)
@[go_sem] theorem World.cell_putN259 (h : p < w.heap.size) : (w.putN p N).cell? ⟨p, 259, none⟩ = some (listOf N.leaf N.q) := World.cell_putN _ _ _ _ h (by omega)
@[go_sem] theorem World.cell_putN260 (h : p < w.heap.size) : (w.putN p N).cell? ⟨p, 260, none⟩ = some (listOf (!N.leaf) N.q) := World.cell_putN _ _ _ _ h (by omega)
@[go_sem] theorem World.cell_rc0 (h : p < w.heap.size) (hi : i < 64) : (w.putN p N).cell? ⟨p, 3 + i * 4, none⟩ = some (.int .i64 (N.rc i).x0) := by
  rw [World.cell_putN _ _ _ _ h (by omega)]; exact congrArg some (ndCell_rc N i 0 hi (by omega))
@[go_sem] theorem World.cell_rc1 (h : p < w.heap.size) (hi : i < 64) : (w.putN p N).cell? ⟨p, 3 + i * 4 + 1, none⟩ = some (.int .i64 (N.rc i).y0) := by
  rw [World.cell_putN _ _ _ _ h (by omega)]; exact congrArg some (ndCell_rc N i 1 hi (by omega))
@[go_sem] theorem World.cell_rc2 (h : p < w.heap.size) (hi : i < 64) : (w.putN p N).cell? ⟨p, 3 + i * 4 + 2, none⟩ = some (.int .i64 (N.rc i).x1) := by
  rw [World.cell_putN _ _ _ _ h (by omega)]; exact congrArg some (ndCell_rc N i 2 hi (by omega))
@[go_sem] theorem World.cell_rc3 (h : p < w.heap.size) (hi : i < 64) : (w.putN p N).cell? ⟨p, 3 + i * 4 + 3, none⟩ = some (.int .i64 (N.rc i).y1) := by
  rw [World.cell_putN _ _ _ _ h (by omega)]; exact congrArg some (ndCell_rc N i 3 hi (by omega))
@[go_sem] theorem World.cell_putN_other (hb : b ≠ p) : (w.putN p N).cell? ⟨b, o, s⟩ = w.cell? ⟨b, o, s⟩ := by
  unfold World.cell? World.putN
  dsimp only
  rw [Array.getElem?_setIfInBounds_ne (Ne.symm hb)]
@[go_sem] theorem World.frozen_putN (h : p < w.heap.size) : (w.putN p N).frozen? ⟨p, o, s⟩ = false := by
  unfold World.frozen?; rw [World.heap_putN _ _ _ _ h]; simp
@[go_sem] theorem World.frozen_putN_other (hb : b ≠ p) : (w.putN p N).frozen? ⟨b, o, s⟩ = w.frozen? ⟨b, o, s⟩ := by
  unfold World.frozen? World.putN
  dsimp only
  rw [Array.getElem?_setIfInBounds_ne (Ne.symm hb)]
@[go_sem] theorem World.cell_putL (h : q < w.heap.size) (hi : i < 64) : (w.putL q T f).cell? ⟨q, i, none⟩ = some (f i) := by
  unfold World.cell?; rw [World.heap_putL _ _ _ _ _ h]; simp only [if_true]
  exact lsCells_get f i hi
@[go_sem] theorem World.cell_putL_other (hb : b ≠ q) : (w.putL q T f).cell? ⟨b, o, s⟩ = w.cell? ⟨b, o, s⟩ := by
  unfold World.cell? World.putL
  dsimp only
  rw [Array.getElem?_setIfInBounds_ne (Ne.symm hb)]
@[go_sem] theorem World.frozen_putL (h : q < w.heap.size) : (w.putL q T f).frozen? ⟨q, o, s⟩ = false := by
  unfold World.frozen?; rw [World.heap_putL _ _ _ _ _ h]; simp
@[go_sem] theorem World.frozen_putL_other (hb : b ≠ q) : (w.putL q T f).frozen? ⟨b, o, s⟩ = w.frozen? ⟨b, o, s⟩ := by
  unfold World.frozen? World.putL
  dsimp only
  rw [Array.getElem?_setIfInBounds_ne (Ne.symm hb)]
theorem World.modify_set {α : Type} (a : Array α) (p : Nat) (x : α) (k : α → α) : (a.setIfInBounds p x).modify p k = a.setIfInBounds p (k x) := by
  apply Array.ext_getElem?
  intro j
  rw [Array.getElem?_modify, Array.getElem?_setIfInBounds, Array.getElem?_setIfInBounds]
  by_cases h : p = j
  · subst h; by_cases hp : p < a.size <;> simp [hp]
  · simp [h]
theorem World.modify_set_ne {α : Type} (a : Array α) (p b : Nat) (x : α) (k : α → α) (h : b ≠ p) : (a.setIfInBounds p x).modify b k = (a.modify b k).setIfInBounds p x := by
  apply Array.ext_getElem?
  intro j
  simp only [Array.getElem?_modify, Array.getElem?_setIfInBounds, Array.size_modify]
  by_cases h1 : b = j <;> by_cases h2 : p = j
  · omega
  · simp [h1, h2]
  · simp [h1, h2]
  · simp [h1, h2]
@[go_sem] theorem World.setCell_putN_other (hb : b ≠ p) : (w.putN p N).setCell ⟨b, o, s⟩ v = (w.setCell ⟨b, o, s⟩ v).putN p N := by
  simp only [World.putN, World.setCell]
  rw [World.modify_set_ne _ _ _ _ _ hb]
@[go_sem] theorem World.setCell_putL_other (hb : b ≠ q) : (w.putL q T f).setCell ⟨b, o, s⟩ v = (w.setCell ⟨b, o, s⟩ v).putL q T f := by
  simp only [World.putL, World.setCell]
  rw [World.modify_set_ne _ _ _ _ _ hb]
theorem World.setCell_putN (h : ∀ k, k < 261 → ndCell M k = if k = o then v else ndCell N k) : (w.putN p N).setCell ⟨p, o, none⟩ v = w.putN p M := by
  simp only [World.putN, World.setCell]
  rw [World.modify_set]
  simp only [Option.isSome_none, Bool.false_eq_true, if_false]
  rw [ndCells_set N M o v h]
@[go_sem] theorem World.setCell_putL : (w.putL q T f).setCell ⟨q, i, none⟩ v = w.putL q T (upd f i v) := by
  simp only [World.putL, World.setCell]
  rw [World.modify_set]
  simp only [Option.isSome_none, Bool.false_eq_true, if_false]
  rw [lsCells_set]
@[go_sem] theorem World.setCell_cnt (c : Int) : (w.putN p N).setCell ⟨p, 2, none⟩ (.int .i16 c) = w.putN p (N.setCnt c) := by
  refine World.setCell_putN _ _ _ _ _ _ fun k hk => ?_
  match k, hk with
  | 0, _ => rfl
  | 1, _ => rfl
  | 2, _ => rfl
  | k + 3, _ => rw [if_neg (by omega)]; rfl
@[go_sem] theorem World.setCell_rc0 (c : Int) (hi : i < 64) : (w.putN p N).setCell ⟨p, 3 + i * 4, none⟩ (.int .i64 c) = w.putN p (N.setX0 i c) :=
  World.setCell_putN _ _ _ _ _ _ (ndCell_setR N i 0 _ c hi (by omega) fun k hk => by match k, hk with | 0, _ => rfl | 1, _ => rfl | 2, _ => rfl | 3, _ => rfl)
@[go_sem] theorem World.setCell_rc1 (c : Int) (hi : i < 64) : (w.putN p N).setCell ⟨p, 3 + i * 4 + 1, none⟩ (.int .i64 c) = w.putN p (N.setY0 i c) :=
  World.setCell_putN _ _ _ _ _ _ (ndCell_setR N i 1 _ c hi (by omega) fun k hk => by match k, hk with | 0, _ => rfl | 1, _ => rfl | 2, _ => rfl | 3, _ => rfl)
@[go_sem] theorem World.setCell_rc2 (c : Int) (hi : i < 64) : (w.putN p N).setCell ⟨p, 3 + i * 4 + 2, none⟩ (.int .i64 c) = w.putN p (N.setX1 i c) :=
  World.setCell_putN _ _ _ _ _ _ (ndCell_setR N i 2 _ c hi (by omega) fun k hk => by match k, hk with | 0, _ => rfl | 1, _ => rfl | 2, _ => rfl | 3, _ => rfl)
@[go_sem] theorem World.setCell_rc3 (c : Int) (hi : i < 64) : (w.putN p N).setCell ⟨p, 3 + i * 4 + 3, none⟩ (.int .i64 c) = w.putN p (N.setY1 i c) :=
  World.setCell_putN _ _ _ _ _ _ (ndCell_setR N i 3 _ c hi (by omega) fun k hk => by match k, hk with | 0, _ => rfl | 1, _ => rfl | 2, _ => rfl | 3, _ => rfl)
/-- A node, a list lie there. -/
def NodeAt (w : World) (p : Nat) (N : Nd) : Prop := w.heap[p]? = some (.cells (ndCells N) 110 (0, 0))
def ListAt (w : World) (q : Nat) (T : TypeId) (f : Nat → Value) : Prop := w.heap[q]? = some (.cells (lsCells f) T (0, 0))
theorem set_self {α : Type} (a : Array α) (p : Nat) (x : α) (h : a[p]? = some x) : a.setIfInBounds p x = a := by
  apply Array.ext_getElem?
  intro j
  rw [Array.getElem?_setIfInBounds]
  split
  · rename_i hj; subst hj
    obtain ⟨hp, hx⟩ := Array.getElem?_eq_some_iff.1 h
    rw [if_pos hp, h]
  · rfl
theorem NodeAt.lt {w : World} {p : Nat} {N : Nd} (h : NodeAt w p N) : p < w.heap.size := (Array.getElem?_eq_some_iff.1 h).1
theorem ListAt.lt {w : World} {q : Nat} {T : TypeId} {f : Nat → Value} (h : ListAt w q T f) : q < w.heap.size := (Array.getElem?_eq_some_iff.1 h).1
theorem NodeAt.self {w : World} {p : Nat} {N : Nd} (h : NodeAt w p N) : w.putN p N = w := by
  unfold World.putN; rw [set_self _ _ _ h]
theorem ListAt.self {w : World} {q : Nat} {T : TypeId} {f : Nat → Value} (h : ListAt w q T f) : w.putL q T f = w := by
  unfold World.putL; rw [set_self _ _ _ h]
theorem NodeAt.put {w : World} {p : Nat} (N : Nd) (h : p < w.heap.size) : NodeAt (w.putN p N) p N := by unfold NodeAt; rw [World.heap_putN _ _ _ _ h, if_pos rfl]
theorem ListAt.put {w : World} {q : Nat} (T : TypeId) (f : Nat → Value) (h : q < w.heap.size) : ListAt (w.putL q T f) q T f := by unfold ListAt; rw [World.heap_putL _ _ _ _ _ h, if_pos rfl]
theorem NodeAt.of_block {w w' : World} {p : Nat} {N : Nd} (h : NodeAt w p N) (hb : w'.heap[p]? = w.heap[p]?) : NodeAt w' p N := hb.trans h
theorem ListAt.of_block {w w' : World} {q : Nat} {T : TypeId} {f : Nat → Value} (h : ListAt w q T f) (hb : w'.heap[q]? = w.heap[q]?) : ListAt w' q T f := hb.trans h
theorem NodeAt.putN_other {w : World} {p p' : Nat} {N M : Nd} (h : NodeAt w p N) (hne : p' ≠ p) : NodeAt (w.putN p' M) p N := h.of_block (by simp only [World.putN]; rw [Array.getElem?_setIfInBounds_ne hne])
theorem NodeAt.putL_other {w : World} {p q : Nat} {N : Nd} {T : TypeId} {f : Nat → Value} (h : NodeAt w p N) (hne : q ≠ p) : NodeAt (w.putL q T f) p N := h.of_block (by simp only [World.putL]; rw [Array.getElem?_setIfInBounds_ne hne])
theorem ListAt.putN_other {w : World} {p q : Nat} {M : Nd} {T : TypeId} {f : Nat → Value} (h : ListAt w q T f) (hne : p ≠ q) : ListAt (w.putN p M) q T f := h.of_block (by simp only [World.putN]; rw [Array.getElem?_setIfInBounds_ne hne])
theorem ListAt.putL_other {w : World} {q q' : Nat} {T U : TypeId} {f g : Nat → Value} (h : ListAt w q T f) (hne : q' ≠ q) : ListAt (w.putL q' U g) q T f := h.of_block (by simp only [World.putL]; rw [Array.getElem?_setIfInBounds_ne hne])
theorem NodeAt.drewN {w : World} {p : Nat} {N : Nd} (h : NodeAt w p N) (n : Nat) : NodeAt (w.drewN n) p N := h
theorem ListAt.drewN {w : World} {q : Nat} {T : TypeId} {f : Nat → Value} (h : ListAt w q T f) (n : Nat) : ListAt (w.drewN n) q T f := h
end
end Go
/- The contracts of the small functions of a node: leaf, items, children, swap. -/
namespace Go
namespace Bx
@[go_sem] theorem kindOf_true : kindOf true = 1 := rfl
@[go_sem] theorem kindOf_false : kindOf false = 2 := rfl
@[go_sem] theorem listOf_true (q : Nat) : listOf true q = .slice (some ⟨q, 0, none⟩) 64 64 := rfl
@[go_sem] theorem listOf_false (q : Nat) : listOf false q = .slice none 0 0 := rfl
end Bx
open Go.Bx
theorem NodeAt.opn {w : World} {p : Nat} {N : Nd} (h : NodeAt w p N) : ∃ w0 : World, w = w0.putN p N ∧ p < w0.heap.size := ⟨w, h.self.symm, h.lt⟩
theorem NodeAt.opn2 {w : World} {p q : Nat} {N : Nd} {T : TypeId} {f : Nat → Value} (h : NodeAt w p N) (k : ListAt w q T f) : ∃ w0 : World, w = (w0.putN p N).putL q T f ∧ p < w0.heap.size ∧ q < w0.heap.size :=
  ⟨w, by rw [h.self, k.self], h.lt, k.lt⟩
end Go
namespace Go.Proofs.Ytboeldlilkeihaa
open Go.RowKit Go.Bx

/-- What a list holds: whole numbers in a leaf, pointers in a branch. -/
def Fit (b : Bool) (f : Nat → Value) : Prop := match b with
  | true => ∃ g : Nat → Int, f = fun k => .int .i64 (g k)
  | false => ∃ g : Nat → Option Addr, f = fun k => .pointer (g k)
theorem Fit.swap {b : Bool} {f : Nat → Value} (h : Fit b f) (i j : Nat) : Fit b (swapF f i j) := by
  cases b
  · obtain ⟨g, rfl⟩ := h
    exact ⟨swapF g i j, by funext k; simp only [swapF]; split <;> (try split) <;> rfl⟩
  · obtain ⟨g, rfl⟩ := h
    exact ⟨swapF g i j, by funext k; simp only [swapF]; split <;> (try split) <;> rfl⟩
/-- The type of what a node's list holds. -/
def elT (b : Bool) : TypeId := if b then 3 else 92

theorem leaf_c (w : World) (p : Nat) (N : Nd) (hN : NodeAt w p N) :
    Calls Try.prog 62 #[.pointer (some ⟨p, 0, none⟩)] w fun e w' => e = .returned (.bool N.leaf) ∧ w' = w := by
  obtain ⟨w0, rfl, hp⟩ := hN.opn
  clear hN
  cases hb : N.leaf
  · go_enter Try.func62, Try.ntmps62
    go_wp2
    go_ret
    exact ⟨rfl, rfl⟩
  · go_enter Try.func62, Try.ntmps62
    go_wp2
    go_ret
    exact ⟨rfl, rfl⟩

theorem items_c (w : World) (p : Nat) (N : Nd) (hN : NodeAt w p N) (hb : N.leaf = true) :
    Calls Try.prog 76 #[.pointer (some ⟨p, 0, none⟩)] w fun e w' => e = .returned (.slice (some ⟨N.q, 0, none⟩) 64 64) ∧ w' = w := by
  obtain ⟨w0, rfl, hp⟩ := hN.opn
  clear hN
  go_enter Try.func76, Try.ntmps76
  go_wp2
  go_ret
  exact ⟨rfl, rfl⟩

theorem children_c (w : World) (p : Nat) (N : Nd) (hN : NodeAt w p N) (hb : N.leaf = false) :
    Calls Try.prog 63 #[.pointer (some ⟨p, 0, none⟩)] w fun e w' => e = .returned (.slice (some ⟨N.q, 0, none⟩) 64 64) ∧ w' = w := by
  obtain ⟨w0, rfl, hp⟩ := hN.opn
  clear hN
  go_enter Try.func63, Try.ntmps63
  go_wp2
  go_ret
  exact ⟨rfl, rfl⟩

theorem swap_nd (icow : Int) (leaf : Bool) (cnt : Int) (q : Nat) (rc : Nat → R) (i j : Nat) :
    ((⟨icow, leaf, cnt, q, rc⟩ : Nd).setR i ⟨(rc j).x0, (rc j).y0, (rc j).x1, (rc j).y1⟩).setR j ⟨(rc i).x0, (rc i).y0, (rc i).x1, (rc i).y1⟩ = ⟨icow, leaf, cnt, q, swapF rc i j⟩ := by
  simp only [Nd.setR, Nd.mk.injEq, true_and]
  exact upd_swap rc i j

set_option maxRecDepth 100000 in
theorem swap_c (w : World) (p : Nat) (N : Nd) (f : Nat → Value) (i j : Nat) (hN : NodeAt w p N) (hL : ListAt w N.q (elT N.leaf) f) (hf : Fit N.leaf f) (hpq : p ≠ N.q) (hi : i < 64) (hj : j < 64) :
    Calls Try.prog 92 #[.pointer (some ⟨p, 0, none⟩), .int .i64 i, .int .i64 j] w fun e w' => e = .returned (.tuple #[]) ∧
      ∃ n, w' = ((w.putN p { N with rc := swapF N.rc i j }).putL N.q (elT N.leaf) (swapF f i j)).drewN n := by
  obtain ⟨icow, leaf, cnt, q, rc⟩ := N
  dsimp only at *
  obtain ⟨w0, rfl, hp, hq⟩ := hN.opn2 hL
  clear hN hL
  have hqp : q ≠ p := hpq.symm
  generalize hT : elT leaf = T
  have HT := Lib.hid hT
  clear hT
  have i1 : (0 : Int) ≤ (i : Int) := by omega
  have i2 : (i : Int) < 64 := by omega
  have j1 : (0 : Int) ≤ (j : Int) := by omega
  have j2 : (j : Int) < 64 := by omega
  cases hb : leaf
  case false =>
    subst hb
    obtain ⟨g, rfl⟩ := hf
    go_enter Try.func92, Try.ntmps92
    go_wp2_with fail
    (refine Mix.wp_region_drw 19 [3, 0] (by kernel_rfl) (by kernel_rfl) ?_; simp only [List.take_succ_cons, List.take_zero, List.drop_succ_cons, List.drop_zero]; (repeat (go_big_quiet_step (fail))); refine wpQuiet_nil ?_)
    (refine Mix.wpTl_dr (fun n K hK => ?_); go_simp; refine ⟨_, ⟨_, rfl⟩, hK _ _ trivial ?_⟩; clear hK K; simp only [Act.put, List.take_succ_cons, List.take_zero, List.drop_succ_cons, List.drop_zero])
    (repeat (go_big_quiet_step (fail))); refine wpQuiet_nil ?_
    (refine Mix.wpTl_dr (fun n K hK => ?_); go_simp; refine ⟨_, ⟨_, rfl⟩, hK _ _ trivial ?_⟩; clear hK K; simp only [Act.put, List.take_succ_cons, List.take_zero, List.drop_succ_cons, List.drop_zero])
    (refine wpQuiet_nil ?_; intro nq)
    rw [swap_nd]
    go_wp2_with fail
    refine (leaf_c _ p ⟨icow, _, cnt, q, _⟩ (((NodeAt.put _ hp).putL_other hqp).drewN _)).mono ?_
    rintro e w1 ⟨rfl, rfl⟩
    go_wp2_with fail
    (refine Mix.wp_region_drw 17 [1, 0] (by kernel_rfl) (by kernel_rfl) ?_; simp only [List.take_succ_cons, List.take_zero, List.drop_succ_cons, List.drop_zero]; (repeat (go_big_quiet_step ((go_at_call 63; exact Mix.calls_q (children_c _ p ⟨icow, _, cnt, q, _⟩ (((NodeAt.put _ hp).putL_other hqp).drewN _) rfl) ⟨_, rfl⟩)))); refine wpQuiet_nil ?_)
    (refine Mix.wpTl_dr (fun n K hK => ?_); go_simp; refine ⟨_, ⟨_, rfl⟩, hK _ _ trivial ?_⟩; clear hK K; simp only [Act.put, List.take_succ_cons, List.take_zero, List.drop_succ_cons, List.drop_zero])
    (repeat (go_big_quiet_step (fail))); refine wpQuiet_nil ?_
    (refine Mix.wpTl_dr (fun n K hK => ?_); go_simp; refine ⟨_, ⟨_, rfl⟩, hK _ _ trivial ?_⟩; clear hK K; simp only [Act.put, List.take_succ_cons, List.take_zero, List.drop_succ_cons, List.drop_zero])
    (refine wpQuiet_nil ?_; intro nq)
    go_wp2_with fail
    go_end0
    refine ⟨rfl, ?_⟩
    have e := upd_swap (fun k => Value.pointer (g k)) i j
    rw [e]
    rw [World.putN_putL _ _ _ _ _ _ hqp, World.putN_putN, World.putL_putL]
    exact ⟨_, rfl⟩
  case true =>
    subst hb
    obtain ⟨g, rfl⟩ := hf
    go_enter Try.func92, Try.ntmps92
    go_wp2_with fail
    (refine Mix.wp_region_drw 19 [3, 0] (by kernel_rfl) (by kernel_rfl) ?_; simp only [List.take_succ_cons, List.take_zero, List.drop_succ_cons, List.drop_zero]; (repeat (go_big_quiet_step (fail))); refine wpQuiet_nil ?_)
    (refine Mix.wpTl_dr (fun n K hK => ?_); go_simp; refine ⟨_, ⟨_, rfl⟩, hK _ _ trivial ?_⟩; clear hK K; simp only [Act.put, List.take_succ_cons, List.take_zero, List.drop_succ_cons, List.drop_zero])
    (repeat (go_big_quiet_step (fail))); refine wpQuiet_nil ?_
    (refine Mix.wpTl_dr (fun n K hK => ?_); go_simp; refine ⟨_, ⟨_, rfl⟩, hK _ _ trivial ?_⟩; clear hK K; simp only [Act.put, List.take_succ_cons, List.take_zero, List.drop_succ_cons, List.drop_zero])
    (refine wpQuiet_nil ?_; intro nq)
    rw [swap_nd]
    go_wp2_with fail
    refine (leaf_c _ p ⟨icow, _, cnt, q, _⟩ (((NodeAt.put _ hp).putL_other hqp).drewN _)).mono ?_
    rintro e w1 ⟨rfl, rfl⟩
    go_wp2_with fail
    (refine Mix.wp_region_drw 17 [1, 0] (by kernel_rfl) (by kernel_rfl) ?_; simp only [List.take_succ_cons, List.take_zero, List.drop_succ_cons, List.drop_zero]; (repeat (go_big_quiet_step ((go_at_call 76; exact Mix.calls_q (items_c _ p ⟨icow, _, cnt, q, _⟩ (((NodeAt.put _ hp).putL_other hqp).drewN _) rfl) ⟨_, rfl⟩)))); refine wpQuiet_nil ?_)
    (refine Mix.wpTl_dr (fun n K hK => ?_); go_simp; refine ⟨_, ⟨_, rfl⟩, hK _ _ trivial ?_⟩; clear hK K; simp only [Act.put, List.take_succ_cons, List.take_zero, List.drop_succ_cons, List.drop_zero])
    (repeat (go_big_quiet_step (fail))); refine wpQuiet_nil ?_
    (refine Mix.wpTl_dr (fun n K hK => ?_); go_simp; refine ⟨_, ⟨_, rfl⟩, hK _ _ trivial ?_⟩; clear hK K; simp only [Act.put, List.take_succ_cons, List.take_zero, List.drop_succ_cons, List.drop_zero])
    (refine wpQuiet_nil ?_; intro nq)
    go_wp2_with fail
    go_end0
    refine ⟨rfl, ?_⟩
    have e := upd_swap (fun k => Value.int .i64 (g k)) i j
    rw [e]
    rw [World.putN_putL _ _ _ _ _ _ hqp, World.putN_putN, World.putL_putL]
    exact ⟨_, rfl⟩
end Go.Proofs.Ytboeldlilkeihaa
/- The contract of a node's 'rect': the box around its boxes. -/
namespace Go
open Go.Bx
theorem NodeAt.ex {w w' : World} {p : Nat} {N : Nd} (h : NodeAt w p N) (hx : Mix.Ex w w') : NodeAt w' p N := by
  obtain ⟨x, rfl⟩ := hx
  exact h.of_block (World.heap_ext w x p h.lt)
theorem ListAt.ex {w w' : World} {q : Nat} {T : TypeId} {f : Nat → Value} (h : ListAt w q T f) (hx : Mix.Ex w w') : ListAt w' q T f := by
  obtain ⟨x, rfl⟩ := hx
  exact h.of_block (World.heap_ext w x q h.lt)
theorem Mix.Ex.putN {a b : World} (h : Mix.Ex a b) {p : Nat} (hp : a.heap.size ≤ p) (N : Nd) : Mix.Ex a (b.putN p N) :=
  .of_below (h.below.trans ⟨rfl, rfl, rfl, by simp, fun k hk => by simp only [World.putN]; rw [Array.getElem?_setIfInBounds_ne (by omega)]⟩)
theorem Mix.Ex.putL {a b : World} (h : Mix.Ex a b) {q : Nat} (hq : a.heap.size ≤ q) (T : TypeId) (f : Nat → Value) : Mix.Ex a (b.putL q T f) :=
  .of_below (h.below.trans ⟨rfl, rfl, rfl, by simp, fun k hk => by simp only [World.putL]; rw [Array.getElem?_setIfInBounds_ne (by omega)]⟩)
theorem NodeAt.cell0 {w : World} {p : Nat} {N : Nd} (h : NodeAt w p N) : w.cell? ⟨p, 0, none⟩ = some (.int .u64 N.icow) := by have := h.lt; rw [← h.self]; exact World.cell_putN0 _ _ _ this
theorem NodeAt.cell1 {w : World} {p : Nat} {N : Nd} (h : NodeAt w p N) : w.cell? ⟨p, 1, none⟩ = some (.int .i8 (kindOf N.leaf)) := by have := h.lt; rw [← h.self]; exact World.cell_putN1 _ _ _ this
theorem NodeAt.cell2 {w : World} {p : Nat} {N : Nd} (h : NodeAt w p N) : w.cell? ⟨p, 2, none⟩ = some (.int .i16 N.cnt) := by have := h.lt; rw [← h.self]; exact World.cell_putN2 _ _ _ this
end Go
namespace Go.Proofs.Ytboeldlilkeihaa
open Go.RowKit Go.Bx
theorem rectAt_alloc (w : World) (r : R) (T : TypeId) {B : Nat} (hB : w.heap.size = B) : RectAt (w.alloc (.cells #[.int .i64 r.x0, .int .i64 r.y0, .int .i64 r.x1, .int .i64 r.y1] T)) B 0 r := by
  subst hB
  refine ⟨?_, ?_, ?_, ?_⟩ <;> simp
theorem openAt_alloc (w : World) (cs : Array Value) (T : TypeId) {B : Nat} (hB : w.heap.size = B) : OpenAt (w.alloc (.cells cs T)) B 0 := by
  subst hB
  refine ⟨?_, ?_, ?_, ?_⟩ <;> simp
theorem rectAt_alloc_old {w : World} {b o : Nat} {r : R} (h : RectAt w b o r) (x : Obj) : RectAt (w.alloc x) b o r := h.of_ex ((Mix.Ex.refl _).alloc _)
theorem rectAt_setRect_other {w : World} {b o c q : Nat} {r s : R} (h : RectAt w b o r) (hne : b ≠ c) : RectAt (setRect w c q s) b o r := by
  obtain ⟨h0, h1, h2, h3⟩ := h
  unfold setRect
  refine ⟨?_, ?_, ?_, ?_⟩ <;> go_simp
theorem openAt_setRect {w : World} {b o c q : Nat} {s : R} (h : OpenAt w b o) : OpenAt (setRect w c q s) b o := by
  obtain ⟨h0, h1, h2, h3⟩ := h
  unfold setRect
  refine ⟨?_, ?_, ?_, ?_⟩ <;> go_simp
theorem OpenAt.of_dr {w : World} {b o : Nat} (h : OpenAt w b o) (n : Nat) : OpenAt (w.drewN n) b o := h
theorem openAt_alloc_old {w : World} {b o : Nat} (h : OpenAt w b o) (hb : b < w.heap.size) (x : Obj) : OpenAt (w.alloc x) b o := by
  obtain ⟨h0, h1, h2, h3⟩ := h
  refine ⟨?_, ?_, ?_, ?_⟩ <;> (rw [World.frozen?_alloc_past _ _ _ hb]; assumption)
theorem rectAt_node {w : World} {p : Nat} {N : Nd} (h : NodeAt w p N) {i : Nat} (hi : i < 64) : RectAt w p (3 + i * 4) (N.rc i) := by
  have hl := h.lt
  rw [← h.self]
  exact ⟨World.cell_rc0 _ _ _ _ hl hi, World.cell_rc1 _ _ _ _ hl hi, World.cell_rc2 _ _ _ _ hl hi, World.cell_rc3 _ _ _ _ hl hi⟩

set_option maxRecDepth 100000 in
set_option maxHeartbeats 1600000 in
theorem noderect_c (w : World) (p : Nat) (N : Nd) (n : Nat) (hN : NodeAt w p N) (hn : N.cnt = n) (h64 : n ≤ 64) :
    Calls Try.prog 83 #[.pointer (some ⟨p, 0, none⟩)] w fun e w' => (∃ r, r = bndF N.rc (n - 1) ∧ e = .returned (.agg #[.int .i64 r.x0, .int .i64 r.y0, .int .i64 r.x1, .int .i64 r.y1])) ∧ Mix.Ex w w' := by
  obtain ⟨icow, leaf, cnt, q, rc⟩ := N
  dsimp only at hn
  subst hn
  dsimp only
  have hp := hN.lt
  obtain ⟨B, hB⟩ : ∃ B, w.heap.size = B := ⟨_, rfl⟩
  rw [hB] at hp
  have r0 := rectAt_node hN (i := 0) (by omega)
  obtain ⟨k0, k1, k2, k3⟩ := r0
  simp only [Nat.zero_mul, Nat.add_zero, Nat.reduceAdd] at k0 k1 k2 k3
  go_enter Try.func83, Try.ntmps83
  go_wp2_with fail
  go_loopw [4] (fun i wr => ∃ k : Nat, 1 ≤ k ∧ k ≤ max n 1 ∧ i = .int .i64 k ∧ RectAt wr (B + 1) 0 (bndF rc (k - 1)) ∧ OpenAt wr (B + 1) 0 ∧ OpenAt wr B 0 ∧ RectAt wr B 0 ⟨0, 0, 0, 0⟩ ∧ Mix.Ex w wr) (fun i _ => n - (intOf i).toNat)
  case atStart =>
    exact ⟨1, by omega, by omega, rfl, rectAt_alloc _ (rc 0) _ (by simp [hB]), openAt_alloc _ _ _ (by simp [hB]), openAt_alloc_old (openAt_alloc _ _ _ hB) (by simp; omega) _, rectAt_alloc_old (rectAt_alloc _ ⟨0, 0, 0, 0⟩ _ hB) _, ((Mix.Ex.refl _).alloc _).alloc _⟩
  case round =>
    obtain ⟨k, hk1, hkn, rfl, hr, ho, ho0, hr0, hx⟩ := hrel
    have hN' := hN.ex hx
    have hc := hN'.cell2
    have hk64 : k ≤ 64 := by omega
    have hbs := hx.below.size
    obtain ⟨l0, l1, l2, l3⟩ := id hr
    obtain ⟨o0, o1, o2, o3⟩ := id ho0
    obtain ⟨m0, m1, m2, m3⟩ := id hr0
    simp only [Nat.zero_add] at l0 l1 l2 l3 o0 o1 o2 o3 m0 m1 m2 m3
    dsimp only at hc
    go_wp2_with fail
    · refine (expand_c _ (B + 1) 0 p (3 + k * 4) _ (rc k) hr (rectAt_node hN' (by omega)) (by omega) ho.1 ho.2.1 ho.2.2.1 ho.2.2.2).mono ?_
      rintro e w1 ⟨rfl, n1, rfl⟩
      have hlt : k < n := by assumption
      clear l0 l1 l2 l3 o0 o1 o2 o3 m0 m1 m2 m3 hc
      go_wp2_with fail
      go_roundw
      case rel =>
        refine ⟨k + 1, by omega, by omega, by go_num, ?_, ?_, ?_, ?_, ?_⟩
        · have : bndF rc (k + 1 - 1) = (bndF rc (k - 1)).expand (rc k) := by
            obtain ⟨j, rfl⟩ : ∃ j, k = j + 1 := ⟨k - 1, by omega⟩
            rfl
          rw [this]
          exact (RectAt.set hr _).of_dr _
        · exact (openAt_setRect ho).of_dr _
        · exact (openAt_setRect ho0).of_dr _
        · exact (rectAt_setRect_other hr0 (by omega)).of_dr _
        · exact (ex_setRect hx (by omega) _).drewN _
      case measure => simp [intOf]; omega
    have : k = max n 1 := by omega
    obtain ⟨r, hrr⟩ : ∃ r, bndF rc (k - 1) = r := ⟨_, rfl⟩
    rw [hrr]
    refine bodyPost_ret (v := .agg #[.int .i64 r.x0, .int .i64 r.y0, .int .i64 r.x1, .int .i64 r.y1]) (by simp [results, Try.results83, go_sem, m0, m1, m2, m3]) rfl ⟨⟨_, ?_, rfl⟩, ?_⟩
    · rw [← hrr, show k - 1 = n - 1 by omega]
    · exact (((hx.setCell (by simp [hB]) _).setCell (by simp [hB]) _).setCell (by simp [hB]) _).setCell (by simp [hB]) _
end Go.Proofs.Ytboeldlilkeihaa
/- A node's entries as one list of pairs: swap on it. -/
namespace Go
namespace Bx
/-- The entries of a node: a box and what stands in the list. -/
abbrev Ent := Nat → R × Value
def ndE (N : Nd) (E : Ent) : Nd := { N with rc := fun i => (E i).1 }
def fE (E : Ent) : Nat → Value := fun i => (E i).2
theorem swapF_fst (E : Ent) (i j : Nat) : swapF (fun k => (E k).1) i j = fun k => (swapF E i j k).1 := by
  funext k; simp only [swapF]; split <;> (try split) <;> rfl
theorem swapF_snd (E : Ent) (i j : Nat) : swapF (fE E) i j = fE (swapF E i j) := by
  funext k; simp only [swapF, fE]; split <;> (try split) <;> rfl
end Bx
open Go.Bx
def World.putE (w : World) (p : Nat) (N : Nd) (T : TypeId) (E : Ent) : World := (w.putN p (ndE N E)).putL N.q T (fE E)
theorem World.putE_put (w : World) (p : Nat) (N : Nd) (T : TypeId) (E F : Ent) (h : N.q ≠ p) : ((w.putE p N T E).putN p (ndE N F)).putL N.q T (fE F) = w.putE p N T F := by
  unfold World.putE
  rw [World.putN_putL _ _ _ _ _ _ h, World.putN_putN, World.putL_putL]
theorem NodeAt.putE (w : World) (p : Nat) (N : Nd) (T : TypeId) (E : Ent) (hp : p < w.heap.size) (h : N.q ≠ p) : NodeAt (w.putE p N T E) p (ndE N E) := (NodeAt.put _ hp).putL_other h
theorem ListAt.putE (w : World) (p : Nat) (N : Nd) (T : TypeId) (E : Ent) (hq : N.q < w.heap.size) : ListAt (w.putE p N T E) N.q T (fE E) := ListAt.put _ _ (by simp; exact hq)
theorem putE_self {w : World} {p : Nat} {N : Nd} {T : TypeId} {f : Nat → Value} (h : NodeAt w p N) (k : ListAt w N.q T f) : w.putE p N T (fun i => (N.rc i, f i)) = w := by
  show (w.putN p N).putL N.q T f = w
  rw [h.self, k.self]
end Go
namespace Go.Proofs.Ytboeldlilkeihaa
open Go.RowKit Go.Bx
theorem swapE_c (w : World) (p : Nat) (N : Nd) (E : Ent) (i j d : Nat) (hp : p < w.heap.size) (hq : N.q < w.heap.size) (hpq : p ≠ N.q) (hf : Fit N.leaf (fE E)) (hi : i < 64) (hj : j < 64) :
    Calls Try.prog 92 #[.pointer (some ⟨p, 0, none⟩), .int .i64 i, .int .i64 j] ((w.putE p N (elT N.leaf) E).drewN d) fun e w' => e = .returned (.tuple #[]) ∧ ∃ d, w' = (w.putE p N (elT N.leaf) (swapF E i j)).drewN d := by
  refine (swap_c _ p (ndE N E) (fE E) i j ((NodeAt.putE w p N (elT N.leaf) E hp hpq.symm).drewN d) ((ListAt.putE w p N (elT N.leaf) E hq).drewN d) hf hpq hi hj).mono ?_
  rintro e w' ⟨rfl, n, rfl⟩
  refine ⟨rfl, d + n, ?_⟩
  have e1 : ({ ndE N E with rc := swapF (ndE N E).rc i j } : Nd) = ndE N (swapF E i j) := by
    unfold ndE; dsimp only; rw [swapF_fst]
  rw [e1, swapF_snd]
  show ((((w.putE p N (elT N.leaf) E).putN p (ndE N (swapF E i j))).putL N.q (elT N.leaf) (fE (swapF E i j))).drewN d).drewN n = _
  rw [World.putE_put _ _ _ _ _ _ hpq.symm, World.drewN_drewN]
theorem Fit.swapE {b : Bool} {E : Ent} (h : Fit b (fE E)) (i j : Nat) : Fit b (fE (swapF E i j)) := by rw [← swapF_snd]; exact h.swap i j
end Go.Proofs.Ytboeldlilkeihaa
