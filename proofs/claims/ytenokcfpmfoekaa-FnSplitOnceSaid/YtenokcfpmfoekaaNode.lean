/- A node of the tree in memory: its own block and the block of its list, read and written as a whole. -/
import Derived.Test.YtenokcfpmfoekaaExpand
import Derived.Test.YtenokcfpmfoekaaOps
set_option linter.unusedSimpArgs false
set_option linter.unusedVariables false
namespace Go
open Go.Bx Go.RowKit

/-- What a node's own block holds: the tree's number, whether it is a leaf, how many entries, the block of its list, the boxes. -/
structure Bx.Nd where
  icow : Int
  leaf : Bool
  cnt : Int
  q : Nat
  rc : Nat → R

namespace Bx
def kindOf (b : Bool) : Int := if b then 1 else 2
def listOf (b : Bool) (q : Nat) : Value := if b then .slice (some ⟨q, 0, none⟩) 64 64 else .slice none 0 0
def ndCell (N : Nd) : Nat → Value
  | 0 => .int .u64 N.icow
  | 1 => .int .i8 (kindOf N.leaf)
  | 2 => .int .i16 N.cnt
  | i + 3 => if i < 256 then .int .i64 (rcell (N.rc (i / 4)) (i % 4)) else if i = 256 then listOf N.leaf N.q else listOf (!N.leaf) N.q
def ndCells (N : Nd) : Array Value := Array.ofFn (n := 261) fun i => ndCell N i
def lsCells (f : Nat → Value) : Array Value := Array.ofFn (n := 64) fun i => f i
def Nd.setX0 (N : Nd) (i : Nat) (v : Int) : Nd := { N with rc := upd N.rc i { N.rc i with x0 := v } }
def Nd.setY0 (N : Nd) (i : Nat) (v : Int) : Nd := { N with rc := upd N.rc i { N.rc i with y0 := v } }
def Nd.setX1 (N : Nd) (i : Nat) (v : Int) : Nd := { N with rc := upd N.rc i { N.rc i with x1 := v } }
def Nd.setY1 (N : Nd) (i : Nat) (v : Int) : Nd := { N with rc := upd N.rc i { N.rc i with y1 := v } }
def Nd.setR (N : Nd) (i : Nat) (r : R) : Nd := { N with rc := upd N.rc i r }
def Nd.setCnt (N : Nd) (c : Int) : Nd := { N with cnt := c }
@[go_sem] theorem Nd.set4 (N : Nd) (i : Nat) (a b c d : Int) : (((N.setX0 i a).setY0 i b).setX1 i c).setY1 i d = N.setR i ⟨a, b, c, d⟩ := by
  simp only [Nd.setX0, Nd.setY0, Nd.setX1, Nd.setY1, Nd.setR, Nd.mk.injEq, true_and]
  funext k
  by_cases h : k = i <;> simp [upd, h]
theorem ndCells_get (N : Nd) (i : Nat) (h : i < 261) : (ndCells N)[i]? = some (ndCell N i) := by
  simp [ndCells, h]
theorem size_ndCells (N : Nd) : (ndCells N).size = 261 := by simp [ndCells]
theorem lsCells_get (f : Nat → Value) (i : Nat) (h : i < 64) : (lsCells f)[i]? = some (f i) := by simp [lsCells, h]
theorem size_lsCells (f : Nat → Value) : (lsCells f).size = 64 := by simp [lsCells]
theorem ndCell_rc (N : Nd) (i j : Nat) (h : i < 64) (hj : j < 4) : ndCell N (3 + i * 4 + j) = .int .i64 (rcell (N.rc i) j) := by
  rw [show 3 + i * 4 + j = (i * 4 + j) + 3 by omega]
  simp only [ndCell]
  rw [if_pos (by omega), show (i * 4 + j) / 4 = i by omega, show (i * 4 + j) % 4 = j by omega]
theorem ndCells_set (N M : Nd) (o : Nat) (v : Value) (h : ∀ k, k < 261 → ndCell M k = if k = o then v else ndCell N k) : (ndCells N).setIfInBounds o v = ndCells M := by
  apply Array.ext_getElem?
  intro k
  rw [Array.getElem?_setIfInBounds, size_ndCells]
  by_cases hk : k < 261
  · rw [ndCells_get _ _ hk, ndCells_get _ _ hk, h k hk]
    by_cases ho : o = k
    · subst ho; simp [hk]
    · rw [if_neg ho, if_neg (fun h => ho h.symm)]
  · rw [Array.getElem?_eq_none (by rw [size_ndCells]; omega), Array.getElem?_eq_none (by rw [size_ndCells]; omega)]
    split
    · rw [if_neg (by omega)]
    · rfl
theorem lsCells_set (f : Nat → Value) (o : Nat) (v : Value) : (lsCells f).setIfInBounds o v = lsCells (upd f o v) := by
  apply Array.ext_getElem?
  intro k
  rw [Array.getElem?_setIfInBounds, size_lsCells]
  by_cases hk : k < 64
  · rw [lsCells_get _ _ hk, lsCells_get _ _ hk]
    by_cases ho : o = k
    · subst ho; simp [hk, upd]
    · rw [if_neg ho, upd_other _ _ _ _ (fun h => ho h.symm)]
  · rw [Array.getElem?_eq_none (by rw [size_lsCells]; omega), Array.getElem?_eq_none (by rw [size_lsCells]; omega)]
    split
    · rw [if_neg (by omega)]
    · rfl
theorem ndCell_setR (N : Nd) (i j : Nat) (r : R) (v : Int) (hi : i < 64) (hj : j < 4) (h : ∀ k, k < 4 → rcell r k = if k = j then v else rcell (N.rc i) k) :
    ∀ k, k < 261 → ndCell { N with rc := upd N.rc i r } k = if k = 3 + i * 4 + j then .int .i64 v else ndCell N k := by
  intro k hk
  match k, hk with
  | 0, _ => rw [if_neg (by omega)]; rfl
  | 1, _ => rw [if_neg (by omega)]; rfl
  | 2, _ => rw [if_neg (by omega)]; rfl
  | k + 3, hk =>
    by_cases h1 : k < 256
    · simp only [ndCell, h1, if_true]
      by_cases h2 : k / 4 = i
      · rw [h2, upd_same, h _ (Nat.mod_lt _ (by omega))]
        by_cases h3 : k % 4 = j
        · rw [if_pos h3, if_pos (by omega)]
        · rw [if_neg h3, if_neg (by omega)]
      · rw [upd_other _ _ _ _ h2, if_neg (by omega)]
    · rw [if_neg (by omega)]
      simp only [ndCell, h1, if_false]
end Bx

/-- A node's block written as a whole; a list's block written as a whole. -/
def World.putN (w : World) (p : Nat) (N : Nd) : World := { w with heap := w.heap.setIfInBounds p (.cells (ndCells N) 83 (0, 0)) }
def World.putL (w : World) (q : Nat) (T : TypeId) (f : Nat → Value) : World := { w with heap := w.heap.setIfInBounds q (.cells (lsCells f) T (0, 0)) }

section
variable (w : World) (p q b o i : Nat) (N M : Nd) (T : TypeId) (f g : Nat → Value) (s : Option Nat) (v : Value)
theorem World.heap_putN (b : Nat) (h : p < w.heap.size) : (w.putN p N).heap[b]? = if p = b then some (.cells (ndCells N) 83 (0, 0)) else w.heap[b]? := by
  simp only [World.putN, Array.getElem?_setIfInBounds]
  by_cases hb : p = b
  · subst hb; simp [h]
  · simp [hb]
theorem World.heap_putL (b : Nat) (h : q < w.heap.size) : (w.putL q T f).heap[b]? = if q = b then some (.cells (lsCells f) T (0, 0)) else w.heap[b]? := by
  simp only [World.putL, Array.getElem?_setIfInBounds]
  by_cases hb : q = b
  · subst hb; simp [h]
  · simp [hb]
@[simp, go_sem] theorem World.size_putN : (w.putN p N).heap.size = w.heap.size := by simp [World.putN]
@[simp, go_sem] theorem World.size_putL : (w.putL q T f).heap.size = w.heap.size := by simp [World.putL]
@[go_sem] theorem World.putN_drewN (n : Nat) : (w.drewN n).putN p N = (w.putN p N).drewN n := rfl
@[go_sem] theorem World.putL_drewN (n : Nat) : (w.drewN n).putL q T f = (w.putL q T f).drewN n := rfl
@[go_sem] theorem World.putN_drew : w.drew.putN p N = (w.putN p N).drew := rfl
@[go_sem] theorem World.putL_drew : w.drew.putL q T f = (w.putL q T f).drew := rfl
@[go_sem] theorem World.putN_putN : (w.putN p N).putN p M = w.putN p M := by simp [World.putN]
@[go_sem] theorem World.putL_putL : (w.putL q T f).putL q T g = w.putL q T g := by simp [World.putL]
theorem World.set_comm (x y : Obj) (h : p ≠ q) : (w.heap.setIfInBounds p x).setIfInBounds q y = (w.heap.setIfInBounds q y).setIfInBounds p x := Array.setIfInBounds_comm _ _ h
@[go_sem] theorem World.putN_putL (h : q ≠ p) : (w.putL q T f).putN p N = (w.putN p N).putL q T f := by
  simp only [World.putN, World.putL]; rw [Array.setIfInBounds_comm _ _ h]
@[go_sem] theorem World.putN_putN3 (h : q ≠ p) (L : Nd) : ((w.putN p N).putN q L).putN p M = (w.putN p M).putN q L := by
  simp only [World.putN]; rw [Array.setIfInBounds_comm _ _ h]; simp
@[go_sem] theorem World.putL_putL3 (h : p ≠ q) (U : TypeId) (k : Nat → Value) : ((w.putL q T f).putL p U k).putL q T g = (w.putL q T g).putL p U k := by
  simp only [World.putL]; rw [Array.setIfInBounds_comm _ _ h]; simp
theorem World.cell_putN (h : p < w.heap.size) (ho : o < 261) : (w.putN p N).cell? ⟨p, o, none⟩ = some (ndCell N o) := by
  unfold World.cell?; rw [World.heap_putN _ _ _ _ h]; simp only [if_true]
  exact ndCells_get N o ho
@[go_sem] theorem World.cell_putN0 (h : p < w.heap.size) : (w.putN p N).cell? ⟨p, 0, none⟩ = some (.int .u64 N.icow) := World.cell_putN _ _ _ _ h (by omega)
@[go_sem] theorem World.cell_putN1 (h : p < w.heap.size) : (w.putN p N).cell? ⟨p, 1, none⟩ = some (.int .i8 (kindOf N.leaf)) := World.cell_putN _ _ _ _ h (by omega)
@[go_sem] theorem World.cell_putN2 (h : p < w.heap.size) : (w.putN p N).cell? ⟨p, 2, none⟩ = some (.int .i16 N.cnt) := World.cell_putN _ _ _ _ h (by omega)
@[go_sem] theorem World.cell_putN259 (h : p < w.heap.size) : (w.putN p N).cell? ⟨p, 259, none⟩ = some (listOf N.leaf N.q) := World.cell_putN _ _ _ _ h (by omega)
@[go_sem] theorem World.cell_putN260 (h : p < w.heap.size) : (w.putN p N).cell? ⟨p, 260, none⟩ = some (listOf (!N.leaf) N.q) := World.cell_putN _ _ _ _ h (by omega)
@[go_sem] theorem World.cell_rc0 (h : p < w.heap.size) (hi : i < 64) : (w.putN p N).cell? ⟨p, 3 + i * 4, none⟩ = some (.int .i64 (N.rc i).x0) := by
  rw [World.cell_putN _ _ _ _ h (by omega)]; exact congrArg some (ndCell_rc N i 0 hi (by omega))
@[go_sem] theorem World.cell_rc1 (h : p < w.heap.size) (hi : i < 64) : (w.putN p N).cell? ⟨p, 3 + i * 4 + 1, none⟩ = some (.int .i64 (N.rc i).y0) := by
  rw [World.cell_putN _ _ _ _ h (by omega)]; exact congrArg some (ndCell_rc N i 1 hi (by omega))
@[go_sem] theorem World.cell_rc2 (h : p < w.heap.size) (hi : i < 64) : (w.putN p N).cell? ⟨p, 3 + i * 4 + 2, none⟩ = some (.int .i64 (N.rc i).x1) := by
  rw [World.cell_putN _ _ _ _ h (by omega)]; exact congrArg some (ndCell_rc N i 2 hi (by omega))
@[go_sem] theorem World.cell_rc3 (h : p < w.heap.size) (hi : i < 64) : (w.putN p N).cell? ⟨p, 3 + i * 4 + 3, none⟩ = some (.int .i64 (N.rc i).y1) := by
  rw [World.cell_putN _ _ _ _ h (by omega)]; exact congrArg some (ndCell_rc N i 3 hi (by omega))
@[go_sem] theorem World.cell_putN_other (hb : b ≠ p) : (w.putN p N).cell? ⟨b, o, s⟩ = w.cell? ⟨b, o, s⟩ := by
  unfold World.cell? World.putN
  dsimp only
  rw [Array.getElem?_setIfInBounds_ne (Ne.symm hb)]
@[go_sem] theorem World.frozen_putN (h : p < w.heap.size) : (w.putN p N).frozen? ⟨p, o, s⟩ = false := by
  unfold World.frozen?; rw [World.heap_putN _ _ _ _ h]; simp
@[go_sem] theorem World.frozen_putN_other (hb : b ≠ p) : (w.putN p N).frozen? ⟨b, o, s⟩ = w.frozen? ⟨b, o, s⟩ := by
  unfold World.frozen? World.putN
  dsimp only
  rw [Array.getElem?_setIfInBounds_ne (Ne.symm hb)]
@[go_sem] theorem World.cell_putL (h : q < w.heap.size) (hi : i < 64) : (w.putL q T f).cell? ⟨q, i, none⟩ = some (f i) := by
  unfold World.cell?; rw [World.heap_putL _ _ _ _ _ h]; simp only [if_true]
  exact lsCells_get f i hi
@[go_sem] theorem World.cell_putL_other (hb : b ≠ q) : (w.putL q T f).cell? ⟨b, o, s⟩ = w.cell? ⟨b, o, s⟩ := by
  unfold World.cell? World.putL
  dsimp only
  rw [Array.getElem?_setIfInBounds_ne (Ne.symm hb)]
@[go_sem] theorem World.frozen_putL (h : q < w.heap.size) : (w.putL q T f).frozen? ⟨q, o, s⟩ = false := by
  unfold World.frozen?; rw [World.heap_putL _ _ _ _ _ h]; simp
@[go_sem] theorem World.frozen_putL_other (hb : b ≠ q) : (w.putL q T f).frozen? ⟨b, o, s⟩ = w.frozen? ⟨b, o, s⟩ := by
  unfold World.frozen? World.putL
  dsimp only
  rw [Array.getElem?_setIfInBounds_ne (Ne.symm hb)]
theorem World.modify_set {α : Type} (a : Array α) (p : Nat) (x : α) (k : α → α) : (a.setIfInBounds p x).modify p k = a.setIfInBounds p (k x) := by
  apply Array.ext_getElem?
  intro j
  rw [Array.getElem?_modify, Array.getElem?_setIfInBounds, Array.getElem?_setIfInBounds]
  by_cases h : p = j
  · subst h; by_cases hp : p < a.size <;> simp [hp]
  · simp [h]
theorem World.modify_set_ne {α : Type} (a : Array α) (p b : Nat) (x : α) (k : α → α) (h : b ≠ p) : (a.setIfInBounds p x).modify b k = (a.modify b k).setIfInBounds p x := by
  apply Array.ext_getElem?
  intro j
  simp only [Array.getElem?_modify, Array.getElem?_setIfInBounds, Array.size_modify]
  by_cases h1 : b = j <;> by_cases h2 : p = j
  · omega
  · simp [h1, h2]
  · simp [h1, h2]
  · simp [h1, h2]
@[go_sem] theorem World.setCell_putN_other (hb : b ≠ p) : (w.putN p N).setCell ⟨b, o, s⟩ v = (w.setCell ⟨b, o, s⟩ v).putN p N := by
  simp only [World.putN, World.setCell]
  rw [World.modify_set_ne _ _ _ _ _ hb]
@[go_sem] theorem World.setCell_putL_other (hb : b ≠ q) : (w.putL q T f).setCell ⟨b, o, s⟩ v = (w.setCell ⟨b, o, s⟩ v).putL q T f := by
  simp only [World.putL, World.setCell]
  rw [World.modify_set_ne _ _ _ _ _ hb]
theorem World.setCell_putN (h : ∀ k, k < 261 → ndCell M k = if k = o then v else ndCell N k) : (w.putN p N).setCell ⟨p, o, none⟩ v = w.putN p M := by
  simp only [World.putN, World.setCell]
  rw [World.modify_set]
  simp only [Option.isSome_none, Bool.false_eq_true, if_false]
  rw [ndCells_set N M o v h]
@[go_sem] theorem World.setCell_putL : (w.putL q T f).setCell ⟨q, i, none⟩ v = w.putL q T (upd f i v) := by
  simp only [World.putL, World.setCell]
  rw [World.modify_set]
  simp only [Option.isSome_none, Bool.false_eq_true, if_false]
  rw [lsCells_set]
@[go_sem] theorem World.setCell_cnt (c : Int) : (w.putN p N).setCell ⟨p, 2, none⟩ (.int .i16 c) = w.putN p (N.setCnt c) := by
  refine World.setCell_putN _ _ _ _ _ _ fun k hk => ?_
  match k, hk with
  | 0, _ => rfl
  | 1, _ => rfl
  | 2, _ => rfl
  | k + 3, _ => rw [if_neg (by omega)]; rfl
@[go_sem] theorem World.setCell_rc0 (c : Int) (hi : i < 64) : (w.putN p N).setCell ⟨p, 3 + i * 4, none⟩ (.int .i64 c) = w.putN p (N.setX0 i c) :=
  World.setCell_putN _ _ _ _ _ _ (ndCell_setR N i 0 _ c hi (by omega) fun k hk => by match k, hk with | 0, _ => rfl | 1, _ => rfl | 2, _ => rfl | 3, _ => rfl)
@[go_sem] theorem World.setCell_rc1 (c : Int) (hi : i < 64) : (w.putN p N).setCell ⟨p, 3 + i * 4 + 1, none⟩ (.int .i64 c) = w.putN p (N.setY0 i c) :=
  World.setCell_putN _ _ _ _ _ _ (ndCell_setR N i 1 _ c hi (by omega) fun k hk => by match k, hk with | 0, _ => rfl | 1, _ => rfl | 2, _ => rfl | 3, _ => rfl)
@[go_sem] theorem World.setCell_rc2 (c : Int) (hi : i < 64) : (w.putN p N).setCell ⟨p, 3 + i * 4 + 2, none⟩ (.int .i64 c) = w.putN p (N.setX1 i c) :=
  World.setCell_putN _ _ _ _ _ _ (ndCell_setR N i 2 _ c hi (by omega) fun k hk => by match k, hk with | 0, _ => rfl | 1, _ => rfl | 2, _ => rfl | 3, _ => rfl)
@[go_sem] theorem World.setCell_rc3 (c : Int) (hi : i < 64) : (w.putN p N).setCell ⟨p, 3 + i * 4 + 3, none⟩ (.int .i64 c) = w.putN p (N.setY1 i c) :=
  World.setCell_putN _ _ _ _ _ _ (ndCell_setR N i 3 _ c hi (by omega) fun k hk => by match k, hk with | 0, _ => rfl | 1, _ => rfl | 2, _ => rfl | 3, _ => rfl)
/-- A node, a list lie there. -/
def NodeAt (w : World) (p : Nat) (N : Nd) : Prop := w.heap[p]? = some (.cells (ndCells N) 83 (0, 0))
def ListAt (w : World) (q : Nat) (T : TypeId) (f : Nat → Value) : Prop := w.heap[q]? = some (.cells (lsCells f) T (0, 0))
theorem set_self {α : Type} (a : Array α) (p : Nat) (x : α) (h : a[p]? = some x) : a.setIfInBounds p x = a := by
  apply Array.ext_getElem?
  intro j
  rw [Array.getElem?_setIfInBounds]
  split
  · rename_i hj; subst hj
    obtain ⟨hp, hx⟩ := Array.getElem?_eq_some_iff.1 h
    rw [if_pos hp, h]
  · rfl
theorem NodeAt.lt {w : World} {p : Nat} {N : Nd} (h : NodeAt w p N) : p < w.heap.size := (Array.getElem?_eq_some_iff.1 h).1
theorem ListAt.lt {w : World} {q : Nat} {T : TypeId} {f : Nat → Value} (h : ListAt w q T f) : q < w.heap.size := (Array.getElem?_eq_some_iff.1 h).1
theorem NodeAt.self {w : World} {p : Nat} {N : Nd} (h : NodeAt w p N) : w.putN p N = w := by
  unfold World.putN; rw [set_self _ _ _ h]
theorem ListAt.self {w : World} {q : Nat} {T : TypeId} {f : Nat → Value} (h : ListAt w q T f) : w.putL q T f = w := by
  unfold World.putL; rw [set_self _ _ _ h]
theorem NodeAt.put {w : World} {p : Nat} (N : Nd) (h : p < w.heap.size) : NodeAt (w.putN p N) p N := by unfold NodeAt; rw [World.heap_putN _ _ _ _ h, if_pos rfl]
theorem ListAt.put {w : World} {q : Nat} (T : TypeId) (f : Nat → Value) (h : q < w.heap.size) : ListAt (w.putL q T f) q T f := by unfold ListAt; rw [World.heap_putL _ _ _ _ _ h, if_pos rfl]
theorem NodeAt.of_block {w w' : World} {p : Nat} {N : Nd} (h : NodeAt w p N) (hb : w'.heap[p]? = w.heap[p]?) : NodeAt w' p N := hb.trans h
theorem ListAt.of_block {w w' : World} {q : Nat} {T : TypeId} {f : Nat → Value} (h : ListAt w q T f) (hb : w'.heap[q]? = w.heap[q]?) : ListAt w' q T f := hb.trans h
theorem NodeAt.putN_other {w : World} {p p' : Nat} {N M : Nd} (h : NodeAt w p N) (hne : p' ≠ p) : NodeAt (w.putN p' M) p N := h.of_block (by simp only [World.putN]; rw [Array.getElem?_setIfInBounds_ne hne])
theorem NodeAt.putL_other {w : World} {p q : Nat} {N : Nd} {T : TypeId} {f : Nat → Value} (h : NodeAt w p N) (hne : q ≠ p) : NodeAt (w.putL q T f) p N := h.of_block (by simp only [World.putL]; rw [Array.getElem?_setIfInBounds_ne hne])
theorem ListAt.putN_other {w : World} {p q : Nat} {M : Nd} {T : TypeId} {f : Nat → Value} (h : ListAt w q T f) (hne : p ≠ q) : ListAt (w.putN p M) q T f := h.of_block (by simp only [World.putN]; rw [Array.getElem?_setIfInBounds_ne hne])
theorem ListAt.putL_other {w : World} {q q' : Nat} {T U : TypeId} {f g : Nat → Value} (h : ListAt w q T f) (hne : q' ≠ q) : ListAt (w.putL q' U g) q T f := h.of_block (by simp only [World.putL]; rw [Array.getElem?_setIfInBounds_ne hne])
theorem NodeAt.drewN {w : World} {p : Nat} {N : Nd} (h : NodeAt w p N) (n : Nat) : NodeAt (w.drewN n) p N := h
theorem ListAt.drewN {w : World} {q : Nat} {T : TypeId} {f : Nat → Value} (h : ListAt w q T f) (n : Nat) : ListAt (w.drewN n) q T f := h
end
end Go
