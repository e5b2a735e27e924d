/- The tree as the package keeps it, in plain Lean: nodes of entries by height; what Insert and Delete do to it. No program in sight. -/
import Derived.Test.YtenokcfpmfoekaaOps
set_option linter.unusedSimpArgs false
set_option linter.unusedVariables false
namespace Go
namespace Bx
/-- A node: how many entries, and these (what stands beyond is not asked about). -/
structure Nde (α : Type) where
  n : Nat
  E : Nat → R × α
/-- What an entry of a node of height h holds besides its box: an item's number, or a node. -/
@[reducible] def El : Nat → Type
  | 0 => Int
  | h + 1 => Nde (El h)
def dfl : (h : Nat) → El h
  | 0 => (0 : Int)
  | h + 1 => (⟨0, fun _ => (R0, dfl h)⟩ : Nde (El h))
section
variable {α : Type}
/-- The box around a node's entries. -/
def bnd (t : Nde α) : R := bndF (fun i => (t.E i).1) (t.n - 1)
/-- A node split: left, right. -/
def cut (z : α) (r : R) (t : Nde α) : Nde α × Nde α := (⟨(splitF z r t.n t.E).1, (splitF z r t.n t.E).2.1⟩, ⟨(splitF z r t.n t.E).2.2.1, (splitF z r t.n t.E).2.2.2⟩)
/-- The child i, which is now c, is split. -/
def cleaveAt (z : α) (t : Nde (Nde α)) (i : Nat) (c : Nde α) : Nde (Nde α) :=
  ⟨t.n + 1, cleave t.E t.n i (bnd (cut z (t.E i).1 c).1, (cut z (t.E i).1 c).1) (bnd (cut z (t.E i).1 c).2, (cut z (t.E i).1 c).2)⟩
/-- An entry into a branch; f puts it into a child. What comes back: must the node be split first? Has the box grown? The node. -/
def insB (z : α) (f : R → Nde α → Bool × Bool × Nde α) (s : R) : Nat → R → Nde (Nde α) → Bool × Bool × Nde (Nde α)
  | 0, _, t => (false, false, t)
  | k + 1, r, t =>
    let i := pick t.E t.n s
    let y := f (t.E i).1 (t.E i).2
    if y.1 then
      if t.n = 64 then (true, false, ⟨t.n, upd t.E i ((t.E i).1, y.2.2)⟩) else insB z f s k r (cleaveAt z t i y.2.2)
    else if y.2.1 then (false, !r.contains s, ⟨t.n, ordL (upd t.E i ((t.E i).1.expand s, y.2.2)) i⟩)
    else (false, false, ⟨t.n, upd t.E i ((t.E i).1, y.2.2)⟩)
end
def insL (s : R) (x : Int) (r : R) (t : Nde Int) : Bool × Bool × Nde Int :=
  if t.n = 64 then (true, false, t) else (false, !r.contains s, ⟨t.n + 1, upd (shiftR t.E (rsr t.E s.x0 t.n t.n 0) t.n) (rsr t.E s.x0 t.n t.n 0) (s, x)⟩)
def ins (s : R) (x : Int) : (h : Nat) → R → Nde (El h) → Bool × Bool × Nde (El h)
  | 0 => insL s x
  | h + 1 => insB (dfl h) (ins s x h) s 65

/-- A tree: how many items, the box around them, the root. -/
structure Tre where
  cnt : Int
  rect : R
  root : Option (Σ h, Nde (El h))
def tre0 : Tre := ⟨0, R0, none⟩
/-- The root sorted, if it is a branch. -/
def srtB : (h : Nat) → Nde (El h) → Nde (El h)
  | 0, t => t
  | _ + 1, t => ⟨t.n, qs (keyK 0 false false) t.n t.E 0 t.n⟩
/-- The root cut in two under a new one. -/
def lift (h : Nat) (r : R) (t : Nde (El h)) : Nde (El (h + 1)) :=
  ⟨2, upd (upd (fun _ => (R0, dfl (h + 1))) 0 (bnd (cut (dfl h) r t).1, (cut (dfl h) r t).1)) 1 (bnd (cut (dfl h) r t).2, (cut (dfl h) r t).2)⟩
/-- An item put into a tree that has a root. -/
def insT (s : R) (x : Int) : Nat → (c : Int) → (r : R) → (h : Nat) → Nde (El h) → Option Tre
  | 0, _, _, _, _ => none
  | f + 1, c, r, h, t =>
    let y := ins s x h r t
    if y.1 then
      (insT s x f c r (h + 1) (lift h r y.2.2)).map fun T => { T with root := T.root.map fun q => ⟨q.1, srtB q.1 q.2⟩ }
    else if y.2.1 then some ⟨c + 1, r.expand s, some ⟨h, srtB h y.2.2⟩⟩
    else some ⟨c + 1, r, some ⟨h, y.2.2⟩⟩
def insertT (s : R) (x : Int) (f : Nat) (T : Tre) : Option Tre :=
  match T.root with
  | none => insT s x f T.cnt s 0 ⟨0, fun _ => (R0, dfl 0)⟩
  | some q => insT s x f T.cnt T.rect q.1 q.2

/-- The first entry that is the item s, x, or has its number and lies in its box. -/
def findL (s : R) (x : Int) (E : Nat → R × Int) : Nat → Nat → Option Nat
  | 0, _ => none
  | f + 1, i => if s.contains (E i).1 && decide ((E i).2 = x) then some i else findL s x E f (i + 1)
/-- An item taken out of a leaf. What comes back: was it there? May the box have shrunk? The box. The node. -/
def delL (s : R) (x : Int) (r : R) (t : Nde Int) : Bool × Bool × R × Nde Int :=
  match findL s x t.E t.n 0 with
  | none => (false, false, r, t)
  | some i =>
    let E1 := shiftL t.E i t.n
    let t' : Nde Int := ⟨t.n - 1, upd E1 (t.n - 1) ((E1 (t.n - 1)).1, 0)⟩
    if s.onedge r then (true, true, bnd t', t') else (true, false, r, t')
/-- Out of a branch: the entries from i on are asked, f at most. -/
def delB {α : Type} (z : Nde α) (g : R → Nde α → Bool × Bool × R × Nde α) (s : R) (r : R) (t : Nde (Nde α)) : Nat → Nat → Bool × Bool × R × Nde (Nde α)
  | 0, _ => (false, false, r, t)
  | f + 1, i =>
    if (t.E i).1.contains s then
      let y := g (t.E i).1 (t.E i).2
      if y.1 then
        if y.2.2.2.n = 0 then
          let E1 := shiftL (upd t.E i (y.2.2.1, y.2.2.2)) i t.n
          let t' : Nde (Nde α) := ⟨t.n - 1, upd E1 (t.n - 1) ((E1 (t.n - 1)).1, z)⟩
          (true, true, bnd t', t')
        else if y.2.1 then
          let t1 : Nde (Nde α) := ⟨t.n, upd t.E i (y.2.2.1, y.2.2.2)⟩
          let t' : Nde (Nde α) := ⟨t.n, ordR t1.E t.n (t.n - i) i⟩
          if y.2.2.1.equals (t.E i).1 then (true, false, r, t') else (true, true, bnd t1, t')
        else (true, false, r, ⟨t.n, upd t.E i (y.2.2.1, y.2.2.2)⟩)
      else delB z g s r t f (i + 1)
    else delB z g s r t f (i + 1)
def del (s : R) (x : Int) : (h : Nat) → R → Nde (El h) → Bool × Bool × R × Nde (El h)
  | 0, r, t => delL s x r t
  | h + 1, r, t => delB (dfl (h + 1)) (del s x h) s r t t.n 0
/-- A root that has one child alone goes. -/
def coll : (h : Nat) → Nde (El h) → Σ h, Nde (El h)
  | 0, t => ⟨0, t⟩
  | h + 1, t => if t.n = 1 then coll h (t.E 0).2 else ⟨h + 1, t⟩
def deleteT (s : R) (x : Int) (T : Tre) : Bool × Tre :=
  match T.root with
  | none => (false, T)
  | some q =>
    if T.rect.contains s then
      let y := del s x q.1 T.rect q.2
      if y.1 then
        if T.cnt - 1 = 0 then (true, ⟨0, R0, none⟩) else (true, ⟨T.cnt - 1, y.2.2.1, some (coll q.1 y.2.2.2)⟩)
      else (false, T)
    else (false, T)
end Bx
end Go
