/- Slices of structs that a call makes by append: what they hold, as a list. An append at a step of a region whose order is open. No program in sight. -/
import Derived.Test.YtenokcfpmfoekaaExt
import Derived.Test.YtenokcfpmfoekaaPlain
import Derived.Deep.AppendLies
import Derived.OwnWalk
set_option linter.unusedSimpArgs false
set_option linter.unusedVariables false
namespace Go
open Go.RowKit
namespace Bx
def boxV (r : R) : List Value := [.int .i64 r.x0, .int .i64 r.y0, .int .i64 r.x1, .int .i64 r.y1]
theorem boxV_len (r : R) : (boxV r).length = 4 := rfl
theorem boxV_one (r : R) : ∀ u ∈ boxV r, u.oneCell' = true := by
  intro u hu
  simp [boxV] at hu
  rcases hu with rfl | rfl | rfl | rfl <;> rfl
end Bx
theorem flat_get {α : Type} (f : α → List Value) (size : Nat) (hf : ∀ x, (f x).length = size) : ∀ (L : List α) (i j : Nat) (x : α), L[i]? = some x → j < size → (L.flatMap f)[i * size + j]? = (f x)[j]?
  | [], i, j, x, h, _ => by simp at h
  | y :: L, 0, j, x, h, hj => by
    simp only [List.getElem?_cons_zero, Option.some.injEq] at h
    subst h
    rw [List.flatMap_cons, Nat.zero_mul, Nat.zero_add, List.getElem?_append_left (by rw [hf]; exact hj)]
  | y :: L, i + 1, j, x, h, hj => by
    rw [List.getElem?_cons_succ] at h
    rw [List.flatMap_cons, List.getElem?_append_right (by rw [hf, Nat.succ_mul]; omega), hf]
    have := flat_get f size hf L i j x h hj
    rw [← this]
    congr 1
    rw [Nat.succ_mul]; omega
theorem flat_len {α : Type} (f : α → List Value) (size : Nat) (hf : ∀ x, (f x).length = size) (L : List α) : (L.flatMap f).length = L.length * size := by
  induction L with
  | nil => simp
  | cons x L ih => rw [List.flatMap_cons, List.length_append, ih, hf, List.length_cons, Nat.succ_mul]; omega

/-- The slice v holds the list L, each entry as f says, in a block of the call's own. -/
structure World.Row {α : Type} (w : World) (base : Nat) (e : TypeId) (size : Nat) (f : α → List Value) (v : Value) (L : List α) : Prop where
  len : ∀ x, (f x).length = size
  own : w.ownsRow base e size v L.length (L.flatMap f)

namespace World.Row
section
variable {α : Type} {w : World} {base : Nat} {e : TypeId} {size : Nat} {f : α → List Value} {v : Value} {L : List α}
theorem nil (hf : ∀ x, (f x).length = size) : w.Row base e size f (.slice none 0 0) [] := ⟨hf, World.ownsRow_nil _ _ _ _⟩
/-- A list of no entries in a block of its own. -/
theorem made (hf : ∀ x, (f x).length = size) (g : Nat) (hb : base ≤ g) (hg : w.heap[g]? = some (.cells #[] e (0, 0))) : w.Row base e size f (.slice (some ⟨g, 0, none⟩) 0 0) [] :=
  ⟨hf, by simp, .inr ⟨g, 0, #[], rfl, hb, hg, Nat.le_refl _, by simp [maxLen], by simp, by simp⟩⟩
theorem kept {w' : World} {row : Option Nat} (h : w.Row base e size f v L) (hg : w.grownBy w' row) (hne : v.ownBlock = none ∨ v.ownBlock ≠ row) : w'.Row base e size f v L := ⟨h.len, h.own.kept hg hne⟩
theorem lt (h : w.Row base e size f v L) : ∀ k, v.ownBlock = some k → base ≤ k ∧ k < w.heap.size := h.own.lt
theorem of_block {w' : World} (h : w.Row base e size f v L) (hb : ∀ k, v.ownBlock = some k → w'.heap[k]? = w.heap[k]?) : w'.Row base e size f v L := by
  refine ⟨h.len, h.own.1, ?_⟩
  rcases h.own.2 with h | ⟨g, cap, cur, rfl, h1, h2, h3⟩
  · exact .inl h
  · exact .inr ⟨g, cap, cur, rfl, h1, (hb g rfl).trans h2, h3⟩
theorem ex {w' : World} (h : w.Row base e size f v L) (hx : Mix.Ex w w') : w'.Row base e size f v L :=
  h.of_block fun k hk => by obtain ⟨x, rfl⟩ := hx; exact World.heap_ext _ _ _ (h.lt k hk).2
theorem form (h : w.Row base e size f v L) : (v = .slice none 0 0 ∧ L = []) ∨ ∃ g cap, v = .slice (some ⟨g, 0, none⟩) L.length cap ∧ base ≤ g ∧ g < w.heap.size ∧ L.length ≤ cap ∧ cap ≤ maxLen := by
  rcases h.own.2 with ⟨h1, h2⟩ | ⟨g, cap, cur, rfl, h1, h2, h3, h4, _⟩
  · exact .inl ⟨h1, List.eq_nil_of_length_eq_zero h2⟩
  · exact .inr ⟨g, cap, rfl, h1, (Array.getElem?_eq_some_iff.1 h2).1, h3, h4⟩
/-- A cell of an entry. -/
theorem cell {g n cap : Nat} (h : w.Row base e size f (.slice (some ⟨g, 0, none⟩) n cap) L) {i j : Nat} {x : α} {u : Value} (hi : L[i]? = some x) (hu : (f x)[j]? = some u) : w.cell? ⟨g, i * size + j, none⟩ = some u := by
  have hj : j < size := by rw [← h.len x]; exact (List.getElem?_eq_some_iff.1 hu).1
  have := h.own.cells (g := g) rfl (i * size + j) u (by rw [flat_get f size h.len L i j x hi hj, hu])
  have hadd : (⟨g, 0, none⟩ : Addr).add (i * size + j) = ⟨g, i * size + j, none⟩ := by unfold Addr.add; split <;> simp_all
  rw [← hadd]; exact this
end
end World.Row

namespace Mix
theorem Ex.grown {a b c : World} {row : Option Nat} (h : Ex a b) (hg : b.grownBy c row) (hr : ∀ k, row = some k → a.heap.size ≤ k) : Ex a c := .of_below (h.below.grown hg h.below.size hr)
section
variable {P : Program} {ops : Array Oper} {S C : World → Prop}
/-- An append of one entry, at a step of a region whose order is open. -/
theorem wpTl_append {α : Type} {Q : Act → World → Prop} {k : Nat} {ks : List Nat} {o : Oper} {l : List Oper} {a : Act} {w : World} (s x : Operand) (t : TypeId)
    (ho : o.op = .call { callee := .builtin .append, args := #[s, x], argTypes := #[t, t] })
    (base : Nat) (e : TypeId) (i : TypeInfo) (z : Value) (size bytes : Nat) (ht : P.underlying t = some (.slice e)) (hi : P.info? e = some i) (hz : i.zero = some z)
    (hsize : i.size = size) (hby : i.bytes = bytes) (hzs : z.cells.size = size) (hsz : 0 < size)
    (f : α → List Value) (v : Value) (L : List α) (y : α) (hs : a.eval s = v) (hown : w.Row base e size f v L)
    (ad : Addr) (c : Nat) (hx : a.eval x = .slice (some ad) 1 c) (hnews : ∀ j u, (f y)[j]? = some u → w.cell? (ad.add j) = some u) (h1 : ∀ u ∈ f y, u.oneCell' = true)
    (h63 : L.length + 1 ≤ maxLen) (hbytes : (L.length + 1) * bytes ≤ 140737488355328) (hbase : base ≤ w.heap.size)
    (h : ∀ g cap w', w'.Row base e size f (.slice (some ⟨g, 0, none⟩) (L.length + 1) cap) (L ++ [y]) → w.grownBy w' v.ownBlock → (v.ownBlock = some g ∨ g = w.heap.size) → g < w'.heap.size →
      S w' ∧ wpQuiet P ops C (fun a2 => wpTl P Dr S C ops Q ks (l.drop k) a2 w') (l.take k) (a.put o.dst (.slice (some ⟨g, 0, none⟩) (L.length + 1) cap))) :
    wpTl P Dr S C ops Q (k :: ks) (o :: l) a w := by
  refine wpTl_dr (fun n K hK => ?_)
  obtain ⟨g, cap, w', hr, h2, h3, h4, h5⟩ := run_append_lies (P := P) (w.drewN n) t o.type base e i z size bytes ht hi hz hsize hby hzs hsz v L.length (L.flatMap f) hown.own ad 1 c (f y) (by rw [hown.len]; omega) hnews h1 (by omega) h63 hbytes hbase _ rfl
  obtain ⟨h6, h7⟩ := h g cap w' ⟨hown.len, by rw [List.length_append, List.length_singleton, List.flatMap_append, List.flatMap_singleton]; exact h2⟩ ⟨h3.os, h3.tape, h3.output, h3.size, h3.block⟩ h4 h5
  unfold execOp
  simp only [ho, resolve, invoke, builtin, Sem.run_bind, Sem.run_pure, Result.andThen_ok, List.map_toArray, List.map_cons, List.map_nil, hs, hx, hr]
  exact ⟨w', Dr.refl _, h6, hK _ _ h6 h7⟩
end
/-- Reads of what was there when the call began (in w0), beside writes to what the call has made. -/
theorem wp_region_own {P : Program} (w0 : World) {id : Nat} {l : List Oper} {Q : Exit → Act → World → Prop} {a : Act} {w : World} (n : Nat) (ks : List Nat) (hm : P.follows .mixedOrders = true) (hB : freeB l n ks = true) (hs : Ex w0 w)
    (h : wpQuiet P l.toArray (fun W => ∃ x, W = w0.ext x) (fun a' => wpTl P Dr (Ex w0) (fun W => ∃ x, W = w0.ext x) l.toArray (fun a w' => ∀ n, Q .normal a (w'.drewN n)) ks (l.drop n) a' w) (l.take n) a) :
    (Code.region id l.toArray true).wp P Q a w := by
  refine wp_region_free n ks hm hB Dr (Ex w0) (fun W => ∃ x, W = w0.ext x) (fun _ h => h) Dr.refl (fun w W h k => h.trans (.of_dr k)) ⟨1, rfl⟩ hs ?_
  have : (fun a (w' : World) => ∀ W, Dr w' W → Q .normal a W) = (fun a w' => ∀ n, Q .normal a (w'.drewN n)) := by
    funext a' w'
    simp only [Dr, forall_exists_index, eq_iff_iff]
    exact ⟨fun h n => h _ n rfl, fun h W n hW => hW ▸ h n⟩
  rw [this]
  exact h
end Mix
/-- An append of one entry, at a plain region's list. -/
theorem wpList_append_row {P : Program} {α : Type} (w : World) {ops : Array Oper} {rest : List Oper} {o : Oper} {a : Act} {Q : Exit → Act → World → Prop} (hgd : o.guard = none) (s x : Operand) (t : TypeId)
    (ho : o.op = .call { callee := .builtin .append, args := #[s, x], argTypes := #[t, t] })
    (base : Nat) (e : TypeId) (i : TypeInfo) (z : Value) (size bytes : Nat) (ht : P.underlying t = some (.slice e)) (hi : P.info? e = some i) (hz : i.zero = some z)
    (hsize : i.size = size) (hby : i.bytes = bytes) (hzs : z.cells.size = size) (hsz : 0 < size)
    (f : α → List Value) (v : Value) (L : List α) (y : α) (hs : a.eval s = v) (hown : w.Row base e size f v L)
    (ad : Addr) (c : Nat) (hx : a.eval x = .slice (some ad) 1 c) (hnews : ∀ j u, (f y)[j]? = some u → w.cell? (ad.add j) = some u) (h1 : ∀ u ∈ f y, u.oneCell' = true)
    (h63 : L.length + 1 ≤ maxLen) (hbytes : (L.length + 1) * bytes ≤ 140737488355328) (hbase : base ≤ w.heap.size)
    (h : ∀ g cap w', w'.Row base e size f (.slice (some ⟨g, 0, none⟩) (L.length + 1) cap) (L ++ [y]) → w.grownBy w' v.ownBlock → (v.ownBlock = some g ∨ g = w.heap.size) → g < w'.heap.size →
      wpList P ops Q rest (a.put o.dst (.slice (some ⟨g, 0, none⟩) (L.length + 1) cap)) w') :
    wpList P ops Q (o :: rest) a w :=
  wpList_append_lies w hgd s x t ho base e i z size bytes ht hi hz hsize hby hzs hsz v L.length (L.flatMap f) hs hown.own ad 1 c (f y) hx (by rw [hown.len]; omega) hnews h1 (by omega) h63 hbytes hbase _ rfl
    fun g cap w' h2 h3 h4 h5 => h g cap w' ⟨hown.len, by rw [List.length_append, List.length_singleton, List.flatMap_append, List.flatMap_singleton]; exact h2⟩ h3 h4 h5
end Go
